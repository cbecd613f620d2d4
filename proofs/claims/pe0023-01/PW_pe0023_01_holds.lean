import PyProof.Rows.All
import Wide.All
import OpenK.AllK
import Wide.FinOn
import PySem.Challenge.RW_pe0023_01
set_option Elab.async false
section
open PySem PySem.W PySem.Calls PyProof.Rows
set_option maxRecDepth 100000
set_option maxHeartbeats 4000000
set_option linter.unusedVariables false
namespace Mine
abbrev pg : Program := PySem.Challenge.pw_pe0023_01
def stA (i : Nat) : Arguments := match pg.main.body[i]? with
  | some (.FunctionDef _ a _ _ _ _ _ _ _ _) => a
  | _ => ⟨[], [], none, [], [], none, []⟩
def stB (i : Nat) : List Stmt := match pg.main.body[i]? with
  | some (.FunctionDef _ _ b _ _ _ _ _ _ _) => b
  | _ => []
def stS (i : Nat) : Scope := match pg.main.body[i]? with
  | some (.FunctionDef _ _ _ _ _ _ s _ _ _) => s
  | _ => pg.main.scope

/-- what stands stays -/
abbrev Kp (h h' : Heap) : Prop := ∀ b o, h.get? b = some o → h'.get? b = some o
theorem Kp.rfl' {h : Heap} : Kp h h := fun _ _ e => e
theorem Kp.tr {h h' h'' : Heap} (a : Kp h h') (b : Kp h' h'') : Kp h h'' := fun x o e => b x o (a x o e)

structure Fn (h : Heap) (a : Addr) (nm : Str) (ps : Arguments) (body : List Stmt) (sc : Scope) (cd : Value) : Prop where
  at_ : ∃ o pm doc, h.get? a = some o ∧ o.data = .func (Calls.docDef nm ps body sc pm cd doc)
  rec_ : h.CodeRec cd nm
theorem Fn.keeps {h h' : Heap} {a : Addr} {nm : Str} {ps : Arguments} {body : List Stmt} {sc : Scope} {cd : Value} (F : Fn h a nm ps body sc cd) (k : Kp h h') : Fn h' a nm ps body sc cd :=
  ⟨let ⟨o, pm, doc, e, d⟩ := F.at_; ⟨o, pm, doc, k _ _ e, d⟩, F.rec_.keeps k⟩

/-- the names of the text, where they stand -/
def tab : List (Str × Addr) := [("_parse_varint", 21), ("b1_set", 29), ("in_table_b1", 39), ("in_table_c4", 46), ("c6_set", 48), ("in_table_c6", 58), ("c7_set", 60), ("in_table_c7", 70), ("c8_set", 84), ("in_table_c8", 94), ("c9_set", 102), ("in_table_c9", 112), ("_law_ranges", 117), ("_law_octets", 124), ("_law_packed", 129), ("_law_read", 136), ("_law_right", 141), ("law", 146)]
def bnames : List Str := ["len", "range", "min", "next", "iter", "ord", "chr", "StopIteration"]
/-- the ground: names, defs, sets -/
structure Base (w : World) (h : Heap) : Prop where
  ns : ∃ mg mb, h.Ns mainGlobals mg ∧ h.Ns builtinsNs mb ∧ (∀ x a, (x, a) ∈ tab → mg x = some (.ref a)) ∧ (∀ x ∈ bnames, mg x = none) ∧ (∀ x ∈ bnames, mb x = bootBuiltins x)
  lim : h.NoLimit
  pv : ∃ cd, Fn h 21 "_parse_varint" (stA 1) (stB 1) (stS 1) cd
  b1 : ∃ cd, Fn h 39 "in_table_b1" (stA 4) (stB 4) (stS 4) cd
  c4 : ∃ cd, Fn h 46 "in_table_c4" (stA 5) (stB 5) (stS 5) cd
  c6 : ∃ cd, Fn h 58 "in_table_c6" (stA 7) (stB 7) (stS 7) cd
  c7 : ∃ cd, Fn h 70 "in_table_c7" (stA 9) (stB 9) (stS 9) cd
  c8 : ∃ cd, Fn h 94 "in_table_c8" (stA 11) (stB 11) (stS 11) cd
  c9 : ∃ cd, Fn h 112 "in_table_c9" (stA 13) (stB 13) (stS 13) cd
  rg : ∃ cd, Fn h 117 "_law_ranges" (stA 15) (stB 15) (stS 15) cd
  oc : ∃ cd, Fn h 124 "_law_octets" (stA 16) (stB 16) (stS 16) cd
  pk : ∃ cd, Fn h 129 "_law_packed" (stA 17) (stB 17) (stS 17) cd
  rd : ∃ cd, Fn h 136 "_law_read" (stA 18) (stB 18) (stS 18) cd
  ri : ∃ cd, Fn h 141 "_law_right" (stA 19) (stB 19) (stS 19) cd
  sb1 : ∃ n, h.SetOf (intKind pg w) 29 (fun k => decide (k ∈ ([173, 847, 6150, 6155, 6156, 6157, 8203, 8204, 8205, 8288, 65279] : List Int)) || (decide (65024 ≤ k) && decide (k < 65040))) n
  sc6 : ∃ n, h.SetOf (intKind pg w) 48 (fun k => decide (65529 ≤ k) && decide (k < 65534)) n
  sc7 : ∃ n, h.SetOf (intKind pg w) 60 (fun k => decide (12272 ≤ k) && decide (k < 12284)) n
  sc8 : ∃ n, h.SetOf (intKind pg w) 84 (fun k => decide (k ∈ ([832, 833, 8206, 8207] : List Int)) || (decide (8234 ≤ k) && decide (k < 8239)) || (decide (8298 ≤ k) && decide (k < 8304))) n
  sc9 : ∃ n, h.SetOf (intKind pg w) 102 (fun k => decide (k = 917505) || (decide (917536 ≤ k) && decide (k < 917632))) n
theorem SetOf.kp {w : World} {h h' : Heap} {a : Addr} {S : Int → Bool} {n : Nat} (x : h.SetOf (intKind pg w) a S n) (k : Kp h h') : h'.SetOf (intKind pg w) a S n :=
  let ⟨o, es, ep, t, e, r⟩ := x; ⟨o, es, ep, t, k _ _ e, r⟩
theorem Base.keeps {w : World} {h h' : Heap} (B : Base w h) (k : Kp h h') : Base w h' where
  ns := let ⟨mg, mb, a, b, r⟩ := B.ns; ⟨mg, mb, a.keeps k, b.keeps k, r⟩
  lim := B.lim.keeps k
  pv := B.pv.imp fun _ F => F.keeps k
  b1 := B.b1.imp fun _ F => F.keeps k
  c4 := B.c4.imp fun _ F => F.keeps k
  c6 := B.c6.imp fun _ F => F.keeps k
  c7 := B.c7.imp fun _ F => F.keeps k
  c8 := B.c8.imp fun _ F => F.keeps k
  c9 := B.c9.imp fun _ F => F.keeps k
  rg := B.rg.imp fun _ F => F.keeps k
  oc := B.oc.imp fun _ F => F.keeps k
  pk := B.pk.imp fun _ F => F.keeps k
  rd := B.rd.imp fun _ F => F.keeps k
  ri := B.ri.imp fun _ F => F.keeps k
  sb1 := B.sb1.imp fun _ x => SetOf.kp x k
  sc6 := B.sc6.imp fun _ x => SetOf.kp x k
  sc7 := B.sc7.imp fun _ x => SetOf.kp x k
  sc8 := B.sc8.imp fun _ x => SetOf.kp x k
  sc9 := B.sc9.imp fun _ x => SetOf.kp x k

theorem bb_len : bootBuiltins "len" = some (.builtin "len") := by decide +kernel
theorem bb_range : bootBuiltins "range" = some (.type "range") := by decide +kernel
theorem bb_min : bootBuiltins "min" = some (.builtin "min") := by decide +kernel
theorem bb_next : bootBuiltins "next" = some (.builtin "next") := by decide +kernel
theorem bb_iter : bootBuiltins "iter" = some (.builtin "iter") := by decide +kernel
theorem bb_ord : bootBuiltins "ord" = some (.builtin "ord") := by decide +kernel
theorem bb_chr : bootBuiltins "chr" = some (.builtin "chr") := by decide +kernel
theorem bb_stop : bootBuiltins "StopIteration" = some (.type "StopIteration") := by decide +kernel
section
variable {w : World} {A : Around} {E : Value → Shared → Prop} {s : Shared}
/-- a name of the text, in a def's frame -/
theorem nm_text {env : Env} {x : Str} {a : Addr} {pos : Pos} {Q : Value → Shared → Prop} (B : Base w s.heap) (hx : (x, a) ∈ tab) (h : Q (.ref a) s)
    (hg : env.globals = mainGlobals) (hk : env.scope.kind = .function) (hi : env.kindOf x = some .globalImplicit) (hd : (x == ("__debug__" : Str)) = false := by decide) :
    wpAny (model pg w) A (eval (.Name x pos) env) Q E s := by
  obtain ⟨mg, mb, g, b, t, _⟩ := B.ns
  exact Name_function_global hk hi (loadGlobal_global (env := env) (by rw [hg]; exact g) (t x a hx) h) hd
theorem nm_built {env : Env} {x : Str} {v : Value} {pos : Pos} {Q : Value → Shared → Prop} (B : Base w s.heap) (hx : x ∈ bnames) (hv : bootBuiltins x = some v) (h : Q v s)
    (hg : env.globals = mainGlobals) (hb : env.builtins = builtinsNs) (hk : env.scope.kind = .function) (hi : env.kindOf x = some .globalImplicit) (hd : (x == ("__debug__" : Str)) = false := by decide) :
    wpAny (model pg w) A (eval (.Name x pos) env) Q E s := by
  obtain ⟨mg, mb, g, b, _, n, m⟩ := B.ns
  exact Name_function_global hk hi (loadGlobal_builtin (env := env) (by rw [hg]; exact g) (n x hx) (by rw [hb]; exact b) ((m x hx).trans hv) h) hd
end
end Mine
end
section
open PySem PySem.W PySem.Calls PyProof.Rows
set_option maxRecDepth 100000
set_option maxHeartbeats 4000000
set_option linter.unusedVariables false
namespace Mine
/-- what the judges tell of a code point -/
def isB1 (k : Int) : Bool := decide (k ∈ ([173, 847, 6150, 6155, 6156, 6157, 8203, 8204, 8205, 8288, 65279] : List Int)) || (decide (65024 ≤ k) && decide (k < 65040))
def isC4 (k : Int) : Bool := if k < 64976 then false else if k < 65008 then true else decide (k % 65536 = 65534) || decide (k % 65536 = 65535)
def isC6 (k : Int) : Bool := decide (65529 ≤ k) && decide (k < 65534)
def isC7 (k : Int) : Bool := decide (12272 ≤ k) && decide (k < 12284)
def isC8 (k : Int) : Bool := decide (k ∈ ([832, 833, 8206, 8207] : List Int)) || (decide (8234 ≤ k) && decide (k < 8239)) || (decide (8298 ≤ k) && decide (k < 8304))
def isC9 (k : Int) : Bool := decide (k = 917505) || (decide (917536 ≤ k) && decide (k < 917632))
section
variable {w : World} {A : Around} {E : Value → Shared → Prop} {s : Shared}
theorem judge_b1 {c : Nat} {t : Tok} {Q : Value → Shared → Prop} (B : Base w s.heap) (hr : A.depth < recursionLimit)
    (hQ : ∀ h' tk, Kp s.heap h' → Q (.bool (isB1 (c : Int))) { s with heap := h', toks := tk }) :
    wpAny (model pg w) A (call (.ref 39) [.str ⟨#[c]⟩ t]) Q E s := by
  obtain ⟨cd, F⟩ := B.b1
  obtain ⟨o, pm, doc, ho, hd⟩ := F.at_
  refine wpAny_call (call_plain_ret (binds := [("code", .str ⟨#[c]⟩ t)]) hr ho hd B.lim F.rec_ (by rfl) (locs (by kernel_rfl)) (fun h₁ F₁ => ?_) (by decide +kernel) (by decide +kernel) (by decide +kernel) (by decide +kernel))
  have B₁ := B.keeps F₁.keep
  conv => enter [3, 1]; whnf
  refine wpAny_execs_cons (wpAny_Return_some (wpAny_Compare1 (Call_ (nm_built B₁ (by decide) bb_ord ?_ rfl rfl (by kernel_rfl) (by kernel_rfl)))))
  refine PyProof.Rows.callWith_builtin1 (args_cons (ld F₁ (by rfl) (args_nil (P.ord_of_char ?_)) (by kernel_rfl) (by kernel_rfl)))
  obtain ⟨n, hS⟩ := B₁.sb1
  refine nm_text (a := 29) B₁ (by decide) (wpAny_inSet_of (intKind_is _ _ _ _) rfl hS ?_) rfl (by kernel_rfl) (by kernel_rfl)
  exact hQ _ _ F₁.keep
theorem judge_c6 {c : Nat} {t : Tok} {Q : Value → Shared → Prop} (B : Base w s.heap) (hr : A.depth < recursionLimit)
    (hQ : ∀ h' tk, Kp s.heap h' → Q (.bool (isC6 (c : Int))) { s with heap := h', toks := tk }) :
    wpAny (model pg w) A (call (.ref 58) [.str ⟨#[c]⟩ t]) Q E s := by
  obtain ⟨cd, F⟩ := B.c6
  obtain ⟨o, pm, doc, ho, hd⟩ := F.at_
  refine wpAny_call (call_plain_ret (binds := [("code", .str ⟨#[c]⟩ t)]) hr ho hd B.lim F.rec_ (by rfl) (locs (by kernel_rfl)) (fun h₁ F₁ => ?_) (by decide +kernel) (by decide +kernel) (by decide +kernel) (by decide +kernel))
  have B₁ := B.keeps F₁.keep
  conv => enter [3, 1]; whnf
  refine wpAny_execs_cons (wpAny_Return_some (wpAny_Compare1 (Call_ (nm_built B₁ (by decide) bb_ord ?_ rfl rfl (by kernel_rfl) (by kernel_rfl)))))
  refine PyProof.Rows.callWith_builtin1 (args_cons (ld F₁ (by rfl) (args_nil (P.ord_of_char ?_)) (by kernel_rfl) (by kernel_rfl)))
  obtain ⟨n, hS⟩ := B₁.sc6
  refine nm_text (a := 48) B₁ (by decide) (wpAny_inSet_of (intKind_is _ _ _ _) rfl hS ?_) rfl (by kernel_rfl) (by kernel_rfl)
  exact hQ _ _ F₁.keep
theorem judge_c7 {c : Nat} {t : Tok} {Q : Value → Shared → Prop} (B : Base w s.heap) (hr : A.depth < recursionLimit)
    (hQ : ∀ h' tk, Kp s.heap h' → Q (.bool (isC7 (c : Int))) { s with heap := h', toks := tk }) :
    wpAny (model pg w) A (call (.ref 70) [.str ⟨#[c]⟩ t]) Q E s := by
  obtain ⟨cd, F⟩ := B.c7
  obtain ⟨o, pm, doc, ho, hd⟩ := F.at_
  refine wpAny_call (call_plain_ret (binds := [("code", .str ⟨#[c]⟩ t)]) hr ho hd B.lim F.rec_ (by rfl) (locs (by kernel_rfl)) (fun h₁ F₁ => ?_) (by decide +kernel) (by decide +kernel) (by decide +kernel) (by decide +kernel))
  have B₁ := B.keeps F₁.keep
  conv => enter [3, 1]; whnf
  refine wpAny_execs_cons (wpAny_Return_some (wpAny_Compare1 (Call_ (nm_built B₁ (by decide) bb_ord ?_ rfl rfl (by kernel_rfl) (by kernel_rfl)))))
  refine PyProof.Rows.callWith_builtin1 (args_cons (ld F₁ (by rfl) (args_nil (P.ord_of_char ?_)) (by kernel_rfl) (by kernel_rfl)))
  obtain ⟨n, hS⟩ := B₁.sc7
  refine nm_text (a := 60) B₁ (by decide) (wpAny_inSet_of (intKind_is _ _ _ _) rfl hS ?_) rfl (by kernel_rfl) (by kernel_rfl)
  exact hQ _ _ F₁.keep
theorem judge_c8 {c : Nat} {t : Tok} {Q : Value → Shared → Prop} (B : Base w s.heap) (hr : A.depth < recursionLimit)
    (hQ : ∀ h' tk, Kp s.heap h' → Q (.bool (isC8 (c : Int))) { s with heap := h', toks := tk }) :
    wpAny (model pg w) A (call (.ref 94) [.str ⟨#[c]⟩ t]) Q E s := by
  obtain ⟨cd, F⟩ := B.c8
  obtain ⟨o, pm, doc, ho, hd⟩ := F.at_
  refine wpAny_call (call_plain_ret (binds := [("code", .str ⟨#[c]⟩ t)]) hr ho hd B.lim F.rec_ (by rfl) (locs (by kernel_rfl)) (fun h₁ F₁ => ?_) (by decide +kernel) (by decide +kernel) (by decide +kernel) (by decide +kernel))
  have B₁ := B.keeps F₁.keep
  conv => enter [3, 1]; whnf
  refine wpAny_execs_cons (wpAny_Return_some (wpAny_Compare1 (Call_ (nm_built B₁ (by decide) bb_ord ?_ rfl rfl (by kernel_rfl) (by kernel_rfl)))))
  refine PyProof.Rows.callWith_builtin1 (args_cons (ld F₁ (by rfl) (args_nil (P.ord_of_char ?_)) (by kernel_rfl) (by kernel_rfl)))
  obtain ⟨n, hS⟩ := B₁.sc8
  refine nm_text (a := 84) B₁ (by decide) (wpAny_inSet_of (intKind_is _ _ _ _) rfl hS ?_) rfl (by kernel_rfl) (by kernel_rfl)
  exact hQ _ _ F₁.keep
theorem judge_c9 {c : Nat} {t : Tok} {Q : Value → Shared → Prop} (B : Base w s.heap) (hr : A.depth < recursionLimit)
    (hQ : ∀ h' tk, Kp s.heap h' → Q (.bool (isC9 (c : Int))) { s with heap := h', toks := tk }) :
    wpAny (model pg w) A (call (.ref 112) [.str ⟨#[c]⟩ t]) Q E s := by
  obtain ⟨cd, F⟩ := B.c9
  obtain ⟨o, pm, doc, ho, hd⟩ := F.at_
  refine wpAny_call (call_plain_ret (binds := [("code", .str ⟨#[c]⟩ t)]) hr ho hd B.lim F.rec_ (by rfl) (locs (by kernel_rfl)) (fun h₁ F₁ => ?_) (by decide +kernel) (by decide +kernel) (by decide +kernel) (by decide +kernel))
  have B₁ := B.keeps F₁.keep
  conv => enter [3, 1]; whnf
  refine wpAny_execs_cons (wpAny_Return_some (wpAny_Compare1 (Call_ (nm_built B₁ (by decide) bb_ord ?_ rfl rfl (by kernel_rfl) (by kernel_rfl)))))
  refine PyProof.Rows.callWith_builtin1 (args_cons (ld F₁ (by rfl) (args_nil (P.ord_of_char ?_)) (by kernel_rfl) (by kernel_rfl)))
  obtain ⟨n, hS⟩ := B₁.sc9
  refine nm_text (a := 102) B₁ (by decide) (wpAny_inSet_of (intKind_is _ _ _ _) rfl hS ?_) rfl (by kernel_rfl) (by kernel_rfl)
  exact hQ _ _ F₁.keep
theorem judge_c4 {c : Nat} {t : Tok} {Q : Value → Shared → Prop} (B : Base w s.heap) (hr : A.depth < recursionLimit)
    (hQ : ∀ h' tk, Kp s.heap h' → Q (.bool (isC4 (c : Int))) { s with heap := h', toks := tk }) :
    wpAny (model pg w) A (call (.ref 46) [.str ⟨#[c]⟩ t]) Q E s := by
  obtain ⟨cd, F⟩ := B.c4
  obtain ⟨o, pm, doc, ho, hd⟩ := F.at_
  refine wpAny_call (call_plain_ret (binds := [("code", .str ⟨#[c]⟩ t)]) hr ho hd B.lim F.rec_ (by rfl) (locs (by kernel_rfl)) (fun h₁ F₁ => ?_) (by decide +kernel) (by decide +kernel) (by decide +kernel) (by decide +kernel))
  have B₁ := B.keeps F₁.keep
  conv => enter [3, 1]; whnf
  refine wpAny_execs_cons (wpAny_Assign_Name (Call_ (nm_built B₁ (by decide) bb_ord ?_ rfl rfl (by kernel_rfl) (by kernel_rfl))) (by kernel_rfl))
  refine PyProof.Rows.callWith_builtin1 (args_cons (ld F₁ (by rfl) (args_nil (P.ord_of_char ?_)) (by kernel_rfl) (by kernel_rfl)))
  refine st F₁ (fun h₂ F₂ => ?_) (by kernel_rfl) (by kernel_rfl)
  have B₂ := B.keeps F₂.keep
  dsimp only
  refine wpAny_execs_cons (wpAny_If (wpAny_isTrue_Compare1 (ld F₂ (by rfl) (wpAny_Constant_int (lt_int (wpAny_truthy_bool ?_))) (by kernel_rfl) (by kernel_rfl))))
  dsimp only
  generalize hn : (64976 : Int) = n1
  rcases Decidable.em ((c : Int) < n1) with h1 | h1
  · rw [decide_eq_true h1, if_pos rfl]
    subst hn
    refine wpAny_execs_cons (wpAny_Return_some ?_)
    have e : isC4 (c : Int) = false := by unfold isC4; rw [if_pos h1]
    refine Constant_bool ?_
    rw [← e]
    exact hQ _ _ F₂.keep
  rw [decide_eq_false h1, if_neg Bool.false_ne_true]
  subst hn
  refine wpAny_execs_nil ?_
  dsimp only
  refine wpAny_execs_cons (wpAny_If (wpAny_isTrue_Compare1 (ld F₂ (by rfl) (wpAny_Constant_int (lt_int (wpAny_truthy_bool ?_))) (by kernel_rfl) (by kernel_rfl))))
  dsimp only
  generalize hn : (65008 : Int) = n1
  rcases Decidable.em ((c : Int) < n1) with h2 | h2
  · rw [decide_eq_true h2, if_pos rfl]
    subst hn
    refine wpAny_execs_cons (wpAny_Return_some ?_)
    have e : isC4 (c : Int) = true := by unfold isC4; rw [if_neg h1, if_pos h2]
    refine Constant_bool ?_
    rw [← e]
    exact hQ _ _ F₂.keep
  rw [decide_eq_false h2, if_neg Bool.false_ne_true]
  subst hn
  refine wpAny_execs_nil ?_
  dsimp only
  refine wpAny_execs_cons (wpAny_Return_some (wpAny_Compare1 (wpAny_BinOp (Call_ (nm_built B₂ (by decide) bb_ord ?_ rfl rfl (by kernel_rfl) (by kernel_rfl))))))
  refine PyProof.Rows.callWith_builtin1 (args_cons (ld F₂ (by rfl) (args_nil (P.ord_of_char (wpAny_Constant_int (and_int ?_)))) (by kernel_rfl) (by kernel_rfl)))
  dsimp only
  refine Tuple_ (args_cons (wpAny_Constant_int (args_cons (wpAny_Constant_int (args_nil ?_)))))
  dsimp only
  refine newTuple_N F₂ News.nil (fun h₃ F₃ N₃ => ?_)
  refine in_tuple_ints (items := #[.int 65534 _, .int 65535 _]) (ns := [65534, 65535]) ⟨_, N₃.get (.head _), rfl, 0, rfl⟩ (.cons _ _ (.cons _ _ .nil)) ?_
  have e : isC4 (c : Int) = ([65534, 65535] : List Int).any (fun x => x == Builtin.bitAnd (c : Int) 65535) := by
    unfold isC4
    rw [if_neg h1, if_neg h2, bitAnd_pp (by omega) (by decide)]
    have e1 : (c : Int).toNat &&& (65535 : Int).toNat = c % 65536 := by
      show c &&& (2 ^ 16 - 1) = c % 2 ^ 16
      exact Nat.and_two_pow_sub_one_eq_mod c 16
    rw [e1]
    have e2 : ((c % 65536 : Nat) : Int) = (c : Int) % 65536 := by omega
    rw [e2]
    generalize (c : Int) % 65536 = m
    simp only [List.any_cons, List.any_nil, Bool.or_false]
    congr 1 <;> (rw [Bool.eq_iff_iff]; simp only [decide_eq_true_eq, beq_iff_eq]; exact eq_comm)
  dsimp only
  rw [← e]
  exact hQ _ _ F₃.keep
end
end Mine
end
section
open PySem PySem.W PySem.Calls PyProof.Rows
set_option maxRecDepth 100000
set_option maxHeartbeats 4000000
set_option linter.unusedVariables false
namespace Mine
/-- the values of a list of ints -/
def IntsV (vs : List Value) (ns : List Int) : Prop := IntsAre vs ns
theorem ints_get {vs : List Value} {ns : List Int} (h : IntsAre vs ns) : ∀ {i : Nat} {n : Int}, ns[i]? = some n → ∃ t, vs[i]? = some (.int n t) := by
  induction h with
  | nil => intro i n e; simp at e
  | cons m t _ ih =>
    intro i n e
    cases i with
    | zero => simp at e; subst e; exact ⟨t, rfl⟩
    | succ i => simp at e; simpa using ih e
theorem ints_none {vs : List Value} {ns : List Int} (h : IntsAre vs ns) : ∀ {i : Nat}, ns[i]? = none → vs[i]? = none := by
  induction h with
  | nil => intro i _; simp
  | cons m t _ ih =>
    intro i e
    cases i with
    | zero => simp at e
    | succ i => simp at e; simpa using e |> fun q => ih (by simpa using q)

section
variable {M : Model} {A : Around} {E : Value → Shared → Prop} {s : Shared} {name : Str} {scope : Scope} {L a : Addr} {cd : Value} {h₀ : Heap} {m : Str → Option Value}
/-- a store under a local name; all else stays -/
theorem stK {x : Str} {v : Value} {Q : Unit → Shared → Prop} (F : Fr h₀ L s.heap m)
    (h : ∀ h', Fr h₀ L h' (fun y => if y = x then some v else m y) → Heap.SameBut L s.heap h' → Q () { s with heap := h', toks := s.toks + 1 })
    (hk : scope.kind = .function) (hl : (envOf name scope L a cd).kindOf x = some .local) :
    wpAny M A (storeName (envOf name scope L a cd) x v) Q E s :=
  wpAny_storeName_local hl F.ns (fun h' hn hs => h h' (F.set hn hs) hs)
    (by show (scope.kind == .class || (scope.kind == .module && L != mainGlobals)) = false; rw [hk]; rfl)
end
theorem IsListIter.same {h h' : Heap} {it l b : Addr} {i : Nat} (x : h.IsListIter it l i) (hs : Heap.SameBut b h h') (hne : it ≠ b) : h'.IsListIter it l i :=
  let ⟨o, e, r⟩ := x; ⟨o, (hs.2 it hne).trans e, r⟩
theorem IsList.same {h h' : Heap} {l b : Addr} {its : Array Value} (x : h.IsList l its) (hs : Heap.SameBut b h h') (hne : l ≠ b) : h'.IsList l its :=
  let ⟨o, e, r⟩ := x; ⟨o, (hs.2 l hne).trans e, r⟩
theorem IsList.kp {h h' : Heap} {l : Addr} {its : Array Value} (x : h.IsList l its) (k : Kp h h') : h'.IsList l its := let ⟨o, e, r⟩ := x; ⟨o, k _ _ e, r⟩
theorem IsListIter.kp {h h' : Heap} {it l : Addr} {i : Nat} (x : h.IsListIter it l i) (k : Kp h h') : h'.IsListIter it l i := let ⟨o, e, r⟩ := x; ⟨o, k _ _ e, r⟩
section
variable {prog : Program} {w : World} {A : Around} {E : Value → Shared → Prop} {s : Shared}
/-- next on a list's iterator: an item -/
theorem next_item {it l : Addr} {i : Nat} {items : Array Value} {x : Value} {Q : Value → Shared → Prop} (hit : s.heap.IsListIter it l i) (hl : s.heap.IsList l items) (hx : items[i]? = some x)
    (hQ : ∀ h', h'.IsListIter it l (i + 1) → Heap.SameBut it s.heap h' → Q x { s with heap := h' }) :
    wpAny (model prog w) A (call (.builtin "next") [.ref it]) Q E s := by
  obtain ⟨o, ho, hc, hd⟩ := id hit
  obtain ⟨ol, hol, _, nl, hdl⟩ := hl
  refine call_function_entry (by decide +kernel) (by decide +kernel) kdk_entry_next (kdk_args_next _) ?_
  unfold Builtin.«next»
  refine wpAny_bind (m := someArgs "next" 1 2 _) (wpAny_of_eq (a := [Value.ref it]) (by first | rfl | kernel_rfl!) ?_)
  dsimp only
  refine wpAny_bind (wpAny_specialOf (name := Str.ofString "__next__") hit.typeIs slot_listiter_next.lookup ?_)
  refine wpAny_ite_split (fun hab => absurd hab (by decide)) (fun _ => ?_)
  refine wpAny_bind (wpAny_callSpecial?_slot (name := Str.ofString "__next__") hit.typeIs slot_listiter_next
    (wpAny_call_entry slot_listiter_next hit.typeIs entry_listiter_next ?_ (args_listiter_next _)))
  show wpAny _ _ (field (.ref it) 0 >>= _) _ _ s
  refine wpAny_bind (wpAny_field ho hd (x := .ref l) rfl ?_)
  show wpAny _ _ (if (Value.ref l == Value.none) = true then _ else _) _ _ s
  rw [if_neg (show ¬ ((Value.ref l == Value.none) = true) from Bool.false_ne_true)]
  show wpAny _ _ (field (.ref it) 1 >>= _) _ _ s
  refine wpAny_bind (wpAny_field ho hd (x := .int i 0) rfl ?_)
  show wpAny _ _ (seqItems? (.ref l) >>= _) _ _ s
  refine wpAny_bind (wpAny_seqItems hol hdl ?_)
  simp only [Int.toNat_natCast, hx]
  refine wpAny_bind (wpAny_setField ho hd (by simp) (wpAny_pure ⟨x, rfl, wpAny_pure ⟨x, rfl, hQ _ ?_ (Heap.SameBut.update ..)⟩⟩))
  exact ⟨_, Heap.get?_update_self _ ho (Obj.isFreed_of_fields (Obj.data_mapFields hd _)), (Obj.cls_mapFields ..).trans hc, by
    rw [Obj.data_mapFields hd]; simp [rawInt]⟩
/-- next on a list's iterator at its end: StopIteration -/
theorem next_end {it l : Addr} {i : Nat} {items : Array Value} {Q : Value → Shared → Prop} (hh : A.handled = none) (hit : s.heap.IsListIter it l i) (hl : s.heap.IsList l items) (hx : items[i]? = none)
    (hE : ∀ h' h'' e, Heap.SameBut it s.heap h' → Heap.NewExc h' h'' e "StopIteration" → E (.ref e) { s with heap := h'' }) :
    wpAny (model prog w) A (call (.builtin "next") [.ref it]) Q E s := by
  obtain ⟨o, ho, hc, hd⟩ := id hit
  obtain ⟨ol, hol, _, nl, hdl⟩ := hl
  refine call_function_entry (by decide +kernel) (by decide +kernel) kdk_entry_next (kdk_args_next _) ?_
  unfold Builtin.«next»
  refine wpAny_bind (m := someArgs "next" 1 2 _) (wpAny_of_eq (a := [Value.ref it]) (by first | rfl | kernel_rfl!) ?_)
  dsimp only
  refine wpAny_bind (wpAny_specialOf (name := Str.ofString "__next__") hit.typeIs slot_listiter_next.lookup ?_)
  refine wpAny_ite_split (fun hab => absurd hab (by decide)) (fun _ => ?_)
  refine wpAny_bind (wpAny_callSpecial?_slot (name := Str.ofString "__next__") hit.typeIs slot_listiter_next
    (wpAny_call_entry slot_listiter_next hit.typeIs entry_listiter_next ?_ (args_listiter_next _)))
  show wpAny _ _ (field (.ref it) 0 >>= _) _ _ s
  refine wpAny_bind (wpAny_field ho hd (x := .ref l) rfl ?_)
  show wpAny _ _ (if (Value.ref l == Value.none) = true then _ else _) _ _ s
  rw [if_neg (show ¬ ((Value.ref l == Value.none) = true) from Bool.false_ne_true)]
  show wpAny _ _ (field (.ref it) 1 >>= _) _ _ s
  refine wpAny_bind (wpAny_field ho hd (x := .int i 0) rfl ?_)
  show wpAny _ _ (seqItems? (.ref l) >>= _) _ _ s
  refine wpAny_bind (wpAny_seqItems hol hdl ?_)
  simp only [Int.toNat_natCast, hx]
  refine wpAny_bind (wpAny_rule (wpAny_bind (wpAny_setField ho hd (by simp) ?_)))
  show wpAny _ _ (newExc (.type "StopIteration") [] >>= _) _ _ _
  refine wpAny_bind ?_
  simp only [newExc, newTuple]
  refine wpAny_bind (wpAny_newObj_type ?_ (by size_fits))
  refine wpAny_bind (m := firstArgMember _ _) (wpAny_of_eq (a := Value.none) (by first | rfl | (simp only [firstArgMember]; rfl)) ?_)
  refine wpAny_newObj_type ?_ (by size_fits)
  simp only [raiseNew]
  refine wpAny_bind (wpAny_handled ?_)
  first | rw [show A.in1.handled = none from hh] | rw [hh] | rw [show A.in1.in1.handled = none from hh]
  refine wpAny_bind (wpAny_pure (wpAny_throw ?_))
  refine hE _ _ _ (Heap.SameBut.update (s.heap) it _) ⟨fun b o e => Heap.get?_push_of_some _ (Heap.get?_push_of_some _ e), ?_, ?_⟩
  · exact Heap.get?_none_of_le (by simp)
  · exact ⟨_, _, Heap.get?_push_size _ rfl, rfl, rfl⟩
end
end Mine
end
section
open PySem PySem.W PySem.Calls PyProof.Rows
set_option maxRecDepth 100000
set_option maxHeartbeats 4000000
set_option linter.unusedVariables false
namespace Mine
def pvLoop (val b : Int) : List Int → Option (Int × List Int)
  | [] => if Builtin.bitAnd b 64 != 0 then none else some (val, [])
  | b' :: r => if Builtin.bitAnd b 64 != 0 then (if val.natAbs < 2 ^ 64 then pvLoop (Builtin.bitOr (val * 2 ^ 6) (Builtin.bitAnd b' 63)) b' r else none) else some (val, b' :: r)
def pv : List Int → Option (Int × List Int)
  | [] => none
  | b :: r => pvLoop (Builtin.bitAnd b 63) b r

theorem Fr.hid {h₀ h : Heap} {L it : Addr} {m : Str → Option Value} (F : Fr h₀ L h m) : Fr (h₀.hide it) L h m :=
  ⟨F.ns, fun b o e => F.keep b o (Heap.of_hide e), by rw [Heap.hide_size]; exact F.above⟩
theorem Fr.same {h₀ h h' : Heap} {L it : Addr} {m : Str → Option Value} (F : Fr (h₀.hide it) L h m) (hs : Heap.SameBut it h h') (hL : L ≠ it) : Fr (h₀.hide it) L h' m :=
  ⟨F.ns.sameBut hs hL, fun b o e => by
    have : b ≠ it := by rintro rfl; rw [Heap.hide_self] at e; cases e
    exact (hs.2 b this).trans (F.keep b o e), F.above⟩
theorem Fr.ext {h₀ h : Heap} {L it : Addr} {m : Str → Option Value} (F : Fr (h₀.hide it) L h m) : ∀ b o, b ≠ it → h₀.get? b = some o → h.get? b = some o :=
  fun b o hb e => F.keep b o ((Heap.hide_ne h₀ hb).trans e)
section
variable {w : World} {A : Around} {E : Value → Shared → Prop} {s : Shared}
theorem pv_ok {hb : Heap} {it l : Addr} {i j : Nat} {items : Array Value} {octs : List Int} {v : Int} {Q : Value → Shared → Prop} (B : Base w hb) (kb : Kp hb s.heap) (hr : A.depth < recursionLimit)
    (hit : s.heap.IsListIter it l i) (hl : s.heap.IsList l items) (hne : l ≠ it) (hi : IntsAre items.toList octs) (hnew : hb.get? it = none) (hj : j ≤ octs.length)
    (hp : pv (octs.drop i) = some (v, octs.drop j))
    (hQ : ∀ h' tk t, h'.IsListIter it l j → (∀ b o, b ≠ it → s.heap.get? b = some o → h'.get? b = some o) → Q (.int v t) { s with heap := h', toks := tk }) :
    wpAny (model pg w) A (call (.ref 21) [.ref it]) Q E s := by
  obtain ⟨cd, F⟩ := B.pv
  have F := F.keeps kb
  obtain ⟨o, pm, doc, ho, hd⟩ := F.at_
  obtain ⟨hp0, g, d, tk, os⟩ := s
  have hitL : it < hp0.objs.size := let ⟨_, e, _⟩ := hit; Heap.lt_size e
  have kbh : Kp hb (hp0.hide it) := fun b o e => (Heap.hide_ne hp0 (by rintro rfl; rw [hnew] at e; cases e)).trans (kb b o e)
  have lh : (hp0.hide it).IsList l items := let ⟨o, e, r⟩ := hl; ⟨o, (Heap.hide_ne hp0 hne).trans e, r⟩
  refine wpAny_call (call_plain_ret (binds := [("iterator", .ref it)]) hr ho hd (B.lim.keeps kb) F.rec_ (by rfl) (locs (by kernel_rfl)) (fun h₁ F₁ => ?_) (by decide +kernel) (by decide +kernel) (by decide +kernel) (by decide +kernel))
  have hit₁ : h₁.IsListIter it l i := let ⟨o, e, r⟩ := hit; ⟨o, F₁.keep _ _ e, r⟩
  have F₁ := Fr.hid (it := it) F₁
  have hLi : hp0.objs.size ≠ it := Nat.ne_of_gt hitL
  cases hdr : octs.drop i with
  | nil => rw [hdr] at hp; cases hp
  | cons b0 rest0 =>
  rw [hdr] at hp
  have hx0 : octs[i]? = some b0 := by have := congrArg (fun l => l[0]?) hdr; simpa using this
  have hdr0 : octs.drop (i + 1) = rest0 := by rw [← List.drop_drop, hdr]; rfl
  conv => enter [3, 1]; whnf
  dsimp only
  have B₁ := B.keeps (kbh.tr F₁.keep)
  refine wpAny_execs_cons (wpAny_Assign_Name (Call_ (nm_built B₁ (by decide) bb_next ?_ rfl rfl (by kernel_rfl) (by kernel_rfl))) (by kernel_rfl))
  obtain ⟨t0, hv0⟩ := ints_get hi hx0
  refine PyProof.Rows.callWith_builtin1 (args_cons (ld F₁ (by rfl) (args_nil (next_item hit₁ (let ⟨o, e, r⟩ := lh; ⟨o, F₁.keep _ _ e, r⟩) (by simpa using hv0) fun h₂ hit₂ hs₂ => ?_)) (by kernel_rfl) (by kernel_rfl)))
  have F₂ := Fr.same F₁ hs₂ hLi
  refine stK F₂ (fun h₃ F₃ hs₃ => ?_) (by kernel_rfl) (by kernel_rfl)
  dsimp only at hs₃ ⊢
  refine wpAny_execs_cons (wpAny_Assign_Name (wpAny_BinOp (ld F₃ (by rfl) (wpAny_Constant_int (and_int ?_)) (by kernel_rfl) (by kernel_rfl))) (by kernel_rfl))
  refine stK F₃ (fun h₄ F₄ hs₄ => ?_) (by kernel_rfl) (by kernel_rfl)
  dsimp only at hs₄ ⊢
  have hit₄ : h₄.IsListIter it l (i + 1) := IsListIter.same (IsListIter.same hit₂ hs₃ hLi.symm) hs₄ hLi.symm
  have hlen : i < octs.length := by
    have := congrArg List.length hdr
    simp at this; omega
  refine wpAny_execs_cons (wpAny_While ?_)
  refine codeAny_whileLoop (fun n s' => ∃ h' tk' i' val b tb tv m', s' = (⟨h', g, d, tk', os⟩ : Shared) ∧ Fr (hp0.hide it) hp0.objs.size h' m' ∧ m' "iterator" = some (.ref it) ∧ m' "b" = some (.int b tb) ∧ m' "val" = some (.int val tv) ∧
      h'.IsListIter it l i' ∧ i' ≤ octs.length ∧ pvLoop val b (octs.drop i') = some (v, octs.drop j) ∧ n = octs.length - i') ?_ (octs.length - (i + 1)) ?_
  · rintro n s' ⟨h', tk', i', val, b, tb, tv, m', rfl, F', m1, m2, m3, hit', hle, hpv, rfl⟩
    refine isTrue_plain (wpAny_BinOp (ld F' m2 (wpAny_Constant_int (and_int (truthy_int ?_))) (by kernel_rfl) (by kernel_rfl)))
    dsimp only
    have B' := B.keeps (kbh.tr F'.keep)
    cases hbit : (Builtin.bitAnd b 64 != 0) with
    | false =>
      rw [if_neg Bool.false_ne_true]
      refine wpAny_execs_nil ?_
      have e : val = v ∧ octs.drop i' = octs.drop j := by
        cases hd' : octs.drop i' with
        | nil => rw [hd'] at hpv; unfold pvLoop at hpv; rw [hbit] at hpv; simpa using hpv
        | cons b' r => rw [hd'] at hpv; unfold pvLoop at hpv; rw [hbit] at hpv; simpa using hpv
      obtain ⟨rfl, e⟩ := e
      have : i' = j := by have := congrArg List.length e; simp at this; omega
      subst this
      dsimp only
      refine wpAny_execs_cons (wpAny_Return_some (ld F' m3 ?_ (by kernel_rfl) (by kernel_rfl)))
      exact hQ h' _ _ hit' (Fr.ext F')
    | true =>
      rw [if_pos rfl]
      cases hd' : octs.drop i' with
      | nil => rw [hd'] at hpv; unfold pvLoop at hpv; rw [hbit] at hpv; simp at hpv
      | cons b' r =>
      rw [hd'] at hpv
      unfold pvLoop at hpv
      rw [hbit, if_pos rfl] at hpv
      have hsm : val.natAbs < 2 ^ 64 := by
        rcases Decidable.em (val.natAbs < 2 ^ 64) with q | q
        · exact q
        · rw [if_neg q] at hpv; cases hpv
      rw [if_pos hsm] at hpv
      have hx' : octs[i']? = some b' := by have := congrArg (fun l => l[0]?) hd'; simpa using this
      have hdr' : octs.drop (i' + 1) = r := by rw [← List.drop_drop, hd']; rfl
      have hlen' : i' < octs.length := by
        have := congrArg List.length hd'
        simp at this; omega
      obtain ⟨t1, hv1⟩ := ints_get hi hx'
      refine wpAny_execs_cons (wpAny_AugAssign_Name (ldn F' m3 (wpAny_Constant_int (ilshift_int_small (by decide) (by decide) hsm ?_)) (by kernel_rfl) (by kernel_rfl)))
      refine stK F' (fun h₅ F₅ hs₅ => ?_) (by kernel_rfl) (by kernel_rfl)
      dsimp only at hs₅ ⊢
      have B₅ := B.keeps (kbh.tr F₅.keep)
      have hit₅ := IsListIter.same hit' hs₅ hLi.symm
      refine wpAny_execs_cons (wpAny_Assign_Name (Call_ (nm_built B₅ (by decide) bb_next ?_ rfl rfl (by kernel_rfl) (by kernel_rfl))) (by kernel_rfl))
      refine PyProof.Rows.callWith_builtin1 (args_cons (ld F₅ (by rw [if_neg (by decide)]; exact m1) (args_nil (next_item hit₅ (let ⟨o, e, r⟩ := lh; ⟨o, F₅.keep _ _ e, r⟩) (by simpa using hv1) fun h₆ hit₆ hs₆ => ?_)) (by kernel_rfl) (by kernel_rfl)))
      have F₆ := Fr.same F₅ hs₆ hLi
      refine stK F₆ (fun h₇ F₇ hs₇ => ?_) (by kernel_rfl) (by kernel_rfl)
      dsimp only at hs₇ ⊢
      have hit₇ := IsListIter.same hit₆ hs₇ hLi.symm
      refine wpAny_execs_cons (wpAny_AugAssign_Name (ldn F₇ (by rfl) (wpAny_BinOp (ld F₇ (by rfl) (wpAny_Constant_int (and_int (ior_int ?_))) (by kernel_rfl) (by kernel_rfl))) (by kernel_rfl) (by kernel_rfl)))
      refine stK F₇ (fun h₈ F₈ hs₈ => ?_) (by kernel_rfl) (by kernel_rfl)
      dsimp only at hs₈ ⊢
      refine wpAny_execs_nil ?_
      refine ⟨octs.length - (i' + 1), by omega, h₈, _, i' + 1, Builtin.bitOr (val * 2 ^ 6) (Builtin.bitAnd b' 63), b', t1, ?tv, _, rfl, F₈, ?_, ?_, by rw [if_pos rfl]; rfl, IsListIter.same hit₇ hs₈ hLi.symm, by omega, ?_, rfl⟩
      · rw [if_neg (by decide), if_neg (by decide), if_neg (by decide)]; exact m1
      · rw [if_neg (by decide), if_pos rfl]
      · rw [hdr']; exact hpv
  · refine ⟨h₄, _, i + 1, Builtin.bitAnd b0 63, b0, t0, _, _, rfl, F₄, rfl, rfl, rfl, hit₄, by omega, ?_, rfl⟩
    rw [hdr0]; exact hp
end
end Mine
end
section
open PySem PySem.W PySem.Calls PyProof.Rows
set_option maxRecDepth 100000
set_option maxHeartbeats 4000000
set_option linter.unusedVariables false
namespace Mine
/-- h' is h with new objects -/
theorem kp_push (h : Heap) (o : Obj) : Kp h (h.push o) := fun b x e => Heap.get?_push_of_some _ e
theorem PL.kp {h h' : Heap} {a : Addr} {its : Array Value} (x : h.PlainList a its) (k : Kp h h') : h'.PlainList a its := let ⟨n, e⟩ := x; ⟨n, k _ _ e⟩
theorem PL.same {h h' : Heap} {a b : Addr} {its : Array Value} (x : h.PlainList a its) (hs : Heap.SameBut b h h') (hne : a ≠ b) : h'.PlainList a its := let ⟨n, e⟩ := x; ⟨n, (hs.2 a hne).trans e⟩
theorem PL.plainL {h : Heap} {a : Addr} {its : Array Value} (x : h.PlainList a its) : PlainL h a its := let ⟨n, e⟩ := x; ⟨_, n, e, rfl, rfl, rfl⟩
theorem PL.lt {h : Heap} {a : Addr} {its : Array Value} (x : h.PlainList a its) : a < h.objs.size := let ⟨n, e⟩ := x; Heap.lt_size e
theorem none_size (h : Heap) : h.get? h.objs.size = none := Heap.get?_none_of_le (Nat.le_refl _)
theorem none_ge {h : Heap} {a : Addr} (x : h.objs.size ≤ a) : h.get? a = none := Heap.get?_none_of_le x
theorem Fr.kp {h₀ h h' : Heap} {L : Addr} {m : Str → Option Value} (F : Fr h₀ L h m) (k : Kp h h') : Fr h₀ L h' m := F.keeps k
/-- a change to an object that is new since h₀ -/
theorem Fr.new {h₀ h h' : Heap} {L D : Addr} {m : Str → Option Value} (F : Fr h₀ L h m) (hs : Heap.SameBut D h h') (hD : h₀.get? D = none) (hL : L ≠ D) : Fr h₀ L h' m :=
  ⟨F.ns.sameBut hs hL, fun b o e => by
    have : b ≠ D := by rintro rfl; rw [hD] at e; cases e
    exact (hs.2 b this).trans (F.keep b o e), F.above⟩
section
variable {prog : Program} {w : World} {A : Around} {E : Value → Shared → Prop} {s : Shared}
theorem new_list {M : Model} {vs : List Value} {Q : Value → Shared → Prop}
    (h : ∀ h', Kp s.heap h' → h'.PlainList s.heap.objs.size vs.toArray → h'.objs.size = s.heap.objs.size + 1 → Q (.ref s.heap.objs.size) { s with heap := h' }) (hsz : vs.length ≤ sizeLine := by size_fits) :
    wpAny M A (newList vs) Q E s :=
  wpAny_newObj_type (h _ (kp_push _ _) ⟨0, Heap.get?_push_size _ rfl⟩ (Heap.size_push ..)) (by show vs.toArray.size ≤ sizeLine; rw [List.size_toArray]; exact hsz)
theorem tail_slice {value slice : Expr} {l : Addr} {items : Array Value} {vl vu vk : Value} {lo hi st : Option Int} {ops : List Value} {Q : Value → Shared → Prop}
    (hl : s.heap.IsList l items) (pl : IsPart vl lo) (pu : IsPart vu hi) (pk : IsPart vk st) (h0 : st ≠ some 0)
    (h : ∀ h', Kp s.heap h' → h'.PlainList (s.heap.objs.size + 1) (slicePick items lo hi st) → h'.objs.size = s.heap.objs.size + 2 → Q (.ref (s.heap.objs.size + 1)) { s with heap := h' })
    (hs : subscripted slice false (.ref l) (.ref s.heap.objs.size) = operate ops (getItem (.ref l) (.ref s.heap.objs.size)))
    (ht : ∀ r, letTemporaryGo value (.ref l) r = pure ())
    (hsz : items.size ≤ sizeLine) :
    wpAny (model prog w) A (subscriptTail value slice (.ref l) (.ref s.heap.objs.size)) Q E { s with heap := s.heap.push { cls := .type "slice", data := .fields #[vl, vu, vk] } } := by
  refine subscriptTail_ops (Heap.IsList.typeIs (s := { s with heap := s.heap.push { cls := .type "slice", data := .fields #[vl, vu, vk] } }) (hl.push _)) list_getitem_lookup
    (wpAny_getItem_list_slice (hl.push _) (Heap.IsSliceOf.new ..) pl pu pk h0 ?_ hsz) hs ht
  show Q (.ref (s.heap.push _).objs.size) _
  rw [Heap.size_push]
  refine h _ ((kp_push _ _).tr (kp_push _ _)) ⟨0, ?_⟩ ?_
  · have := Heap.get?_push_size (h := s.heap.push { cls := .type "slice", data := .fields #[vl, vu, vk] }) (o := { cls := .type "list", data := .seq (slicePick items lo hi st) }) rfl
    rwa [Heap.size_push] at this
  · rw [Heap.size_push, Heap.size_push]
end

def ocGo : Nat → Nat → List Int → Option (List Int)
  | 0, n, ds => if 63 < n then none else some ds
  | f + 1, n, ds => if 63 < n then ocGo f (n / 64) (ds ++ [((n / 64 % 64 + 64 : Nat) : Int)]) else some ds
def oc (n : Nat) : Option (List Int) := (ocGo 10 n [((n % 64 : Nat) : Int)]).map List.reverse
theorem IntsAre.snoc {vs : List Value} {ns : List Int} (h : IntsAre vs ns) (n : Int) (t : Tok) : IntsAre (vs ++ [.int n t]) (ns ++ [n]) := by
  induction h with
  | nil => exact .cons n t .nil
  | cons m u _ ih => exact .cons m u ih
section
variable {w : World} {A : Around} {E : Value → Shared → Prop} {s : Shared}
theorem oc_ok {n : Nat} {t : Tok} {ds : List Int} {Q : Value → Shared → Prop} (B : Base w s.heap) (hr : A.depth < recursionLimit) (ho : oc n = some ds)
    (hQ : ∀ h' tk a vs, Kp s.heap h' → s.heap.get? a = none → h'.PlainList a vs → IntsAre vs.toList ds → Q (.ref a) { s with heap := h', toks := tk }) :
    wpAny (model pg w) A (call (.ref 124) [.int n t]) Q E s := by
  obtain ⟨cd, F⟩ := B.oc
  obtain ⟨o, pm, doc, hof, hd⟩ := F.at_
  obtain ⟨hp0, g, d, tk, os⟩ := s
  refine wpAny_call (call_plain_ret (binds := [("number", .int n t)]) hr hof hd B.lim F.rec_ (by rfl) (locs (by kernel_rfl)) (fun h₁ F₁ => ?_) (by decide +kernel) (by decide +kernel) (by decide +kernel) (by decide +kernel))
  conv => enter [3, 1]; whnf
  dsimp only
  refine wpAny_execs_cons (wpAny_Assign_Name (List_ (args_cons (wpAny_BinOp (ld F₁ (by rfl) (wpAny_Constant_int (mod_int (by decide) (args_nil ?_))) (by kernel_rfl) (by kernel_rfl))))) (by kernel_rfl))
  dsimp only
  refine new_list (fun h₂ k₂ p₂ z₂ => ?_) (by simp [sizeLine_eq])
  dsimp only at k₂ p₂ z₂ ⊢
  have F₂ := Fr.kp F₁ k₂
  refine stK F₂ (fun h₃ F₃ hs₃ => ?_) (by kernel_rfl) (by kernel_rfl)
  dsimp only at hs₃ ⊢
  have hD0 : hp0.get? h₁.objs.size = none := none_ge (Nat.le_of_lt (Nat.lt_of_le_of_lt F₁.above F₁.ns.lt))
  have hDL : hp0.objs.size ≠ h₁.objs.size := Nat.ne_of_lt F₁.ns.lt
  generalize hDe : h₁.objs.size = D at *
  have p₃ := PL.same p₂ hs₃ hDL.symm
  refine wpAny_execs_cons (wpAny_While ?_)
  refine codeAny_whileLoop (fun k s' => ∃ h' tk' n' t' vs m' ns, s' = (⟨h', g, d, tk', os⟩ : Shared) ∧ Fr hp0 hp0.objs.size h' m' ∧ m' "number" = some (.int ((n' : Nat) : Int) t') ∧ m' "digits" = some (.ref D) ∧
      h'.PlainList D vs ∧ IntsAre vs.toList ns ∧ ns.length + k ≤ 12 ∧ (ocGo k n' ns).map List.reverse = some ds) ?_ 10 ?_
  · rintro k s' ⟨h', tk', n', t', vs, m', ns, rfl, F', m1, m2, p', hi', hlen, hoc⟩
    refine wpAny_isTrue_Compare1 (ld F' m1 (wpAny_Constant_int (gt_int (wpAny_truthy_bool ?_))) (by kernel_rfl) (by kernel_rfl))
    dsimp only
    rcases Decidable.em (63 < n') with hgt | hgt
    · rw [decide_eq_true (by omega : (63 : Int) < (n' : Int)), if_pos rfl]
      have e1 : (n' : Int).fdiv 64 = ((n' / 64 : Nat) : Int) := by rw [Int.fdiv_eq_ediv_of_nonneg _ (by decide)]; omega
      have e2 : ((n' / 64 : Nat) : Int).fmod 64 + 64 = ((n' / 64 % 64 + 64 : Nat) : Int) := by rw [Int.fmod_eq_emod_of_nonneg _ (by decide)]; omega
      refine wpAny_execs_cons (wpAny_Assign_Name (wpAny_BinOp (ld F' m1 (wpAny_Constant_int (floordiv_int (by decide) ?_)) (by kernel_rfl) (by kernel_rfl))) (by kernel_rfl))
      rw [e1]
      refine stK F' (fun h₄ F₄ hs₄ => ?_) (by kernel_rfl) (by kernel_rfl)
      dsimp only at hs₄ ⊢
      have p₄ := PL.same p' hs₄ hDL.symm
      have hsz : vs.size ≤ sizeLine := by
        have := hi'.length
        simp only [Array.length_toList] at this
        rw [sizeLine_eq]; omega
      refine wpAny_execs_cons (wpAny_Expr (wpAny_Call_append (by kernel_rfl) (by kernel_rfl) (by kernel_rfl) (by kernel_rfl) (ld F₄ (by rw [if_neg (by decide)]; exact m2) ?_ (by kernel_rfl) (by kernel_rfl))) (by kernel_rfl) (by kernel_rfl))
      refine ⟨D, vs, rfl, PL.plainL p₄, ?_⟩
      refine wpAny_BinOp (wpAny_BinOp (ld F₄ (by rfl) (wpAny_Constant_int (mod_int (by decide) (wpAny_Constant_int (add_int ?_)))) (by kernel_rfl) (by kernel_rfl)))
      rw [e2]
      refine wpAny_list_append_plain p₄ (fun h₅ p₅ hs₅ => ?_) hsz
      dsimp only at hs₅ ⊢
      have F₅ := Fr.new F₄ hs₅ hD0 hDL
      refine wpAny_execs_nil ?_
      cases k with
      | zero => unfold ocGo at hoc; rw [if_pos hgt] at hoc; cases hoc
      | succ k =>
      refine ⟨k, Nat.lt_succ_self _, h₅, _, n' / 64, _, _, _, ns ++ [((n' / 64 % 64 + 64 : Nat) : Int)], rfl, F₅, by rw [if_pos rfl], ?_, p₅, ?_, ?_, ?_⟩
      · rw [if_neg (by decide)]; exact m2
      · rw [Array.toList_push]; exact IntsAre.snoc hi' _ _
      · simp only [List.length_append, List.length_cons, List.length_nil]; omega
      · unfold ocGo at hoc; rw [if_pos hgt] at hoc; exact hoc
    · rw [decide_eq_false (by omega : ¬ (63 : Int) < (n' : Int)), if_neg Bool.false_ne_true]
      refine wpAny_execs_nil ?_
      have e : ns.reverse = ds := by
        cases k with
        | zero => unfold ocGo at hoc; rw [if_neg hgt] at hoc; exact Option.some.inj hoc
        | succ k => unfold ocGo at hoc; rw [if_neg hgt] at hoc; exact Option.some.inj hoc
      have hsz : vs.size ≤ sizeLine := by
        have := hi'.length
        simp only [Array.length_toList] at this
        rw [sizeLine_eq]; omega
      dsimp only
      refine wpAny_execs_cons (wpAny_Return_some (Subscript_ (ld F' m2 (wpAny_Slice ?_) (by kernel_rfl) (by kernel_rfl))))
      rw [evalPart_none, evalPart_some]
      refine wpAny_pure (wpAny_pure (UnaryOp_ (wpAny_Constant_int (neg_int ?_))))
      refine tail_slice (s := (⟨h', g, d, _, os⟩ : Shared)) p'.isList .none .none (.int _ _) (by decide) (fun h₆ k₆ p₆ z₆ => ?_) (by with_unfolding_all rfl) (by intro _; with_unfolding_all rfl) hsz
      dsimp only at k₆ p₆ z₆ ⊢
      rw [krv_pick] at p₆
      refine hQ h₆ _ _ _ (fun b o x => k₆ _ _ (F'.keep _ _ x)) (none_ge (Nat.le_succ_of_le (Nat.le_of_lt (Nat.lt_of_le_of_lt F'.above F'.ns.lt)))) p₆ ?_
      rw [← e]
      simpa using hi'.reverse
  · refine ⟨h₃, _, n, t, _, _, [((n % 64 : Nat) : Int)], rfl, F₃, rfl, rfl, p₃, ?_, by simp, ho⟩
    have e : (n : Int).fmod 64 = ((n % 64 : Nat) : Int) := by rw [Int.fmod_eq_emod_of_nonneg _ (by decide)]; omega
    rw [e]
    exact .cons _ _ .nil
end
end Mine
end
section
open PySem PySem.W PySem.Calls PyProof.Rows
set_option maxRecDepth 100000
set_option maxHeartbeats 4000000
set_option linter.unusedVariables false
namespace Mine
/-- the frame of a comprehension's block, with cells of its own -/
def cenvOf (scope : Scope) (cl : List (Str × Addr)) (C : Addr) (env : Env) : Env :=
  { scope := relabel scope env, locals := C, globals := env.globals, cells := cellsFrom (C + 1) scope.names cl, qual := env.qual, func := none, code := env.code, frame := env.frame, builtins := env.builtins }
section
variable {M : Model} {A : Around} {E : Value → Shared → Prop} {s : Shared} {env : Env}
theorem new_cenv {scope : Scope} {cl : List (Str × Addr)} {Q : Env → Shared → Prop}
    (h : Q { scope := scope, locals := s.heap.objs.size, globals := env.globals, cells := cellsFrom (s.heap.objs.size + 1) scope.names cl, qual := env.qual, func := none, code := env.code, frame := env.frame, builtins := env.builtins }
      { s with heap := pushCells (s.heap.push { cls := .type "dict", data := .dict #[] }) scope.names }) :
    wpAny M A (newFunctionEnv scope env.globals cl [] env.qual none .none (some env)) Q E s := by
  simp only [newFunctionEnv, Option.isSome_some, if_true]
  refine wpAny_bind (wpAny_alloc ?_)
  refine wpAny_bind (wpAny_layCells _ (fun name kind cells => by cases hkc : kind == NameKind.cell <;> simp [hkc]) _ _ _ _ ?_)
  rw [show ({ s with heap := s.heap.push { cls := .type "dict", data := .dict #[] } } : Shared).heap.objs.size = s.heap.objs.size + 1 from Heap.size_push ..]
  exact wpAny_bind (wpAny_pure (wpAny_pure h))
end
section
variable {prog : Program} {w : World} {A : Around} {E : Value → Shared → Prop} {s : Shared} {env : Env}
/-- into a comprehension -/
theorem comp_in {elt target iter : Expr} {ifs : List Expr} {gs : List Comprehension} {scope : Scope} {cl : List (Str × Addr)} {pos cpos : Pos} {Q : Value → Shared → Prop} {use : Option (Value → Sem Unit)}
    (hclos : closureFor scope env = pure cl) (hkind : scope.kind = .function) (hnames : ∀ y ∈ scope.names, y.2 = .local → scope.names.lookup y.1 = some .local)
    (h : wpAny (model prog w) A (eval iter env) (fun xv s₁ => wpAny (model prog w) A (pyIter xv) (fun it s₂ => ∃ I, it = .ref I ∧
      ∀ h₃, h₃ = pushCells ((s₂.heap.push { cls := .type "list", data := .seq #[] }).push { cls := .type "dict", data := .dict #[] }) scope.names →
        (∀ (Q' : Value → Shared → Prop) E', Q' (.ref I) { s₂ with heap := h₃ } → wpAny (model prog w) A (pyIter (.ref I)) Q' E' { s₂ with heap := h₃ }) ∧
        codeAny (model prog w) A (.compLoop (.ListComp elt (⟨target, iter, ifs, 0⟩ :: gs) scope pos) 0 (.ref I) (.ref s₂.heap.objs.size) (cenvOf scope cl (s₂.heap.objs.size + 1) env))
          (compPost (model prog w) A E use Q (.ref s₂.heap.objs.size) (s₂.heap.objs.size + 1)) { s₂ with heap := h₃ }) E s₁) E s)
    (hs : ∀ x, foldedSetIterable iter env x = pure x) :
    wpAny (model prog w) A (comprehension (.ListComp elt (⟨target, iter, ifs, 0⟩ :: gs) scope pos) scope env cpos (newList []) false (eval iter env) use) Q E s := by
  refine wpAny_comprehension_free (use := use) rfl hs hclos hkind hnames (wpAny_mono h (fun xv s₁ h₁ => wpAny_mono h₁ (fun it s₂ h₂ => ?_) fun _ _ e => e) fun _ _ e => e)
  obtain ⟨I, rfl, h₂⟩ := h₂
  obtain ⟨h4, h5⟩ := h₂ _ rfl
  refine wpAny_newObj_type (new_cenv ?_)
  dsimp only
  rw [Heap.size_push]
  refine codeAny_compStart_list h5 (h4 _ _ h5)

theorem compTurn_last {elt target iter : Expr} {ifs : List Expr} {gens : List Comprehension} {d : Nat} {scope : Scope} {pos : Pos} {it acc : Value} (hg : gens[d]? = some ⟨target, iter, ifs, 0⟩) (hn : gens[d + 1]? = none) :
    compTurn (.ListComp elt gens scope pos) d it acc env = (do
      standAt iter.pos
      match ← pyNext it with
      | none => pure (.done .next)
      | some v =>
        letOwnedTupleGo target it v
        assign target env v
        let mut ok := true
        for c in ifs do
          if ok then ok ← isTrue c env (eval c env)
        if ok then
          (do let _ ← call (.builtin "list.append") [acc, ← eval elt env])
        again (.compLoop (.ListComp elt gens scope pos) d it acc env)) := by
  simp only [compTurn, hg, hn]
  rfl

theorem compTurn_more {elt target iter target' iter' : Expr} {ifs' : List Expr} {gens : List Comprehension} {d : Nat} {scope : Scope} {pos : Pos} {it acc : Value} (hg : gens[d]? = some ⟨target, iter, [], 0⟩) (hn : gens[d + 1]? = some ⟨target', iter', ifs', 0⟩) :
    compTurn (.ListComp elt gens scope pos) d it acc env = (do
      standAt iter.pos
      match ← pyNext it with
      | none => pure (.done .next)
      | some v =>
        letOwnedTupleGo target it v
        assign target env v
        let x ← eval iter' env
        standAt iter'.pos
        let x ← foldedSetIterable iter' env x
        let _ ← runOwn (.compStart (.ListComp elt gens scope pos) (d + 1) (← holding [x] (pyIter x)) acc env) env
        again (.compLoop (.ListComp elt gens scope pos) d it acc env)) := by
  simp only [compTurn, hg, hn]
  rfl

/-- a loop's last clause -/
theorem loop_last0 {R : Result → Shared → Prop} {elt target iter : Expr} {ifs : List Expr} {gens : List Comprehension} {d : Nat} {scope : Scope} {pos : Pos} {it acc : Value} (hg : gens[d]? = some ⟨target, iter, ifs, 0⟩) (hnx : gens[d + 1]? = none) (I : Nat → Shared → Prop)
    (turn : ∀ n s, I n s → wpAny (model prog w) A (pyNext it) (fun r s₁ => match r with
      | none => R (.ok .next) s₁
      | some v => wpAny (model prog w) A (letOwnedTupleGo target it v >>= fun _ => assign target env v) (fun _ s₂ =>
          wpAny (model prog w) A (forIn ifs true fun c r => if r = true then do let ok ← isTrue c env (eval c env); pure (ForInStep.yield ok) else pure (ForInStep.yield r)) (fun ok s₃ =>
            if ok = true then wpAny (model prog w) A (eval elt env) (fun x s₄ =>
              wpAny (model prog w) A (call (.builtin "list.append") [acc, x]) (fun _ s₅ => ∃ m, m < n ∧ I m s₅) (notedBy (model prog w) A env fun e s' => R (.error e) s') s₄) (notedBy (model prog w) A env fun e s' => R (.error e) s') s₃
            else ∃ m, m < n ∧ I m s₃) (notedBy (model prog w) A env fun e s' => R (.error e) s') s₂) (notedBy (model prog w) A env fun e s' => R (.error e) s') s₁) (notedBy (model prog w) A env fun e s' => R (.error e) s') s)
    (n : Nat) (h : I n s) : codeAny (model prog w) A (.compLoop (.ListComp elt gens scope pos) d it acc env) R s := by
  refine codeAny_loop rfl I (fun n s hI => ?_) n h
  show wpAny _ A ((compTurn (.ListComp elt gens scope pos) d it acc env).onRaise (fun x => do noteFrame x env; theTreesLotGoes x)) _ _ s
  refine wpAny_noted ?_
  rw [compTurn_last hg hnx]
  refine wpAny_bind (wpAny_standAt (wpAny_bind (wpAny_mono (turn n s hI) (fun r s₁ h₁ => ?_) fun _ _ h' => h')))
  cases r with
  | none => exact wpAny_pure h₁
  | some v =>
    dsimp only at h₁ ⊢
    rw [← bind_assoc]
    refine wpAny_bind (wpAny_mono h₁ (fun _ s₂ h₂ => wpAny_bind (wpAny_mono h₂ (fun ok s₃ h₃ => ?_) fun _ _ h' => h')) fun _ _ h' => h')
    cases ok with
    | false => exact wpAny_pure ⟨rfl, h₃⟩
    | true =>
      exact wpAny_bind (wpAny_bind (wpAny_mono h₃ (fun x s₄ h₄ => wpAny_bind (wpAny_mono h₄ (fun _ s₅ h₅ => wpAny_pure (wpAny_pure ⟨rfl, h₅⟩)) fun _ _ h' => h')) fun _ _ h' => h'))
/-- a loop's outer clause -/
theorem loop_outer0 {R : Result → Shared → Prop} {elt target iter target' iter' : Expr} {ifs' : List Expr} {gens : List Comprehension} {d : Nat} {scope : Scope} {pos : Pos} {it acc : Value} (hg : gens[d]? = some ⟨target, iter, [], 0⟩) (hnx : gens[d + 1]? = some ⟨target', iter', ifs', 0⟩)
    (hs : ∀ x, foldedSetIterable iter' env x = pure x) (I : Nat → Shared → Prop)
    (turn : ∀ n s, I n s → wpAny (model prog w) A (pyNext it) (fun r s₁ => match r with
      | none => R (.ok .next) s₁
      | some v => wpAny (model prog w) A (letOwnedTupleGo target it v >>= fun _ => assign target env v) (fun _ s₂ =>
          wpAny (model prog w) A (eval iter' env) (fun x s₃ => wpAny (model prog w) A (pyIter x) (fun it' s₄ =>
            codeAny (model prog w) A (.compStart (.ListComp elt gens scope pos) (d + 1) it' acc env) (fun r s₅ => r = .ok .next ∧ ∃ m, m < n ∧ I m s₅) s₄)
              (notedBy (model prog w) A env fun e s' => R (.error e) s') s₃) (notedBy (model prog w) A env fun e s' => R (.error e) s') s₂) (notedBy (model prog w) A env fun e s' => R (.error e) s') s₁) (notedBy (model prog w) A env fun e s' => R (.error e) s') s)
    (n : Nat) (h : I n s) : codeAny (model prog w) A (.compLoop (.ListComp elt gens scope pos) d it acc env) R s := by
  refine codeAny_loop rfl I (fun n s hI => ?_) n h
  show wpAny _ A ((compTurn (.ListComp elt gens scope pos) d it acc env).onRaise (fun x => do noteFrame x env; theTreesLotGoes x)) _ _ s
  refine wpAny_noted ?_
  rw [compTurn_more hg hnx]
  refine wpAny_bind (wpAny_standAt (wpAny_bind (wpAny_mono (turn n s hI) (fun r s₁ h₁ => ?_) fun _ _ h' => h')))
  cases r with
  | none => exact wpAny_pure h₁
  | some v =>
    dsimp only at h₁ ⊢
    rw [← bind_assoc]
    refine wpAny_bind (wpAny_mono h₁ (fun _ s₂ h₂ => wpAny_bind (wpAny_mono h₂ (fun x s₃ h₃ => ?_) fun _ _ h' => h')) fun _ _ h' => h')
    refine wpAny_bind (wpAny_standAt (wpAny_bind (wpAny_of_eq (hs x) (wpAny_bind (wpAny_holding (wpAny_mono h₃ (fun it' s₄ h₄ => ?_) fun _ _ h' => h'))))))
    refine wpAny_bind (wpAny_runOwn (codeAny_mono h₄ fun r s₅ h₅ => ?_))
    obtain ⟨rfl, h₅⟩ := h₅
    exact wpAny_pure ⟨rfl, h₅⟩
/-- the inner clause starts -/
theorem start_inner {R : Result → Shared → Prop} {elt target iter : Expr} {ifs : List Expr} {gens : List Comprehension} {d : Nat} {scope : Scope} {pos : Pos} {it acc : Value} (hg : gens[d]? = some ⟨target, iter, ifs, 0⟩)
    (h0 : codeAny (model prog w) A (.compLoop (.ListComp elt gens scope pos) d it acc env) R s)
    (h : wpAny (model prog w) A (pyIter it) (fun it' s' => codeAny (model prog w) A (.compLoop (.ListComp elt gens scope pos) d it' acc env) R s')
      (notedBy (model prog w) A env fun x s' => R (.error x) s') s) :
    codeAny (model prog w) A (.compStart (.ListComp elt gens scope pos) d it acc env) R s := by
  refine codeAny_of_tree ?_
  show wpAny _ _ ((compStart (.ListComp elt gens scope pos) d it acc env).onRaise (fun x => do noteFrame x env; standAt theWindowsPlace)) _ _ s
  refine wpAny_notedAt ?_
  have hc : clausesOf (.ListComp elt gens scope pos) = gens := rfl
  unfold compStart
  rw [hc, hg]
  simp only [Option.elim]
  rw [if_neg (by decide)]
  refine wpAny_bind (wpAny_askSetting (wpAny_ite ?_))
  split
  · exact wpAny_bind (wpAny_pure (wpAny_pure (And.intro rfl h0)))
  · exact wpAny_bind (wpAny_rule (wpAny_bind (wpAny_standAt (wpAny_bind (wpAny_mono h (fun it' s' h' => wpAny_pure (And.intro rfl h')) fun _ _ x => x)))))
end
end Mine
end
section
open PySem PySem.W PySem.Calls PyProof.Rows
set_option maxRecDepth 100000
set_option maxHeartbeats 4000000
set_option linter.unusedVariables false
namespace Mine
/-- what a loop over n items has put into its list -/
def Built (P : Nat → Value → Prop) (p : Nat → Value → Bool) (F : Nat → Value → Value → Heap → Prop) (h : Heap) : Nat → List Value → Prop
  | 0, ys => ys = []
  | n + 1, ys => ∃ v, P n v ∧ ((p n v = false ∧ Built P p F h n ys) ∨ (p n v = true ∧ ∃ ys' y, ys = ys' ++ [y] ∧ F n v y h ∧ Built P p F h n ys'))
theorem Built.mono {P : Nat → Value → Prop} {p : Nat → Value → Bool} {F : Nat → Value → Value → Heap → Prop} {h h' : Heap} (k : ∀ i v y, F i v y h → F i v y h') : ∀ {n : Nat} {ys : List Value}, Built P p F h n ys → Built P p F h' n ys
  | 0, _, x => x
  | n + 1, _, ⟨v, a, x⟩ => ⟨v, a, x.imp (fun ⟨q, b⟩ => ⟨q, b.mono k⟩) fun ⟨q, ys', y, e, f, b⟩ => ⟨q, ys', y, e, k _ _ _ f, b.mono k⟩⟩
theorem Built.length {P : Nat → Value → Prop} {p : Nat → Value → Bool} {F : Nat → Value → Value → Heap → Prop} {h : Heap} : ∀ {n : Nat} {ys : List Value}, Built P p F h n ys → ys.length ≤ n
  | 0, _, x => by rw [show _ = [] from x]; simp
  | n + 1, _, ⟨v, a, x⟩ => by
    rcases x with ⟨q, b⟩ | ⟨q, ys', y, e, f, b⟩
    · exact Nat.le_succ_of_le b.length
    · have := b.length; rw [e]; simp; omega
section
variable {prog : Program} {w : World} {A : Around} {s : Shared} {env : Env}
/-- a loop's last clause, over what Walks tells: X the places that an assignment to the target may turn -/
theorem loop_last {R : Result → Shared → Prop} {elt target iter : Expr} {ifs : List Expr} {gens : List Comprehension} {d : Nat} {scope : Scope} {pos : Pos} {I D : Addr} {fp wr X : List Addr} {n : Nat} {P : Nat → Value → Prop} {St : Nat → Heap → Prop}
    {ys₀ : Array Value} (hg : gens[d]? = some ⟨target, iter, ifs, 0⟩) (hnx : gens[d + 1]? = none) (W : Walks prog w A I fp wr n P St) (Ok : Heap → Prop) (Bd : Nat → Value → Heap → Prop) (p : Nat → Value → Bool) (F : Nat → Value → Value → Heap → Prop)
    (hXf : ∀ x ∈ X, x ∉ fp) (hDX : D ∉ X) (hDf : D ∉ fp)
    (okX : ∀ h h', Ok h → (∀ x ∈ X, ∀ o, h.get? x = some o → h'.get? x = some o) → Ok h') (bdX : ∀ i v h h', Bd i v h → (∀ x ∈ X, ∀ o, h.get? x = some o → h'.get? x = some o) → Bd i v h') (bdOk : ∀ i v h, Bd i v h → Ok h)
    (FX : ∀ i v y h h', F i v y h → (∀ b o, b ∉ X → b ∉ wr → b ≠ D → h.get? b = some o → h'.get? b = some o) → F i v y h')
    (hst : St 0 s.heap) (hacc : s.heap.PlainList D ys₀) (hok : Ok s.heap) (hsz : ys₀.size + n ≤ sizeLine)
    (asg : ∀ i v s' E', P i v → Ok s'.heap → s'.heap.get? D ≠ none → (∀ b o, b ∉ X → b ∉ wr → b ≠ D → s.heap.get? b = some o → s'.heap.get? b = some o) →
      wpAny (model prog w) A (letOwnedTupleGo target (.ref I) v >>= fun _ => assign target env v) (fun _ s'' => ∃ h'' tk'', s'' = { s' with heap := h'', toks := tk'' } ∧ Bd i v h'' ∧ ∀ b o, b ∉ X → s'.heap.get? b = some o → h''.get? b = some o) E' s')
    (tst : ∀ i v s' E', P i v → Bd i v s'.heap → (∀ b o, b ∉ X → b ∉ wr → b ≠ D → s.heap.get? b = some o → s'.heap.get? b = some o) →
      wpAny (model prog w) A (forIn ifs true fun c r => if r = true then do let ok ← isTrue c env (eval c env); pure (ForInStep.yield ok) else pure (ForInStep.yield r)) (fun ok s'' => ok = p i v ∧ Keeps s' s'') E' s')
    (helt : ∀ i v s' E', P i v → p i v = true → Bd i v s'.heap → (∀ x ∈ X, (s'.heap.get? x).isSome) → (s'.heap.get? D).isSome → (∀ b o, b ∉ X → b ∉ wr → b ≠ D → s.heap.get? b = some o → s'.heap.get? b = some o) →
      wpAny (model prog w) A (eval elt env) (fun y s'' => F i v y s''.heap ∧ Keeps s' s'') E' s')
    (okS : ∀ h, Ok h → ∀ x ∈ X, (h.get? x).isSome)
    (hR : ∀ h' tk ys zs, Ok h' → h'.PlainList D ys → ys.toList = ys₀.toList ++ zs → Built P p F h' n zs → (∀ b o, b ∉ X → b ∉ wr → b ≠ D → s.heap.get? b = some o → h'.get? b = some o) → R (.ok .next) { s with heap := h', toks := tk }) :
    codeAny (model prog w) A (.compLoop (.ListComp elt gens scope pos) d (.ref I) (.ref D) env) R s := by
  refine loop_last0 hg hnx
    (fun k s' => ∃ h' tk i ys zs, s' = { s with heap := h', toks := tk } ∧ St i h' ∧ Ok h' ∧ h'.PlainList D ys ∧ ys.toList = ys₀.toList ++ zs ∧ Built P p F h' i zs ∧ i ≤ n ∧ k = n + 1 - i ∧
      (∀ b o, b ∉ X → b ∉ wr → b ≠ D → s.heap.get? b = some o → h'.get? b = some o)) ?_ (n + 1)
    ⟨s.heap, s.toks, 0, ys₀, [], rfl, hst, hok, hacc, by simp, rfl, Nat.zero_le _, rfl, fun _ _ _ _ _ e => e⟩
  rintro k s' ⟨H, tk, i, ys, zs, rfl, hst', hok', hacc', hys, hB, hi, rfl, hk⟩
  have hXw : ∀ x ∈ X, x ∉ wr := fun x hx h => hXf x hx (W.sub _ h)
  have hDw : D ∉ wr := fun h => hDf (W.sub _ h)
  rcases Nat.lt_or_ge i n with hlt | hge
  · refine W.item i _ _ _ hlt hst' fun v h₁ tk₁ hPv hst₁ hk₁ => ?_
    have hok₁ : Ok h₁ := okX _ _ hok' fun x hx o e => hk₁ x o (hXw x hx) e
    have hacc₁ : h₁.PlainList D ys := let ⟨m, e⟩ := hacc'; ⟨m, hk₁ _ _ hDw e⟩
    have kk₁ : ∀ b o, b ∉ X → b ∉ wr → b ≠ D → s.heap.get? b = some o → h₁.get? b = some o := fun b o q1 q2 q3 e => hk₁ b o q2 (hk b o q1 q2 q3 e)
    refine wpAny_mono (asg i v _ _ hPv hok₁ (by obtain ⟨m, e⟩ := hacc₁; rw [show (Shared.heap _) = h₁ from rfl, e]; simp) kk₁) (fun _ s₂ h₂ => ?_) fun _ _ e => e
    obtain ⟨h₂, tk₂, rfl, hbd, hk₂⟩ := h₂
    have hst₂ : St (i + 1) h₂ := W.frame _ _ _ hst₁ fun b hb o e => hk₂ b o (fun q => hXf b q hb) e
    have hacc₂ : h₂.PlainList D ys := let ⟨m, e⟩ := hacc₁; ⟨m, hk₂ _ _ hDX e⟩
    have kk₂ : ∀ b o, b ∉ X → b ∉ wr → b ≠ D → s.heap.get? b = some o → h₂.get? b = some o := fun b o q1 q2 q3 e => hk₂ b o q1 (kk₁ b o q1 q2 q3 e)
    refine wpAny_mono (tst i v _ _ hPv hbd kk₂) (fun ok s₃ h₃ => ?_) fun _ _ e => e
    obtain ⟨rfl, h₃, tk₃, rfl, hk₃⟩ := h₃
    dsimp only at hk₃ ⊢
    have hst₃ : St (i + 1) h₃ := W.frame _ _ _ hst₂ fun b _ o e => hk₃ b o e
    have hbd₃ : Bd i v h₃ := bdX _ _ _ _ hbd fun x _ o e => hk₃ x o e
    have hacc₃ : h₃.PlainList D ys := PL.kp hacc₂ hk₃
    have kk₃ : ∀ b o, b ∉ X → b ∉ wr → b ≠ D → s.heap.get? b = some o → h₃.get? b = some o := fun b o q1 q2 q3 e => hk₃ b o (kk₂ b o q1 q2 q3 e)
    have hH₃ : ∀ b o, b ∉ X → b ∉ wr → b ≠ D → H.get? b = some o → h₃.get? b = some o := fun b o q1 q2 q3 e => hk₃ b o (hk₂ b o q1 (hk₁ b o q2 e))
    have hB₃ : Built P p F h₃ i zs := hB.mono fun i v y f => FX _ _ _ _ _ f hH₃
    cases hpv : p i v with
    | false =>
      rw [if_neg Bool.false_ne_true]
      exact ⟨n + 1 - (i + 1), by omega, h₃, tk₃, i + 1, ys, zs, rfl, hst₃, bdOk _ _ _ hbd₃, hacc₃, hys, ⟨v, hPv, .inl ⟨hpv, hB₃⟩⟩, hlt, rfl, kk₃⟩
    | true =>
      rw [if_pos rfl]
      refine wpAny_mono (helt i v _ _ hPv hpv hbd₃ (okS _ (bdOk _ _ _ hbd₃)) (by obtain ⟨m, e⟩ := hacc₃; show (h₃.get? D).isSome = true; rw [e]; rfl) kk₃) (fun y s₄ h₄ => ?_) fun _ _ e => e
      obtain ⟨hF, h₄, tk₄, rfl, hk₄⟩ := h₄
      dsimp only at hk₄ hF ⊢
      have hz : ys.size ≤ sizeLine := by
        have e1 := congrArg List.length hys
        have e2 := hB.length
        simp at e1
        omega
      refine wpAny_list_append_plain (PL.kp hacc₃ hk₄) (fun h₅ p₅ hs₅ => ?_) hz
      dsimp only at hs₅ ⊢
      have kk₅ : ∀ b o, b ≠ D → h₃.get? b = some o → h₅.get? b = some o := fun b o q e => (hs₅.2 b q).trans (hk₄ b o e)
      refine ⟨n + 1 - (i + 1), by omega, h₅, tk₄, i + 1, _, zs ++ [y], rfl, W.frame _ _ _ hst₃ fun b hb o e => kk₅ b o (fun q => hDf (q ▸ hb)) e,
        okX _ _ (bdOk _ _ _ hbd₃) fun x hx o e => kk₅ x o (fun q => hDX (q ▸ hx)) e, p₅, ?_, ⟨v, hPv, .inr ⟨hpv, zs, y, rfl, FX _ _ _ _ _ hF fun b o q1 q2 q3 e => (hs₅.2 b q3).trans e, ?_⟩⟩, hlt, rfl, fun b o q1 q2 q3 e => kk₅ b o q3 (kk₃ b o q1 q2 q3 e)⟩
      · rw [Array.toList_push, hys, List.append_assoc]
      · exact hB₃.mono fun i v y f => FX _ _ _ _ _ f fun b o q1 q2 q3 e => kk₅ b o q3 e
  · have hin : i = n := by omega
    subst hin
    refine W.done _ _ _ hst' fun h₁ tk₁ hk₁ => ?_
    exact hR h₁ tk₁ ys zs (okX _ _ hok' fun x hx o e => hk₁ x o (hXw x hx) e) (let ⟨m, e⟩ := hacc'; ⟨m, hk₁ _ _ hDw e⟩) hys (hB.mono fun i v y f => FX _ _ _ _ _ f fun b o q1 q2 q3 e => hk₁ b o q2 e) fun b o q1 q2 q3 e => hk₁ b o q2 (hk b o q1 q2 q3 e)
end
end Mine
end
section
open PySem PySem.W PySem.Calls PyProof.Rows
set_option maxRecDepth 100000
set_option maxHeartbeats 4000000
set_option linter.unusedVariables false
namespace Mine
theorem pushCells_none : ∀ (names : List (Str × NameKind)) (h : Heap), (∀ x ∈ names, x.2 ≠ .cell) → pushCells h names = h
  | [], _, _ => rfl
  | (n, k) :: r, h, hc => by
    unfold pushCells
    rw [if_neg (by have := hc (n, k) (.head _); simpa using this)]
    exact pushCells_none r h fun x hx => hc x (.tail _ hx)
theorem nlt0 {b n : Nat} (h : b < n) : b ≠ n := Nat.ne_of_lt h
theorem nlt1 {b n : Nat} (h : b < n) : b ≠ n + 1 := by omega
theorem nlt2 {b n : Nat} (h : b < n) : b ≠ n + 1 + 1 := by omega
theorem nlt3 {b n : Nat} (h : b < n) : b ≠ n + 1 + 1 + 1 := by omega
theorem nmem1 {b c : Nat} (h : b ≠ c) : b ∉ [c] := by simpa using h
theorem nmem2 {b c d : Nat} (h : b ≠ c) (h' : b ≠ d) : b ∉ [c, d] := by simp [h, h']
theorem s10 (n : Nat) : n + 1 ≠ n := by omega
theorem s20 (n : Nat) : n + 1 + 1 ≠ n := by omega
theorem s21 (n : Nat) : n + 1 + 1 ≠ n + 1 := by omega
theorem s30 (n : Nat) : n + 1 + 1 + 1 ≠ n := by omega
theorem s31 (n : Nat) : n + 1 + 1 + 1 ≠ n + 1 := by omega
theorem s32 (n : Nat) : n + 1 + 1 + 1 ≠ n + 1 + 1 := by omega
theorem le2 (n : Nat) : n ≤ n + 1 + 1 := by omega
/-- the name x of a block holds v -/
def BdL (x : Str) (C : Addr) (v : Value) (h : Heap) : Prop := ∃ m, h.Ns C m ∧ m x = some v
def BdC (C : Addr) (v : Value) (h : Heap) : Prop := (∃ m, h.Ns C m) ∧ h.IsCell (C + 1) (some v)
theorem BdL.kp {x : Str} {C : Addr} {v : Value} {h h' : Heap} (b : BdL x C v h) (k : Kp h h') : BdL x C v h' := let ⟨m, n, e⟩ := b; ⟨m, n.keeps k, e⟩
theorem BdC.kp {C : Addr} {v : Value} {h h' : Heap} (b : BdC C v h) (k : Kp h h') : BdC C v h' := ⟨b.1.imp fun _ n => n.keeps k, b.2.keeps k⟩
theorem Ns.atX {h h' : Heap} {C : Addr} {m : Str → Option Value} (n : h.Ns C m) (k : ∀ o, h.get? C = some o → h'.get? C = some o) : h'.Ns C m := let ⟨o, es, ep, e, r⟩ := n; ⟨o, es, ep, k _ e, r⟩
theorem IsCell.atX {h h' : Heap} {c : Addr} {v : Option Value} (n : h.IsCell c v) (k : ∀ o, h.get? c = some o → h'.get? c = some o) : h'.IsCell c v := let ⟨o, e, r⟩ := n; ⟨o, k _ e, r⟩
theorem Ns.some {h : Heap} {C : Addr} {m : Str → Option Value} (n : h.Ns C m) : (h.get? C).isSome := let ⟨o, _, _, e, _⟩ := n; by rw [e]; rfl
theorem IsCell.some {h : Heap} {C : Addr} {m : Option Value} (n : h.IsCell C m) : (h.get? C).isSome := let ⟨o, e, _⟩ := n; by rw [e]; rfl
theorem letGo_name {x : Str} {px : Pos} {I v : Value} : letOwnedTupleGo (.Name x px) I v = pure () := rfl
section
variable {prog : Program} {w : World} {A : Around} {E : Value → Shared → Prop} {s : Shared} {env : Env}
/-- [elt for x in L if ..], x a name of the block's own -/
theorem comp1L {elt iter : Expr} {x : Str} {px : Pos} {ifs : List Expr} {scope : Scope} {cl : List (Str × Addr)} {pos cpos : Pos} {Q : Value → Shared → Prop} {use : Option (Value → Sem Unit)} (hh : A.handled = none)
    (hclos : closureFor scope env = pure cl) (hkind : scope.kind = .function) (hnames : ∀ y ∈ scope.names, y.2 = .local → scope.names.lookup y.1 = some .local) (hcell : ∀ y ∈ scope.names, y.2 ≠ .cell) (hx : scope.names.lookup x = some .local)
    (hs : ∀ x, foldedSetIterable iter env x = pure x)
    (p : Nat → Value → Bool) (F : Nat → Value → Value → Prop)
    (h : wpAny (model prog w) A (eval iter env) (fun xv s₁ => ∃ l items, xv = .ref l ∧ s₁.heap.IsList l items ∧ items.size ≤ sizeLine ∧
      (∀ C i v s' E', s₁.heap.objs.size ≤ C → items[i]? = some v → BdL x C v s'.heap → Kp s₁.heap s'.heap →
        wpAny (model prog w) A (forIn ifs true fun c r => if r = true then do let ok ← isTrue c (cenvOf scope cl C env) (eval c (cenvOf scope cl C env)); pure (ForInStep.yield ok) else pure (ForInStep.yield r)) (fun ok s'' => ok = p i v ∧ Keeps s' s'') E' s') ∧
      (∀ C i v s' E', s₁.heap.objs.size ≤ C → items[i]? = some v → p i v = true → BdL x C v s'.heap → Kp s₁.heap s'.heap →
        wpAny (model prog w) A (eval elt (cenvOf scope cl C env)) (fun y s'' => F i v y ∧ Keeps s' s'') E' s') ∧
      (∀ D C h' tk ys, s₁.heap.get? D = none → s₁.heap.get? C = none → D ≠ C → (∃ m, h'.Ns C m) → Kp s₁.heap h' → h'.PlainList D ys → Built (fun i v => items[i]? = some v) p (fun i v y _ => F i v y) h' items.size ys.toList → compPost (model prog w) A E use Q (.ref D) C (.ok .next) { s₁ with heap := h', toks := tk })) E s) :
    wpAny (model prog w) A (comprehension (.ListComp elt [⟨.Name x px, iter, ifs, 0⟩] scope pos) scope env cpos (newList []) false (eval iter env) use) Q E s := by
  refine comp_in hclos hkind hnames (wpAny_mono h (fun xv s₁ h₁ => ?_) fun _ _ e => e) hs
  obtain ⟨l, items, rfl, hl, hsz, htst, helt, hQ⟩ := h₁
  refine wpAny_pyIter_list hl ?_
  obtain ⟨hp, g, d, tk, os⟩ := s₁
  dsimp only at hl htst helt hQ ⊢
  have hlI : l ≠ hp.objs.size := by obtain ⟨o, e, _⟩ := hl; exact Nat.ne_of_lt (Heap.lt_size e)
  have hlt : l < hp.objs.size := by obtain ⟨o, e, _⟩ := hl; exact Heap.lt_size e
  refine ⟨_, rfl, fun h₃ e₃ => ?_⟩
  rw [pushCells_none _ _ hcell, Heap.size_push] at *
  have k₃ : Kp hp h₃ := by subst e₃; exact (kp_push _ _).tr ((kp_push _ _).tr (kp_push _ _))
  have gI : h₃.IsListIter hp.objs.size l 0 := by
    subst e₃
    exact ⟨_, Heap.get?_push_of_some _ (Heap.get?_push_of_some _ (Heap.get?_push_size _ rfl)), rfl, rfl⟩
  have gD : h₃.PlainList (hp.objs.size + 1) #[] := by
    subst e₃
    have := Heap.get?_push_size (h := hp.push { cls := .type "list_iterator", data := .fields #[.ref l, .int 0 0] }) (o := { cls := .type "list", data := .seq #[] }) rfl
    rw [Heap.size_push] at this
    exact ⟨0, Heap.get?_push_of_some _ this⟩
  have gC : ∃ m, h₃.Ns (hp.objs.size + 1 + 1) m := by
    subst e₃
    have := Heap.Ns.new ((hp.push { cls := .type "list_iterator", data := .fields #[.ref l, .int 0 0] }).push { cls := .type "list", data := .seq #[] }) (.type "dict")
    rw [Heap.size_push, Heap.size_push] at this
    exact ⟨_, this⟩
  clear e₃
  refine ⟨fun Q' E' q => wpAny_pyIter_listiter gI q, ?_⟩
  have kpp : ∀ h', (∀ b o, b ∉ [hp.objs.size + 1 + 1] → b ∉ [hp.objs.size] → b ≠ hp.objs.size + 1 → h₃.get? b = some o → h'.get? b = some o) → Kp hp h' := fun h' k b o e => by
    have q := Heap.lt_size e
    exact k b o (nmem1 (nlt2 q)) (nmem1 (nlt0 q)) (nlt1 q) (k₃ b o e)
  refine loop_last (X := [hp.objs.size + 1 + 1]) (ys₀ := #[]) rfl rfl (Walks.list hh hp.objs.size l hlI items) (fun h => ∃ m, h.Ns (hp.objs.size + 1 + 1) m) (fun i v h => BdL x (hp.objs.size + 1 + 1) v h) p (fun i v y _ => F i v y)
    (fun y hy => by rw [List.mem_singleton.mp hy]; exact nmem2 (s20 _) (nlt2 hlt).symm) (nmem1 (s21 _).symm) (nmem2 (s10 _) (nlt1 hlt).symm)
    (fun h h' o k => o.imp fun _ n => Ns.atX n (k _ (.head _))) (fun i v h h' o k => let ⟨m, n, e⟩ := o; ⟨m, Ns.atX n (k _ (.head _)), e⟩) (fun i v h o => let ⟨m, n, _⟩ := o; ⟨m, n⟩) (fun i v y h h' f _ => f)
    ⟨gI, IsList.kp hl k₃⟩ gD gC (by simpa using hsz) ?asg ?tst ?elt (fun h o y hy => by simp at hy; subst hy; exact let ⟨m, n⟩ := o; Ns.some n) ?fin
  case asg =>
    rintro i v s' E' hv ⟨m, hn⟩ _ hk
    rw [letGo_name]
    refine wpAny_bind (wpAny_pure (wpAny_assign_Name (wpAny_storeName_local (lookup_relabel_local hx) hn (fun h' hn' hs' => ?_) (by show (scope.kind == .class || (scope.kind == .module && _)) = false; rw [hkind]; rfl))))
    exact ⟨h', _, rfl, ⟨_, hn', if_pos rfl⟩, fun b o hb e => (hs'.2 b (fun q => hb (List.mem_singleton.mpr q))).trans e⟩
  case tst => exact fun i v s' E' hv hb hk => htst _ i v s' E' (le2 _) hv hb (kpp _ hk)
  case elt => exact fun i v s' E' hv hp' hb _ _ hk => helt _ i v s' E' (le2 _) hv hp' hb (kpp _ hk)
  case fin =>
    rintro h' tk' ys zs ⟨m, hn⟩ hpl hys hB hk
    have e : ys.toList = zs := by simpa using hys
    refine hQ _ _ h' tk' ys (none_ge (Nat.le_succ _)) (none_ge (le2 _)) (s21 _).symm ⟨m, hn⟩ (kpp _ hk) hpl ?_
    rw [e]
    exact hB
/-- [elt for x in L if ..], x a cell of the block's own -/
theorem comp1C {elt iter : Expr} {x : Str} {px : Pos} {ifs : List Expr} {scope : Scope} {cl : List (Str × Addr)} {pos cpos : Pos} {Q : Value → Shared → Prop} {use : Option (Value → Sem Unit)} (hh : A.handled = none)
    (hclos : closureFor scope env = pure cl) (hkind : scope.kind = .function) (hnames : ∀ y ∈ scope.names, y.2 = .local → scope.names.lookup y.1 = some .local) (hcell : ∀ h, pushCells h scope.names = h.push { cls := .type "cell", data := .cell none }) (hx : ∀ C, (cenvOf scope cl C env).kindOf x = some .cell) (hxc : ∀ C, (cenvOf scope cl C env).cells.lookup x = some (C + 1))
    (hs : ∀ x, foldedSetIterable iter env x = pure x)
    (p : Nat → Value → Bool) (F : Nat → Value → Value → Prop)
    (h : wpAny (model prog w) A (eval iter env) (fun xv s₁ => ∃ l items, xv = .ref l ∧ s₁.heap.IsList l items ∧ items.size ≤ sizeLine ∧
      (∀ C i v s' E', s₁.heap.objs.size ≤ C → items[i]? = some v → BdC C v s'.heap → Kp s₁.heap s'.heap →
        wpAny (model prog w) A (forIn ifs true fun c r => if r = true then do let ok ← isTrue c (cenvOf scope cl C env) (eval c (cenvOf scope cl C env)); pure (ForInStep.yield ok) else pure (ForInStep.yield r)) (fun ok s'' => ok = p i v ∧ Keeps s' s'') E' s') ∧
      (∀ C i v s' E', s₁.heap.objs.size ≤ C → items[i]? = some v → p i v = true → BdC C v s'.heap → Kp s₁.heap s'.heap →
        wpAny (model prog w) A (eval elt (cenvOf scope cl C env)) (fun y s'' => F i v y ∧ Keeps s' s'') E' s') ∧
      (∀ D C h' tk ys, s₁.heap.get? D = none → s₁.heap.get? C = none → D ≠ C → (∃ m, h'.Ns C m) → Kp s₁.heap h' → h'.PlainList D ys → Built (fun i v => items[i]? = some v) p (fun i v y _ => F i v y) h' items.size ys.toList → compPost (model prog w) A E use Q (.ref D) C (.ok .next) { s₁ with heap := h', toks := tk })) E s) :
    wpAny (model prog w) A (comprehension (.ListComp elt [⟨.Name x px, iter, ifs, 0⟩] scope pos) scope env cpos (newList []) false (eval iter env) use) Q E s := by
  refine comp_in hclos hkind hnames (wpAny_mono h (fun xv s₁ h₁ => ?_) fun _ _ e => e) hs
  obtain ⟨l, items, rfl, hl, hsz, htst, helt, hQ⟩ := h₁
  refine wpAny_pyIter_list hl ?_
  obtain ⟨hp, g, d, tk, os⟩ := s₁
  dsimp only at hl htst helt hQ ⊢
  have hlI : l ≠ hp.objs.size := by obtain ⟨o, e, _⟩ := hl; exact Nat.ne_of_lt (Heap.lt_size e)
  have hlt : l < hp.objs.size := by obtain ⟨o, e, _⟩ := hl; exact Heap.lt_size e
  refine ⟨_, rfl, fun h₃ e₃ => ?_⟩
  rw [hcell, Heap.size_push] at *
  have k₃ : Kp hp h₃ := by subst e₃; exact (kp_push _ _).tr ((kp_push _ _).tr ((kp_push _ _).tr (kp_push _ _)))
  have gI : h₃.IsListIter hp.objs.size l 0 := by
    subst e₃
    exact ⟨_, Heap.get?_push_of_some _ (Heap.get?_push_of_some _ (Heap.get?_push_of_some _ (Heap.get?_push_size _ rfl))), rfl, rfl⟩
  have gD : h₃.PlainList (hp.objs.size + 1) #[] := by
    subst e₃
    have := Heap.get?_push_size (h := hp.push { cls := .type "list_iterator", data := .fields #[.ref l, .int 0 0] }) (o := { cls := .type "list", data := .seq #[] }) rfl
    rw [Heap.size_push] at this
    exact ⟨0, Heap.get?_push_of_some _ (Heap.get?_push_of_some _ this)⟩
  have gC : ∃ m, h₃.Ns (hp.objs.size + 1 + 1) m := by
    subst e₃
    have := Heap.Ns.new ((hp.push { cls := .type "list_iterator", data := .fields #[.ref l, .int 0 0] }).push { cls := .type "list", data := .seq #[] }) (.type "dict")
    rw [Heap.size_push, Heap.size_push] at this
    exact ⟨_, Heap.Ns.push this _⟩
  have gK : h₃.IsCell (hp.objs.size + 1 + 1 + 1) none := by
    subst e₃
    have := Heap.get?_push_size (h := ((hp.push { cls := .type "list_iterator", data := .fields #[.ref l, .int 0 0] }).push { cls := .type "list", data := .seq #[] }).push { cls := .type "dict", data := .dict #[] }) (o := { cls := .type "cell", data := .cell none }) rfl
    rw [Heap.size_push, Heap.size_push, Heap.size_push] at this
    exact ⟨_, this, rfl⟩
  clear e₃
  refine ⟨fun Q' E' q => wpAny_pyIter_listiter gI q, ?_⟩
  have kpp : ∀ h', (∀ b o, b ∉ [hp.objs.size + 1 + 1, hp.objs.size + 1 + 1 + 1] → b ∉ [hp.objs.size] → b ≠ hp.objs.size + 1 → h₃.get? b = some o → h'.get? b = some o) → Kp hp h' := fun h' k b o e => by
    have q := Heap.lt_size e
    exact k b o (nmem2 (nlt2 q) (nlt3 q)) (nmem1 (nlt0 q)) (nlt1 q) (k₃ b o e)
  refine loop_last (X := [hp.objs.size + 1 + 1, hp.objs.size + 1 + 1 + 1]) (ys₀ := #[]) rfl rfl (Walks.list hh hp.objs.size l hlI items) (fun h => (∃ m, h.Ns (hp.objs.size + 1 + 1) m) ∧ ∃ u, h.IsCell (hp.objs.size + 1 + 1 + 1) u) (fun i v h => BdC (hp.objs.size + 1 + 1) v h) p (fun i v y _ => F i v y)
    (fun y hy => by
      rcases List.mem_cons.mp hy with e | hy
      · rw [e]; exact nmem2 (s20 _) (nlt2 hlt).symm
      · rw [List.mem_singleton.mp hy]; exact nmem2 (s30 _) (nlt3 hlt).symm) (nmem2 (s21 _).symm (s31 _).symm) (nmem2 (s10 _) (nlt1 hlt).symm)
    (fun h h' o k => ⟨o.1.imp fun _ n => Ns.atX n (k _ (.head _)), o.2.imp fun _ n => IsCell.atX n (k _ (.tail _ (.head _)))⟩) (fun i v h h' o k => ⟨o.1.imp fun _ n => Ns.atX n (k _ (.head _)), IsCell.atX o.2 (k _ (.tail _ (.head _)))⟩) (fun i v h o => ⟨o.1, _, o.2⟩) (fun i v y h h' f _ => f)
    ⟨gI, IsList.kp hl k₃⟩ gD ⟨gC, _, gK⟩ (by simpa using hsz) ?asg ?tst ?elt (fun h o y hy => by
      rcases List.mem_cons.mp hy with e | hy
      · rw [e]; exact let ⟨m, n⟩ := o.1; Ns.some n
      · rw [List.mem_singleton.mp hy]; exact let ⟨m, n⟩ := o.2; IsCell.some n) ?fin
  case asg =>
    rintro i v s' E' hv ⟨⟨m, hn⟩, u, hc⟩ _ hk
    rw [letGo_name]
    refine wpAny_bind (wpAny_pure (wpAny_assign_Name (wpAny_storeName_cell (by exact hkind) (hx _) (hxc _) hc (fun h' hc' hs' => ?_))))
    exact ⟨h', _, rfl, ⟨⟨m, hn.sameBut hs' (s32 _).symm⟩, hc'⟩, fun b o hb e => (hs'.2 b (fun q => hb (.tail _ (List.mem_singleton.mpr q)))).trans e⟩
  case tst => exact fun i v s' E' hv hb hk => htst _ i v s' E' (le2 _) hv hb (kpp _ hk)
  case elt => exact fun i v s' E' hv hp' hb _ _ hk => helt _ i v s' E' (le2 _) hv hp' hb (kpp _ hk)
  case fin =>
    rintro h' tk' ys zs ⟨⟨m, hn⟩, _⟩ hpl hys hB hk
    have e : ys.toList = zs := by simpa using hys
    refine hQ _ _ h' tk' ys (none_ge (Nat.le_succ _)) (none_ge (le2 _)) (s21 _).symm ⟨m, hn⟩ (kpp _ hk) hpl ?_
    rw [e]
    exact hB
/-- a block's value -/
theorem eval_comp {elt target iter : Expr} {ifs : List Expr} {gs : List Comprehension} {scope : Scope} {pos : Pos} {Q : Value → Shared → Prop}
    (h : wpAny (model prog w) A (comprehension (.ListComp elt (⟨target, iter, ifs, 0⟩ :: gs) scope pos) scope env (firstIterPos (⟨target, iter, ifs, 0⟩ :: gs) pos) (newList []) false (eval iter env) none) Q E s) :
    wpAny (model prog w) A (eval (.ListComp elt (⟨target, iter, ifs, 0⟩ :: gs) scope pos) env) Q E s := by
  rw [eval_ListComp]; exact h
/-- a block's value under a name -/
theorem exec_comp {elt target iter : Expr} {ifs : List Expr} {gs : List Comprehension} {scope : Scope} {pos py spos : Pos} {y : Str} {Q : Flow → Shared → Prop}
    (hsw : swapsWith (.ListComp elt (⟨target, iter, ifs, 0⟩ :: gs) scope pos) (some (.Name y py)) spos.line env = pure true)
    (h : wpAny (model prog w) A (comprehension (.ListComp elt (⟨target, iter, ifs, 0⟩ :: gs) scope pos) scope env (firstIterPos (⟨target, iter, ifs, 0⟩ :: gs) pos) (newList []) false (eval iter env) (some (assign (.Name y py) env))) (fun _ s' => Q .next s') E s) :
    wpAny (model prog w) A (exec (.Assign [.Name y py] (.ListComp elt (⟨target, iter, ifs, 0⟩ :: gs) scope pos) spos) env) Q E s := by
  rw [exec_Assign_Name_used _ _ _ _ hsw]
  refine wpAny_bind (wpAny_standAt (wpAny_bind ?_))
  show wpAny _ A (do let _ ← comprehension (.ListComp elt (⟨target, iter, ifs, 0⟩ :: gs) scope pos) scope env _ (newList []) false (eval iter env) (some (assign (.Name y py) env))) _ _ s
  exact wpAny_bind (wpAny_mono h (fun _ s' hq => wpAny_pure (wpAny_pure hq)) fun _ _ e => e)
/-- the end of a block whose value is handed on -/
theorem post_none {Q : Value → Shared → Prop} {D C : Addr} {h' : Heap} {tk : Nat} (hn : ∃ m, h'.Ns C m) (h : ∀ h'', Heap.SameBut C h' h'' → Q (.ref D) { s with heap := h'', toks := tk }) :
    compPost (model prog w) A E none Q (.ref D) C (.ok .next) { s with heap := h', toks := tk } :=
  let ⟨m, n⟩ := hn; ⟨m, n, fun h'' hs => h h'' hs⟩
/-- the end of a block whose value is stored under a local name -/
theorem post_store {Q : Value → Shared → Prop} {D C : Addr} {h' : Heap} {tk : Nat} {y : Str} {py : Pos} {m : Str → Option Value} (hn : ∃ m, h'.Ns C m) (hne : env.locals ≠ C) (hl : h'.Ns env.locals m) (hy : env.kindOf y = some .local)
    (hp : (env.scope.kind == .class || (env.scope.kind == .module && env.locals != env.globals)) = false)
    (h : ∀ h'', h''.Ns env.locals (fun z => if z = y then some (.ref D) else m z) → (∀ b o, b ≠ env.locals → b ≠ C → h'.get? b = some o → h''.get? b = some o) → Q .none { s with heap := h'', toks := tk + 1 }) :
    compPost (model prog w) A E (some (assign (.Name y py) env)) Q (.ref D) C (.ok .next) { s with heap := h', toks := tk } := by
  show wpAny _ A (assign (.Name y py) env (.ref D)) _ _ _
  refine wpAny_assign_Name (wpAny_storeName_local hy hl (fun h₂ hn₂ hs₂ => ?_) hp)
  obtain ⟨mc, nc⟩ := hn
  refine ⟨mc, nc.sameBut hs₂ (Ne.symm hne), fun h₃ hs₃ => ?_⟩
  exact h h₃ (hn₂.sameBut hs₃ hne) fun b o hb hc e => (hs₃.2 b hc).trans ((hs₂.2 b hb).trans e)
end
end Mine
end
section
open PySem PySem.W PySem.Calls PyProof.Rows
set_option maxRecDepth 100000
set_option maxHeartbeats 4000000
set_option linter.unusedVariables false
namespace Mine
theorem IntsAre.app {vs ws : List Value} {ns ms : List Int} (h : IntsAre vs ns) (k : IntsAre ws ms) : IntsAre (vs ++ ws) (ns ++ ms) := by
  induction h with
  | nil => exact k
  | cons m u _ ih => exact .cons m u ih
theorem ints_at {vs : List Value} {ns : List Int} (h : IntsAre vs ns) : ∀ {i : Nat} {v : Value}, vs[i]? = some v → ∃ n t, ns[i]? = some n ∧ v = .int n t := by
  induction h with
  | nil => intro i v e; simp at e
  | cons m t _ ih =>
    intro i v e
    cases i with
    | zero => simp at e; subst e; exact ⟨m, t, rfl, rfl⟩
    | succ i => simp at e; simpa using ih e
theorem sum_map_le {α : Type} {l : List α} (f g : α → Nat) (h : ∀ x, f x ≤ g x) : (l.map f).sum ≤ (l.map g).sum := by
  induction l with
  | nil => simp
  | cons x l ih => simp only [List.map_cons, List.sum_cons]; have := h x; omega
/-- what a loop that hands on its ints has built -/
theorem built_ints {vs : List Value} {ns : List Int} (hi : IntsAre vs ns) (p : Int → Bool) {h : Heap} : ∀ {n : Nat} {ys : List Value}, n ≤ vs.length →
    Built (fun i v => vs.toArray[i]? = some v) (fun _ v => match v with | .int a _ => p a | _ => false) (fun _ v y _ => y = v) h n ys → IntsAre ys ((ns.take n).filter p)
  | 0, ys, _, b => by rw [show ys = [] from b]; simp; exact .nil
  | n + 1, ys, hn, ⟨v, hv, b⟩ => by
    obtain ⟨a, t, ha, rfl⟩ := ints_at hi (by simpa using hv)
    have e : ns.take (n + 1) = ns.take n ++ [a] := by rw [List.take_add_one, ha]; rfl
    rw [e, List.filter_append]
    rcases b with ⟨q, b⟩ | ⟨q, ys', y, rfl, rfl, b⟩
    · have q' : p a = false := q
      simpa [q'] using built_ints hi p (by omega) b
    · have q' : p a = true := q
      have := built_ints hi p (by omega) b
      simpa [q'] using IntsAre.snoc this a t
section
variable {prog : Program} {w : World} {A : Around} {E : Value → Shared → Prop} {s : Shared} {env : Env}
/-- [y for T in L for y in [..] if ..] of ints -/
theorem comp2 {iter iter' target : Expr} {y : Str} {py pe : Pos} {ifs' : List Expr} {scope : Scope} {cl : List (Str × Addr)} {pos cpos : Pos} {Q : Value → Shared → Prop} {use : Option (Value → Sem Unit)} (hh : A.handled = none)
    (hclos : closureFor scope env = pure cl) (hkind : scope.kind = .function) (hnames : ∀ z ∈ scope.names, z.2 = .local → scope.names.lookup z.1 = some .local) (hcell : ∀ z ∈ scope.names, z.2 ≠ .cell) (hy : scope.names.lookup y = some .local)
    (hyd : (y == ("__debug__" : Str)) = false)
    (hs : ∀ x, foldedSetIterable iter env x = pure x) (hs' : ∀ C x, foldedSetIterable iter' (cenvOf scope cl C env) x = pure x)
    (bd : Nat → (Str → Option Value) → Prop) (gs : Nat → List Int) (p : Int → Bool)
    (h : wpAny (model prog w) A (eval iter env) (fun xv s₁ => ∃ l items, xv = .ref l ∧ s₁.heap.IsList l items ∧
      (∀ i, i ≤ items.size → (((List.range i).flatMap gs).length + (gs i).length) ≤ sizeLine) ∧
      (∀ C I i v s' E', s₁.heap.objs.size ≤ C → items[i]? = some v → (∃ m, s'.heap.Ns C m) → Kp s₁.heap s'.heap → s'.heap.IsListIter I l (i + 1) → I ≠ C →
        wpAny (model prog w) A (letOwnedTupleGo target (.ref I) v >>= fun _ => assign target (cenvOf scope cl C env) v) (fun _ s'' => ∃ h'' tk'', s'' = { s' with heap := h'', toks := tk'' } ∧ (∃ m, h''.Ns C m ∧ bd i m) ∧ ∀ b o, b ≠ C → s'.heap.get? b = some o → h''.get? b = some o) E' s') ∧
      (∀ C i m s' E', s₁.heap.objs.size ≤ C → i < items.size → s'.heap.Ns C m → bd i m → Kp s₁.heap s'.heap →
        wpAny (model prog w) A (eval iter' (cenvOf scope cl C env)) (fun x s'' => ∃ l' vs, x = .ref l' ∧ l' ≠ C ∧ s''.heap.PlainList l' vs.toArray ∧ IntsAre vs (gs i) ∧ s'.heap.get? l' = none ∧ Keeps s' s'') E' s') ∧
      (∀ C n t m s' E', s'.heap.Ns C m → m y = some (.int n t) →
        wpAny (model prog w) A (forIn ifs' true fun c r => if r = true then do let ok ← isTrue c (cenvOf scope cl C env) (eval c (cenvOf scope cl C env)); pure (ForInStep.yield ok) else pure (ForInStep.yield r)) (fun ok s'' => ok = p n ∧ Keeps s' s'') E' s') ∧
      (∀ D C h' tk ys, s₁.heap.get? D = none → s₁.heap.get? C = none → D ≠ C → (∃ m, h'.Ns C m) → Kp s₁.heap h' → h'.PlainList D ys → IntsAre ys.toList ((List.range items.size).flatMap fun i => (gs i).filter p) →
        compPost (model prog w) A E use Q (.ref D) C (.ok .next) { s₁ with heap := h', toks := tk })) E s) :
    wpAny (model prog w) A (comprehension (.ListComp (.Name y pe) [⟨target, iter, [], 0⟩, ⟨.Name y py, iter', ifs', 0⟩] scope pos) scope env cpos (newList []) false (eval iter env) use) Q E s := by
  refine comp_in hclos hkind hnames (wpAny_mono h (fun xv s₁ h₁ => ?_) fun _ _ e => e) hs
  obtain ⟨l, items, rfl, hl, hsz, hasg, hit', htst, hQ⟩ := h₁
  refine wpAny_pyIter_list hl ?_
  obtain ⟨hp, g, d, tk, os⟩ := s₁
  dsimp only at hl hasg hit' htst hQ ⊢
  have hlt : l < hp.objs.size := by obtain ⟨o, e, _⟩ := hl; exact Heap.lt_size e
  refine ⟨_, rfl, fun h₃ e₃ => ?_⟩
  rw [pushCells_none _ _ hcell, Heap.size_push] at *
  have k₃ : Kp hp h₃ := by subst e₃; exact (kp_push _ _).tr ((kp_push _ _).tr (kp_push _ _))
  have gI : h₃.IsListIter hp.objs.size l 0 := by
    subst e₃
    exact ⟨_, Heap.get?_push_of_some _ (Heap.get?_push_of_some _ (Heap.get?_push_size _ rfl)), rfl, rfl⟩
  have gD : h₃.PlainList (hp.objs.size + 1) #[] := by
    subst e₃
    have := Heap.get?_push_size (h := hp.push { cls := .type "list_iterator", data := .fields #[.ref l, .int 0 0] }) (o := { cls := .type "list", data := .seq #[] }) rfl
    rw [Heap.size_push] at this
    exact ⟨0, Heap.get?_push_of_some _ this⟩
  have gC : ∃ m, h₃.Ns (hp.objs.size + 1 + 1) m := by
    subst e₃
    have := Heap.Ns.new ((hp.push { cls := .type "list_iterator", data := .fields #[.ref l, .int 0 0] }).push { cls := .type "list", data := .seq #[] }) (.type "dict")
    rw [Heap.size_push, Heap.size_push] at this
    exact ⟨_, this⟩
  clear e₃
  refine ⟨fun Q' E' q => wpAny_pyIter_listiter gI q, ?_⟩
  generalize hI : hp.objs.size = I at *
  refine loop_outer0 rfl rfl (hs' _) (fun k s' => ∃ h' tk' i ys, s' = (⟨h', g, d, tk', os⟩ : Shared) ∧ Kp hp h' ∧ h'.IsListIter I l i ∧ (∃ m, h'.Ns (I + 1 + 1) m) ∧ h'.PlainList (I + 1) ys ∧ IntsAre ys.toList ((List.range i).flatMap fun i => (gs i).filter p) ∧ i ≤ items.size ∧ k = items.size + 1 - i) ?_ (items.size + 1)
    ⟨h₃, tk, 0, #[], rfl, k₃, gI, gC, gD, .nil, Nat.zero_le _, rfl⟩
  rintro k s' ⟨h', tk', i, ys, rfl, k', it', nC, pD, hi, hle, rfl⟩
  rcases Nat.lt_or_ge i items.size with hlt' | hge
  · have hx : items[i]? = some items[i] := by simp [hlt']
    refine wpAny_pyNext_list_item it' (IsList.kp hl k') hx fun h₁ it₁ hs₁ => ?_
    dsimp only at hs₁ ⊢
    have kI : ∀ {b : Nat}, b < I → b ≠ I := fun q => Nat.ne_of_lt q
    have k₁ : Kp hp h₁ := fun b o e => (hs₁.2 b (nlt0 (hI ▸ Heap.lt_size e))).trans (k' b o e)
    have nC₁ : ∃ m, h₁.Ns (I + 1 + 1) m := nC.imp fun _ n => n.sameBut hs₁ (s20 _)
    have pD₁ := PL.same pD hs₁ (s10 _)
    refine wpAny_mono (hasg _ I i _ _ _ (by rw [← hI]; exact le2 _) hx nC₁ k₁ it₁ (s20 _).symm) (fun _ s₂ h₂ => ?_) fun _ _ e => e
    obtain ⟨h₂, tk₂, rfl, ⟨m₂, n₂, b₂⟩, kk₂⟩ := h₂
    dsimp only at kk₂ ⊢
    have k₂ : Kp hp h₂ := fun b o e => kk₂ b o (nlt2 (hI ▸ Heap.lt_size e)) (k₁ b o e)
    have it₂ : h₂.IsListIter I l (i + 1) := let ⟨o, e, r⟩ := it₁; ⟨o, kk₂ _ _ (s20 _).symm e, r⟩
    have pD₂ : h₂.PlainList (I + 1) ys := let ⟨o, e⟩ := pD₁; ⟨o, kk₂ _ _ (s21 _).symm e⟩
    refine wpAny_mono (hit' _ i m₂ _ _ (by rw [← hI]; exact le2 _) hlt' n₂ b₂ k₂) (fun xv s₃ h₃ => ?_) fun _ _ e => e
    obtain ⟨l', vs, rfl, hlC, pl, hv, hnew, h₃, tk₃, rfl, kk₃⟩ := h₃
    dsimp only at pl kk₃ hnew ⊢
    refine wpAny_pyIter_list pl.isList ?_
    dsimp only
    have ll : l' < h₃.objs.size := PL.lt pl
    have cI : I < h₃.objs.size := let ⟨o, e, _⟩ := it₂; Heap.lt_size (kk₃ _ _ e)
    have cD : I + 1 < h₃.objs.size := PL.lt (PL.kp pD₂ kk₃)
    have cC : I + 1 + 1 < h₃.objs.size := (n₂.keeps kk₃).lt
    have lI : l' ≠ I := by rintro rfl; obtain ⟨o, e, _⟩ := it₂; rw [hnew] at e; cases e
    have lD : l' ≠ I + 1 := by rintro rfl; obtain ⟨o, e⟩ := pD₂; rw [hnew] at e; cases e
    generalize hJ : h₃.objs.size = J at *
    have k4 : Kp h₃ (h₃.push { cls := .type "list_iterator", data := .fields #[.ref l', .int 0 0] }) := kp_push _ _
    have gJ : (h₃.push { cls := .type "list_iterator", data := .fields #[.ref l', .int 0 0] }).IsListIter J l' 0 := ⟨_, by rw [← hJ]; exact Heap.get?_push_size _ rfl, rfl, rfl⟩
    generalize h₃.push { cls := .type "list_iterator", data := .fields #[.ref l', .int 0 0] } = h₄ at k4 gJ ⊢
    have inner : ∀ tk', codeAny (model prog w) A (.compLoop (.ListComp (.Name y pe) [⟨target, iter, [], 0⟩, ⟨.Name y py, iter', ifs', 0⟩] scope pos) (0 + 1) (.ref J) (.ref (I + 1)) (cenvOf scope cl (I + 1 + 1) env))
        (fun r s₅ => r = .ok .next ∧ ∃ m, m < items.size + 1 - i ∧ ∃ h' tk' i ys, s₅ = (⟨h', g, d, tk', os⟩ : Shared) ∧ Kp hp h' ∧ h'.IsListIter I l i ∧ (∃ m, h'.Ns (I + 1 + 1) m) ∧ h'.PlainList (I + 1) ys ∧ IntsAre ys.toList ((List.range i).flatMap fun i => (gs i).filter p) ∧ i ≤ items.size ∧ m = items.size + 1 - i) ⟨h₄, g, d, tk', os⟩ := fun tk' => by
      refine loop_last (X := [I + 1 + 1]) (ys₀ := ys) rfl rfl (Walks.list hh J l' (Nat.ne_of_lt ll) vs.toArray) (fun h => ∃ m, h.Ns (I + 1 + 1) m) (fun i v h => BdL y (I + 1 + 1) v h) (fun _ v => match v with | .int a _ => p a | _ => false) (fun i v y _ => y = v)
        (fun z hz => by rw [List.mem_singleton.mp hz]; exact nmem2 (Nat.ne_of_lt cC) hlC.symm) (nmem1 (s21 _).symm) (nmem2 (Nat.ne_of_lt cD) lD.symm)
        (fun h h' o k => o.imp fun _ n => Ns.atX n (k _ (.head _))) (fun i v h h' o k => let ⟨m, n, e⟩ := o; ⟨m, Ns.atX n (k _ (.head _)), e⟩) (fun i v h o => let ⟨m, n, _⟩ := o; ⟨m, n⟩) (fun i v y h h' f _ => f)
        ⟨gJ, IsList.kp pl.isList k4⟩ (PL.kp pD₂ (Kp.tr kk₃ k4)) ⟨m₂, n₂.keeps (Kp.tr kk₃ k4)⟩ ?sz ?asg ?tst ?elt (fun h o z hz => by rw [List.mem_singleton.mp hz]; exact let ⟨m, n⟩ := o; Ns.some n) ?fin
      case sz =>
        have e1 := hi.length
        have e2 := hv.length
        have e3 := hsz i hle
        have e4 : ((List.range i).flatMap fun i => (gs i).filter p).length ≤ ((List.range i).flatMap gs).length := by
          simp only [List.length_flatMap]
          exact sum_map_le _ _ fun x => List.length_filter_le _ _
        have e5 : ys.toList.length = ((List.range i).flatMap fun i => (gs i).filter p).length := e1
        have e6 : vs.toArray.size = (gs i).length := e2
        rw [← e5] at e4
        show ys.toList.length + vs.toArray.size ≤ sizeLine
        exact Nat.le_trans (Nat.add_le_add e4 (Nat.le_of_eq e6)) e3
      case asg =>
        rintro j v s' E' hv' ⟨m, hn⟩ _ hk
        rw [letGo_name]
        refine wpAny_bind (wpAny_pure (wpAny_assign_Name (wpAny_storeName_local (lookup_relabel_local hy) hn (fun h' hn' hs' => ?_) (by show (scope.kind == .class || (scope.kind == .module && _)) = false; rw [hkind]; rfl))))
        exact ⟨h', _, rfl, ⟨_, hn', if_pos rfl⟩, fun b o hb e => (hs'.2 b (fun q => hb (List.mem_singleton.mpr q))).trans e⟩
      case tst =>
        rintro j v s' E' hv' ⟨m, hn, hm⟩ hk
        obtain ⟨a, t, _, rfl⟩ := ints_at hv (by simpa using hv')
        exact htst _ a t m s' E' hn hm
      case elt =>
        rintro j v s' E' hv' hp' ⟨m, hn, hm⟩ _ _ hk
        exact wpAny_Name (wpAny_loadName_local (by exact hkind) (lookup_relabel_local hy) hn hm ⟨rfl, _, _, rfl, fun _ _ e => e⟩) hyd
      case fin =>
        rintro h' tk' ys' zs hn hpl hys hB hk
        refine ⟨rfl, items.size + 1 - (i + 1), by omega, h', tk', i + 1, ys', rfl, ?_, ?_, hn, hpl, ?_, hlt', rfl⟩
        · intro b o e
          have q : b < I := hI ▸ Heap.lt_size e
          exact hk b o (nmem1 (nlt2 q)) (nmem1 (Nat.ne_of_lt (Nat.lt_trans q cI))) (nlt1 q) (k4 _ _ (kk₃ _ _ (k₂ b o e)))
        · obtain ⟨o, e, r⟩ := it₂
          exact ⟨o, hk _ _ (nmem1 (s20 _).symm) (nmem1 (Nat.ne_of_lt cI)) (s10 _).symm (k4 _ _ (kk₃ _ _ e)), r⟩
        · have b1 := built_ints hv p (n := vs.toArray.size) (by simp) hB
          rw [hys, List.range_succ, List.flatMap_append]
          refine IntsAre.app hi ?_
          have e2 := hv.length
          simp only [List.size_toArray, e2, List.take_length] at b1
          simpa using b1
    exact start_inner rfl (inner _) (wpAny_pyIter_listiter gJ (inner _))
  · have hin : i = items.size := by omega
    subst hin
    refine wpAny_pyNext_list_end hh it' (IsList.kp hl k') (by simp) fun h₁ he => ?_
    have k₁ : Kp hp h₁ := fun b o e => he b o (nlt0 (hI ▸ Heap.lt_size e)) (k' b o e)
    exact hQ _ _ h₁ _ ys (none_ge (by rw [hI]; exact Nat.le_succ _)) (none_ge (by rw [hI]; exact le2 _)) (s21 _).symm (nC.imp fun _ n => Ns.atX n fun o e => he _ _ (s20 _) e) k₁ (let ⟨o, e⟩ := pD; ⟨o, he _ _ (s10 _) e⟩) hi
end
end Mine
end
section
open PySem PySem.W PySem.Calls PyProof.Rows
set_option maxRecDepth 100000
set_option maxHeartbeats 4000000
set_option linter.unusedVariables false
namespace Mine
/-- a row of pairs of ints -/
inductive PairsAt (h : Heap) : List Value → List (Int × Int) → Prop
  | nil : PairsAt h [] []
  | cons {a : Addr} {x y : Int} {t u : Tok} {vs : List Value} {ps : List (Int × Int)} (e : h.PlainList a #[.int x t, .int y u]) : PairsAt h vs ps → PairsAt h (.ref a :: vs) ((x, y) :: ps)
theorem PairsAt.kp {h h' : Heap} {vs : List Value} {ps : List (Int × Int)} (x : PairsAt h vs ps) (k : Kp h h') : PairsAt h' vs ps := by
  induction x with
  | nil => exact .nil
  | cons e _ ih => exact .cons (PL.kp e k) ih
theorem PairsAt.length {h : Heap} {vs : List Value} {ps : List (Int × Int)} (x : PairsAt h vs ps) : vs.length = ps.length := by
  induction x with
  | nil => rfl
  | cons e _ ih => simp [ih]
theorem PairsAt.take {h : Heap} {vs : List Value} {ps : List (Int × Int)} (x : PairsAt h vs ps) : ∀ n, PairsAt h (vs.take n) (ps.take n) := by
  induction x with
  | nil => intro n; simp; exact .nil
  | cons e _ ih => intro n; cases n with
    | zero => simp; exact .nil
    | succ n => simp; exact .cons e (ih n)
theorem PairsAt.drop {h : Heap} {vs : List Value} {ps : List (Int × Int)} (x : PairsAt h vs ps) : ∀ n, PairsAt h (vs.drop n) (ps.drop n) := by
  induction x with
  | nil => intro n; simp; exact .nil
  | cons e r ih => intro n; cases n with
    | zero => simp; exact .cons e r
    | succ n => simp; exact ih n
theorem PairsAt.app {h : Heap} {vs ws : List Value} {ps qs : List (Int × Int)} (x : PairsAt h vs ps) (y : PairsAt h ws qs) : PairsAt h (vs ++ ws) (ps ++ qs) := by
  induction x with
  | nil => exact y
  | cons e _ ih => exact .cons e ih
theorem PairsAt.at_ {h : Heap} {vs : List Value} {ps : List (Int × Int)} (x : PairsAt h vs ps) : ∀ {i : Nat} {v : Value}, vs[i]? = some v → ∃ a p t u, v = .ref a ∧ ps[i]? = some p ∧ h.PlainList a #[.int p.1 t, .int p.2 u] := by
  induction x with
  | nil => intro i v e; simp at e
  | cons e _ ih => intro i v hv; cases i with
    | zero => simp at hv; subst hv; exact ⟨_, _, _, _, rfl, rfl, e⟩
    | succ i => simp at hv; simpa using ih hv
section
variable {prog : Program} {w : World} {A : Around} {E : Value → Shared → Prop} {s : Shared}
/-- two lists in one -/
theorem cat_lists {l b : Addr} {vs ws : Array Value} {Q : Value → Shared → Prop} (hl : s.heap.IsList l vs) (hb : s.heap.IsList b ws)
    (h : ∀ h', Kp s.heap h' → h'.PlainList s.heap.objs.size (vs ++ ws) → h'.objs.size = s.heap.objs.size + 1 → Q (.ref s.heap.objs.size) { s with heap := h' }) (hsz : vs.size + ws.size ≤ sizeLine) :
    wpAny (model prog w) A (binaryOp .Add (.ref l) (.ref b)) Q E s := by
  obtain ⟨⟨cls, dd, data, sl⟩, ho, hc, n, hd⟩ := id hl
  obtain ⟨⟨cls2, dd2, data2, sl2⟩, ho2, hc2, n2, hd2⟩ := id hb
  simp only at hc hd hc2 hd2
  subst hc hd hc2 hd2
  refine concat_meets ⟨_, ho, rfl⟩ ⟨_, ho2, rfl⟩ noFill_list_add seq_list_add PySem.F.slot_list_add PySem.F.entry_list_add (PySem.F.args_list_add_2 _ _) (list_addW l b vs ws n n2 dd dd2 sl sl2 hsz) ⟨ho, ho2, ?_⟩
  exact h _ (kp_push _ _) ⟨0, Heap.get?_push_size _ rfl⟩ (Heap.size_push ..)
/-- first, last = a row of two -/
theorem assign_pair {env : Env} {x y : Str} {px py pos : Pos} {k : Nat} {l C : Addr} {a b : Value} {m : Str → Option Value} {Q : Unit → Shared → Prop} (hh : A.handled = none) (hC : env.locals = C) (hn : s.heap.Ns C m) (hl : s.heap.IsList l #[a, b]) (hlC : l ≠ C)
    (hx : env.kindOf x = some .local) (hy : env.kindOf y = some .local) (hp : (env.scope.kind == .class || (env.scope.kind == .module && env.locals != env.globals)) = false)
    (h : ∀ h' tk, (∀ b o, b ≠ C → s.heap.get? b = some o → h'.get? b = some o) → (∃ m', h'.Ns C m' ∧ m' x = (if x = y then some b else some a) ∧ m' y = some b) → Q () { s with heap := h', toks := tk }) :
    wpAny (model prog w) A (assign (.Tuple [.Name x px, .Name y py] k pos) env (.ref l)) Q E s := by
  subst hC
  have cl : env.locals < s.heap.objs.size := hn.lt
  rw [assign_Tuple]
  refine wpAny_bind (wpAny_standAt ?_)
  unfold unpack
  refine wpAny_bind (wpAny_holding (kun_itemsOf (items := #[a, b]) hh hl fun h₁ he => ?_))
  have k₁ : Kp s.heap h₁ := fun b o e => he b o (nlt0 (Heap.lt_size e)) e
  refine wpAny_bind (wpAny_holding (wpAny_assign_Name (wpAny_storeName_local hx (hn.keeps k₁) (fun h₂ n₂ s₂ => ?_) hp)))
  refine wpAny_bind (wpAny_holding (wpAny_assign_Name (wpAny_storeName_local hy n₂ (fun h₃ n₃ s₃ => ?_) hp)))
  exact wpAny_pure (h h₃ _ (fun b o hb e => (s₃.2 b hb).trans ((s₂.2 b hb).trans (k₁ b o e))) ⟨_, n₃, by by_cases q : x = y <;> simp [q], by simp⟩)
theorem letGo_list {M : Model} {elts : List Expr} {k : Nat} {pos : Pos} {I l i : Nat} {v : Value} {Q : Unit → Shared → Prop} (hi : s.heap.IsListIter I l i) (h : Q () s) : wpAny M A (letOwnedTupleGo (.Tuple elts k pos) (.ref I) v) Q E s := by
  obtain ⟨o, e, hc, hd⟩ := hi
  unfold letOwnedTupleGo
  cases v with
  | ref a =>
    refine wpAny_bind (wpAny_load e ?_)
    rw [hc, hd]
    refine wpAny_ite_split (fun q => ?_) (fun _ => wpAny_pure h)
    exact absurd q (by rw [show (["enumerate", "zip", "dict_itemiterator", "dict_reverseitemiterator", "odict_iterator", "itertools.zip_longest", "itertools.pairwise"].contains "list_iterator") = false by decide]; simp)
  | _ => exact wpAny_pure h
end
def someOf (ps : List (Int × Int)) : List (Int × Int) := if ps.length < 10 then ps else ps.take 2 ++ ps.drop (ps.length - 2)
/-- the expression of a def's statement -/
def asgE (i j : Nat) : Expr := match (stB i)[j]? with
  | some (.Assign _ e _) => e
  | some (.Return (some e) _) => e
  | _ => .Constant .none 0 ⟨0, 0, 0, 0⟩
abbrev renv (L : Addr) (cd : Value) : Env := envOfC "_law_right" (stS 19) L 141 cd
section
variable {w : World} {A : Around} {E : Value → Shared → Prop}
/-- some -/
theorem right_some {L ta : Addr} {cd : Value} {hp0 h₁ : Heap} {cm : Str → Option Value} {g : Array GenState} {d : Drawn} {tk : Nat} {os : OsState} {tvs : Array Value} {ps : List (Int × Int)} {Q : Value → Shared → Prop}
    (B : Base w h₁) (X : Cl L (cellsFrom (L + 1) (stS 19).names []) h₁ cm) (c3 : cm "table" = some (.ref ta)) (ht : h₁.PlainList ta tvs) (htp : PairsAt h₁ tvs.toList ps) (hps : ps.length < 100)
    (hQ : ∀ h' tk' sa svs, Kp h₁ h' → h'.PlainList sa svs → PairsAt h' svs.toList (someOf ps) → Q (.ref sa) ⟨h', g, d, tk', os⟩) :
    wpAny (model pg w) A (eval (asgE 19 0) (renv L cd)) Q E ⟨h₁, g, d, tk, os⟩ := by
  have hlen : tvs.size = ps.length := by have := htp.length; rwa [Array.length_toList] at this
  conv => enter [3, 1]; whnf
  refine IfExp_ (wpAny_isTrue_Compare1 (Call_ (nm_built B (by decide) bb_len ?_ rfl rfl (by kernel_rfl) (by kernel_rfl))))
  refine PyProof.Rows.callWith_builtin1 (args_cons (ldC (c := L + 3) X (by kernel_rfl) c3 (args_nil (len_list ht.isList (by omega) ?_)) (by kernel_rfl) (by kernel_rfl)))
  refine wpAny_Constant_int (lt_int (wpAny_truthy_bool ?_))
  dsimp only
  rw [hlen]
  rcases Decidable.em (ps.length < 10) with hlt | hge
  · rw [decide_eq_true (by omega : (ps.length : Int) < 10), if_pos rfl]
    refine ldC (c := L + 3) X (by kernel_rfl) c3 ?_ (by kernel_rfl) (by kernel_rfl)
    refine hQ _ _ _ _ (fun _ _ e => e) ht ?_
    rw [someOf, if_pos hlt]; exact htp
  · rw [decide_eq_false (by omega : ¬ (ps.length : Int) < 10), if_neg Bool.false_ne_true]
    refine wpAny_BinOp (Subscript_ (ldC (c := L + 3) X (by kernel_rfl) c3 (wpAny_Slice ?_) (by kernel_rfl) (by kernel_rfl)))
    rw [evalPart_none, evalPart_some]
    refine wpAny_pure (wpAny_Constant_int (wpAny_pure ?_))
    refine tail_slice (s := (⟨h₁, g, d, _, os⟩ : Shared)) ht.isList .none (.int _ _) .none (by decide) (fun h₂ k₂ p₂ z₂ => ?_) (by with_unfolding_all rfl) (by intro _; with_unfolding_all rfl) (by rw [sizeLine_eq]; omega)
    dsimp only at k₂ p₂ z₂ ⊢
    have X₂ := X.keeps k₂
    have ht₂ := PL.kp ht k₂
    refine Subscript_ (ldC (c := L + 3) X₂ (by kernel_rfl) c3 (wpAny_Slice ?_) (by kernel_rfl) (by kernel_rfl))
    rw [evalPart_some, evalPart_none]
    refine UnaryOp_ (wpAny_Constant_int (neg_int (wpAny_pure (wpAny_pure ?_))))
    refine tail_slice (s := (⟨h₂, g, d, _, os⟩ : Shared)) ht₂.isList (.int _ _) .none .none (by decide) (fun h₃ k₃ p₃ z₃ => ?_) (by with_unfolding_all rfl) (by intro _; with_unfolding_all rfl) (by rw [sizeLine_eq]; omega)
    dsimp only at k₃ p₃ z₃ ⊢
    rw [show slicePick tvs none (some 2) none = _ from slicePick_upto' tvs 2] at p₂
    rw [show slicePick tvs (some (-2)) none none = _ from slicePick_last tvs 2 (by decide)] at p₃
    refine cat_lists (PL.kp p₂ k₃).isList p₃.isList (fun h₄ k₄ p₄ z₄ => ?_) (by simp [sizeLine_eq]; omega)
    dsimp only at k₄ p₄ ⊢
    refine hQ _ _ _ _ (Kp.tr k₂ (Kp.tr k₃ k₄)) p₄ ?_
    have x := (htp.kp (Kp.tr k₂ (Kp.tr k₃ k₄)))
    rw [someOf, if_neg hge, ← hlen]
    simpa using (x.take 2).app (x.drop (tvs.size - 2))
end
end Mine
end
section
open PySem PySem.W PySem.Calls PyProof.Rows
set_option maxRecDepth 100000
set_option maxHeartbeats 4000000
set_option linter.unusedVariables false
namespace Mine
theorem flat_le {f : Nat → List Int} {c : Nat} (h : ∀ i, (f i).length ≤ c) : ∀ n, ((List.range n).flatMap f).length ≤ c * n
  | 0 => by simp
  | n + 1 => by
    rw [List.range_succ, List.flatMap_append, List.length_append]
    have := flat_le h n
    have := h n
    simp only [List.flatMap_cons, List.flatMap_nil, List.append_nil]
    rw [Nat.mul_succ]; omega
def gsC (qs : List (Int × Int)) (i : Nat) : List Int := match qs[i]? with
  | some p => [p.1 - 1, p.1, p.2, p.2 + 1]
  | none => []
theorem gsC_len (qs : List (Int × Int)) (i : Nat) : (gsC qs i).length ≤ 4 := by unfold gsC; split <;> simp
def codesOf (qs : List (Int × Int)) : List Int := (List.range qs.length).flatMap fun i => (gsC qs i).filter fun n => decide (n < 1114112)
section
variable {w : World} {A : Around} {E : Value → Shared → Prop}
/-- a name of a block's own -/
theorem ldK {M : Model} {s : Shared} {env : Env} {C : Addr} {x : Str} {pos : Pos} {v : Value} {m : Str → Option Value} {Q : Value → Shared → Prop} (hn : s.heap.Ns C m) (hv : m x = some v) (h : Q v s) (hC : env.locals = C)
    (hk : env.scope.kind = .function) (hl : env.kindOf x = some .local) (hd : (x == ("__debug__" : Str)) = false := by decide) : wpAny M A (eval (.Name x pos) env) Q E s := by
  subst hC; exact wpAny_Name (wpAny_loadName_local hk hl hn hv h) hd
/-- codes -/
theorem right_codes {L sa da : Addr} {cd : Value} {hp0 h₁ : Heap} {m cm : Str → Option Value} {g : Array GenState} {d : Drawn} {tk : Nat} {os : OsState} {svs dvs : Array Value} {qs : List (Int × Int)} {ds : List Int} {Q : Value → Shared → Prop} (hh : A.handled = none)
    (F : Fr hp0 L h₁ m) (X : Cl L (cellsFrom (L + 1) (stS 19).names []) h₁ cm) (m1 : m "some" = some (.ref sa)) (m2 : m "drawn" = some (.ref da)) (hs : h₁.PlainList sa svs) (hsp : PairsAt h₁ svs.toList qs) (hd : h₁.PlainList da dvs) (hdi : IntsAre dvs.toList ds) (hqs : qs.length < 100) (hds : ds.length < 100)
    (hQ : ∀ h' tk' ca cvs, Kp h₁ h' → h'.PlainList ca cvs → IntsAre cvs.toList (codesOf qs ++ ds) → Q (.ref ca) ⟨h', g, d, tk', os⟩) :
    wpAny (model pg w) A (eval (asgE 19 1) (renv L cd)) Q E ⟨h₁, g, d, tk, os⟩ := by
  have hlen : svs.size = qs.length := by have := hsp.length; rwa [Array.length_toList] at this
  conv => enter [3, 1]; whnf
  refine wpAny_BinOp (eval_comp (comp2 (cl := []) hh (by kernel_rfl) (by kernel_rfl) (by decide +kernel) (by decide +kernel) (by kernel_rfl) (by kernel_rfl) (fun _ => rfl) (fun _ _ => rfl)
    (fun i m => ∃ p t u, qs[i]? = some p ∧ m "first" = some (.int p.1 t) ∧ m "last" = some (.int p.2 u)) (gsC qs) (fun n => decide (n < 1114112)) (ldLoc F m1 ⟨sa, svs, rfl, hs.isList, ?sz, ?asg, ?it, ?tst, ?fin⟩ (by kernel_rfl) (by kernel_rfl))))
  case sz =>
    intro i hi
    have := flat_le (gsC_len qs) i
    have := gsC_len qs i
    rw [sizeLine_eq]; omega
  case asg =>
    rintro C I i v s' E' hC hv ⟨m', hn⟩ hk hit hIC
    obtain ⟨a, p, t, u, rfl, hp, hpl⟩ := hsp.at_ (by simpa using hv)
    refine wpAny_bind (letGo_list hit ?_)
    refine assign_pair hh rfl hn (PL.kp hpl hk).isList (Nat.ne_of_lt (Nat.lt_of_lt_of_le (PL.lt hpl) hC)) (by kernel_rfl) (by kernel_rfl) (by kernel_rfl) fun h' tk' hk' ⟨m'', hn', e1, e2⟩ => ?_
    exact ⟨h', tk', rfl, ⟨m'', hn', p, t, u, hp, by rw [e1, if_neg (by decide)], e2⟩, hk'⟩
  case it =>
    rintro C i m' s' E' hC hi hn ⟨p, t, u, hp, e1, e2⟩ hk
    refine List_ (args_cons (wpAny_BinOp (ldK hn e1 (wpAny_Constant_int (sub_int (args_cons ?_))) rfl (by kernel_rfl) (by kernel_rfl))))
    refine ldK hn e1 (args_cons (ldK hn e2 (args_cons (wpAny_BinOp (ldK hn e2 (wpAny_Constant_int (add_int (args_nil ?_))) rfl (by kernel_rfl) (by kernel_rfl)))) rfl (by kernel_rfl) (by kernel_rfl))) rfl (by kernel_rfl) (by kernel_rfl)
    refine new_list (fun h₂ k₂ p₂ z₂ => ?_) (by simp [sizeLine_eq])
    refine ⟨_, _, rfl, Nat.ne_of_gt hn.lt, p₂, ?_, none_size _, h₂, _, rfl, k₂⟩
    unfold gsC; rw [hp]
    exact .cons _ _ (.cons _ _ (.cons _ _ (.cons _ _ .nil)))
  case tst =>
    intro C n t m' s' E' hn e
    refine wpAny_tests_one (wpAny_isTrue_Compare1 (ldK hn e (wpAny_Constant_int (lt_int (wpAny_truthy_bool ?_))) rfl (by kernel_rfl) (by kernel_rfl)))
    exact ⟨rfl, _, _, rfl, fun _ _ e => e⟩
  case fin =>
    intro D C h' tk' ys hD hC hDC hn hk hpl hi
    dsimp only at hD hC hk
    refine post_none hn fun h'' hs'' => ?_
    have k'' : Kp h₁ h'' := fun b o e => (hs''.2 b (by rintro rfl; rw [hC] at e; cases e)).trans (hk b o e)
    have e1 : ys.size ≤ 4 * qs.length := by
      have := hi.length
      rw [Array.length_toList] at this
      rw [this, hlen]
      exact Nat.le_trans (flat_le (fun i => Nat.le_trans (List.length_filter_le _ _) (gsC_len qs i)) _) (Nat.le_refl _)
    have e2 : dvs.size = ds.length := by have := hdi.length; rwa [Array.length_toList] at this
    refine ldLoc (Fr.kp F k'') m2 ?_ (by kernel_rfl) (by kernel_rfl)
    refine cat_lists (PL.same hpl hs'' hDC).isList (PL.kp hd k'').isList (fun h₄ k₄ p₄ z₄ => ?_) (by rw [sizeLine_eq]; omega)
    refine hQ _ _ _ _ (Kp.tr k'' k₄) p₄ ?_
    rw [Array.toList_append]
    refine IntsAre.app ?_ hdi
    rw [hlen] at hi
    exact hi
end
end Mine
end
section
open PySem PySem.W PySem.Calls PyProof.Rows
set_option maxRecDepth 100000
set_option maxHeartbeats 4000000
set_option linter.unusedVariables false
namespace Mine
def stmtOf (i j : Nat) : Stmt := ((stB i)[j]?).getD (.Pass ⟨0, 0, 0, 0⟩)
def bools (f : Int → Bool) (ns : List Int) : List Value := ns.map fun n => .bool (f n)
/-- what a loop that tells a bool of each of its ints has built -/
theorem built_bools {vs : List Value} {ns : List Int} (hi : IntsAre vs ns) (f : Int → Bool) {h : Heap} : ∀ {n : Nat} {ys : List Value}, n ≤ vs.length →
    Built (fun i v => vs.toArray[i]? = some v) (fun _ _ => true) (fun _ v y _ => ∃ a t, v = .int a t ∧ y = .bool (f a)) h n ys → ys = bools f (ns.take n)
  | 0, ys, _, b => by rw [show ys = [] from b]; simp [bools]
  | n + 1, ys, hn, ⟨v, hv, b⟩ => by
    obtain ⟨a, t, ha, rfl⟩ := ints_at hi (by simpa using hv)
    have e : ns.take (n + 1) = ns.take n ++ [a] := by rw [List.take_add_one, ha]; rfl
    rcases b with ⟨q, b⟩ | ⟨q, ys', y, rfl, ⟨a', t', e1, rfl⟩, b⟩
    · cases q
    · cases e1
      rw [e, built_bools hi f (by omega) b]
      simp [bools]
theorem ne_ns {h : Heap} {a L : Addr} {its : Array Value} {m : Str → Option Value} (p : h.PlainList a its) (n : h.Ns L m) : a ≠ L := by
  rintro rfl
  obtain ⟨k, e⟩ := p
  obtain ⟨o, es, ep, e', d, _⟩ := n
  rw [e] at e'; cases e'; cases d
structure Judge (w : World) (h : Heap) (ja : Addr) (J : Int → Bool) : Prop where
  fn : ∃ o fd, h.get? ja = some o ∧ o.data = .func fd
  run : ∀ (A : Around) (s' : Shared) (E' : Value → Shared → Prop) (Q' : Value → Shared → Prop) (c : Nat) (t : Tok), A.depth < recursionLimit → Kp h s'.heap →
    (∀ h' tk, Kp s'.heap h' → Q' (.bool (J (c : Int))) { s' with heap := h', toks := tk }) → wpAny (model pg w) A (call (.ref ja) [.str ⟨#[c]⟩ t]) Q' E' s'
section
variable {w : World} {A : Around} {E : Value → Shared → Prop}
/-- a cell's name -/
theorem ldKc {M : Model} {s : Shared} {env : Env} {c : Addr} {x : Str} {pos : Pos} {v : Value} {Q : Value → Shared → Prop} (hn : s.heap.IsCell c (some v)) (h : Q v s) (hc : env.cells.lookup x = some c)
    (hk : env.scope.kind = .function) (hl : env.kindOf x = some .cell) (hd : (x == ("__debug__" : Str)) = false := by decide) : wpAny M A (eval (.Name x pos) env) Q E s :=
  wpAny_Name (wpAny_loadName_cell hk hl hc hn h) hd
theorem right_told {L ja ca : Addr} {cd : Value} {hp0 h₁ : Heap} {m cm : Str → Option Value} {g : Array GenState} {d : Drawn} {tk : Nat} {os : OsState} {cvs : Array Value} {cs : List Int} {J : Int → Bool} {Q : Flow → Shared → Prop} (hh : A.handled = none) (hr : A.depth < recursionLimit)
    (B : Base w hp0) (F : Fr hp0 L h₁ m) (X : Cl L (cellsFrom (L + 1) (stS 19).names []) h₁ cm) (c1 : cm "judge" = some (.ref ja)) (hj : Judge w hp0 ja J) (m1 : m "codes" = some (.ref ca)) (hc : h₁.PlainList ca cvs) (hci : IntsAre cvs.toList cs) (hcs : cs.length < 1000) (hcr : ∀ c ∈ cs, 0 ≤ c ∧ c < 1114112)
    (hQ : ∀ h' tk' ba, Fr hp0 L h' (fun y => if y = "told" then some (.ref ba) else m y) → (∀ b o, b ≠ L → h₁.get? b = some o → h'.get? b = some o) → h'.PlainList ba (bools J cs).toArray → Q .next ⟨h', g, d, tk', os⟩) :
    wpAny (model pg w) A (exec (stmtOf 19 2) (renv L cd)) Q E ⟨h₁, g, d, tk, os⟩ := by
  have hlen : cvs.size = cs.length := by have := hci.length; rwa [Array.length_toList] at this
  have B₁ := B.keeps F.keep
  conv => enter [3, 1]; whnf
  refine exec_comp (by kernel_rfl) (comp1L (cl := [("judge", L + 1)]) hh (by kernel_rfl) (by kernel_rfl) (by decide +kernel) (by decide +kernel) (by kernel_rfl) (fun _ => rfl)
    (fun _ _ => true) (fun _ v y => ∃ a t, v = .int a t ∧ y = .bool (J a)) (ldLoc F m1 ⟨ca, cvs, rfl, hc.isList, by rw [sizeLine_eq]; omega, ?tst, ?elt, ?fin⟩ (by kernel_rfl) (by kernel_rfl)))
  case tst =>
    intro C i v s' E' hC hv hb hk
    exact wpAny_tests_nil ⟨rfl, _, _, rfl, fun _ _ e => e⟩
  case elt =>
    rintro C i v s' E' hC hv - ⟨m', hn, hm⟩ hk
    dsimp only at hk hC
    obtain ⟨a, t, ha, rfl⟩ := ints_at hci (by simpa using hv)
    obtain ⟨ha0, ha1⟩ := hcr a (List.mem_of_getElem? ha)
    have X' := X.keeps hk
    have cj : s'.heap.IsCell (L + 1) (some (.ref ja)) := c1 ▸ X'.cell "judge" (L + 1) (by kernel_rfl)
    obtain ⟨oj, fdj, hoj, hdj⟩ := hj.fn
    refine Call_ (ldKc cj ?_ (by kernel_rfl) (by kernel_rfl) (by kernel_rfl))
    refine callWith_def hdj (args_cons (Call_ (nm_built (B₁.keeps hk) (by decide) bb_chr ?_ rfl rfl (by kernel_rfl) (by kernel_rfl))))
    refine PyProof.Rows.callWith_builtin1 (args_cons (ldK hn hm (args_nil (chr_of_range ha0 (by omega) ?_)) rfl (by kernel_rfl) (by kernel_rfl)))
    refine args_nil ⟨hk _ _ (F.keep _ _ hoj), ?_⟩
    refine hj.run _ _ _ _ _ _ hr (fun b o e => hk _ _ (F.keep _ _ e)) fun h₂ tk₂ k₂ => ?_
    refine ⟨⟨a, t, rfl, ?_⟩, h₂, tk₂, rfl, k₂⟩
    rw [Int.toNat_of_nonneg ha0]
  case fin =>
    intro D C h' tk' ys hD hC hDC hn hk hpl hB
    dsimp only at hD hC hk
    have hL : L ≠ C := by rintro rfl; obtain ⟨o, es, ep, e, _⟩ := F.ns; rw [hC] at e; cases e
    refine post_store hn hL (F.ns.keeps hk) (by kernel_rfl) (by kernel_rfl) fun h'' n'' k'' => ?_
    have hDL : D ≠ L := by rintro rfl; obtain ⟨o, es, ep, e, _⟩ := F.ns; rw [hD] at e; cases e
    refine hQ _ _ D ⟨n'', fun b o e => k'' b o ?_ ?_ (hk _ _ (F.keep _ _ e)), F.above⟩ (fun b o hb e => k'' b o hb (by rintro rfl; rw [hC] at e; cases e) (hk _ _ e)) ?_
    · exact Nat.ne_of_lt (Nat.lt_of_lt_of_le (Heap.lt_size e) F.above)
    · rintro rfl; have := F.keep _ _ e; rw [hC] at this; cases this
    · have := built_bools hci J (n := cvs.size) (by simp) (by simpa using hB)
      rw [hlen, List.take_length] at this
      rw [← this]
      obtain ⟨n, e⟩ := hpl
      exact ⟨n, k'' _ _ hDL hDC (by simpa using e)⟩
end
end Mine
end
section
open PySem PySem.W PySem.Calls PyProof.Rows
set_option maxRecDepth 100000
set_option maxHeartbeats 4000000
set_option linter.unusedVariables false
namespace Mine
def inR (c : Int) (q : Int × Int) : Bool := decide (q.1 ≤ c) && decide (c ≤ q.2)
def dueOf (ps : List (Int × Int)) (c : Int) : Bool := ps.any (inR c)
def oddOf (es : List Int) (c : Int) : Bool := decide ((es.filter fun b => decide (b ≤ c)).length % 2 = 1)
def pR (ps : List (Int × Int)) (c : Int) (i : Nat) (_ : Value) : Bool := ((ps[i]?).map (inR c)).getD false
theorem built_any {tvs : Array Value} {ps : List (Int × Int)} {c : Int} (hlen : tvs.size = ps.length) {h : Heap} : ∀ {n : Nat} {ys : List Value}, n ≤ ps.length →
    Built (fun i v => tvs[i]? = some v) (pR ps c) (fun _ v y _ => y = v) h n ys → (ys = [] ∧ dueOf (ps.take n) c = false) ∨ (0 < ys.length ∧ dueOf (ps.take n) c = true)
  | 0, ys, _, b => .inl ⟨b, by simp [dueOf]⟩
  | n + 1, ys, hn, ⟨v, hv, b⟩ => by
    have hp : ps[n]? = some ps[n] := by simp
    have e : ps.take (n + 1) = ps.take n ++ [ps[n]] := by rw [List.take_add_one, hp]; rfl
    have e2 : dueOf (ps.take (n + 1)) c = (dueOf (ps.take n) c || inR c ps[n]) := by rw [e, dueOf, List.any_append]; simp only [List.any_cons, List.any_nil, Bool.or_false]; rfl
    have e3 : pR ps c n v = inR c ps[n] := by simp [pR, hp]
    rw [e2]
    rcases b with ⟨q, b⟩ | ⟨q, ys', y, rfl, rfl, b⟩
    · rw [e3] at q; rw [q, Bool.or_false]
      exact built_any hlen (by omega) b
    · rw [e3] at q; rw [q, Bool.or_true]
      exact .inr ⟨by simp, rfl⟩
section
variable {w : World} {A : Around} {E : Value → Shared → Prop}
theorem right_due {L ta ca : Addr} {cd : Value} {hp0 h₁ : Heap} {m cm : Str → Option Value} {g : Array GenState} {d : Drawn} {tk : Nat} {os : OsState} {cvs tvs : Array Value} {cs : List Int} {ps : List (Int × Int)} {Q : Flow → Shared → Prop} (hh : A.handled = none) (hu : A.units < cLine)
    (F : Fr hp0 L h₁ m) (X : Cl L (cellsFrom (L + 1) (stS 19).names []) h₁ cm) (c3 : cm "table" = some (.ref ta)) (ht : h₁.PlainList ta tvs) (htp : PairsAt h₁ tvs.toList ps) (hps : ps.length < 100) (m1 : m "codes" = some (.ref ca)) (hc : h₁.PlainList ca cvs) (hci : IntsAre cvs.toList cs) (hcs : cs.length < 1000)
    (hQ : ∀ h' tk' ba, Fr hp0 L h' (fun y => if y = "due" then some (.ref ba) else m y) → (∀ b o, b ≠ L → h₁.get? b = some o → h'.get? b = some o) → h'.PlainList ba (bools (dueOf ps) cs).toArray → Q .next ⟨h', g, d, tk', os⟩) :
    wpAny (model pg w) A (exec (stmtOf 19 3) (renv L cd)) Q E ⟨h₁, g, d, tk, os⟩ := by
  have hlen : cvs.size = cs.length := by have := hci.length; rwa [Array.length_toList] at this
  have htlen : tvs.size = ps.length := by have := htp.length; rwa [Array.length_toList] at this
  conv => enter [3, 1]; whnf
  refine exec_comp (by kernel_rfl) (comp1C (cl := [("table", L + 3)]) hh (by kernel_rfl) (by kernel_rfl) (by decide +kernel) (by intro h; rfl) (by intro C; kernel_rfl) (by intro C; kernel_rfl) (fun _ => rfl)
    (fun _ _ => true) (fun _ v y => ∃ a t, v = .int a t ∧ y = .bool (dueOf ps a)) (ldLoc F m1 ⟨ca, cvs, rfl, hc.isList, by rw [sizeLine_eq]; omega, ?tst, ?elt, ?fin⟩ (by kernel_rfl) (by kernel_rfl)))
  case tst =>
    intro C i v s' E' hC hv hb hk
    exact wpAny_tests_nil ⟨rfl, _, _, rfl, fun _ _ e => e⟩
  case elt =>
    rintro C i v s' E' hC hv - ⟨⟨m', hn⟩, hm⟩ hk
    dsimp only at hk hC
    obtain ⟨a, t, ha, rfl⟩ := ints_at hci (by simpa using hv)
    have X' := X.keeps hk
    have cj : s'.heap.IsCell (L + 3) (some (.ref ta)) := c3 ▸ X'.cell "table" (L + 3) (by kernel_rfl)
    refine wpAny_Compare1 (eval_comp (comp1L (cl := [("code", C + 1)]) hh (by kernel_rfl) (by kernel_rfl) (by decide +kernel) (by decide +kernel) (by kernel_rfl) (fun _ => rfl)
      (pR ps a) (fun _ v y => y = v) (ldKc cj ⟨ta, tvs, rfl, (PL.kp ht hk).isList, by rw [sizeLine_eq]; omega, ?tst1, ?elt1, ?fin1⟩ (by kernel_rfl) (by kernel_rfl) (by kernel_rfl))))
    case tst1 =>
      rintro C1 j v1 s1 E1 hC1 hv1 ⟨m1, hn1, hm1⟩ hk1
      obtain ⟨b, q, t1, u1, rfl, hq, hpl⟩ := htp.at_ (by simpa using hv1)
      have hp1 := (PL.kp (PL.kp hpl hk) hk1).isList
      have hm' := Heap.IsCell.keeps hm hk1
      have e : pR ps a j (.ref b) = inR a q := by simp [pR, hq]
      rw [e]
      refine wpAny_tests_one (isTrue_chain (Subscript_ (ldK hn1 hm1 (wpAny_Constant_int (item_list hp1 (by decide) (by decide) rfl ?_)) rfl (by kernel_rfl) (by kernel_rfl))))
      refine test_link (ldKc hm' (le_int (wpAny_truthy_bool ?_)) (by kernel_rfl) (by kernel_rfl) (by kernel_rfl))
      unfold inR
      cases hd1 : decide (q.1 ≤ a) with
      | false => rw [if_neg Bool.false_ne_true, Bool.false_and]; exact ⟨rfl, _, _, rfl, fun _ _ e => e⟩
      | true =>
        rw [if_pos rfl, Bool.true_and]
        refine test_last (Subscript_ (ldK hn1 hm1 (wpAny_Constant_int (item_list hp1 (by decide) (by decide) rfl (le_int (wpAny_truthy_bool ?_)))) rfl (by kernel_rfl) (by kernel_rfl)))
        exact ⟨rfl, _, _, rfl, fun _ _ e => e⟩
    case elt1 =>
      rintro C1 j v1 s1 E1 hC1 hv1 - ⟨m1, hn1, hm1⟩ hk1
      exact ldK hn1 hm1 ⟨rfl, _, _, rfl, fun _ _ e => e⟩ rfl (by kernel_rfl) (by kernel_rfl)
    case fin1 =>
      intro D1 C1 h1 tk1 ys1 hD1 hC1 hDC1 hn1 hk1 hpl1 hB1
      refine post_none hn1 fun h2 hs2 => ?_
      have k2 : Kp s'.heap h2 := fun b o e => (hs2.2 b (by rintro rfl; rw [hC1] at e; cases e)).trans (hk1 b o e)
      refine List_ (args_nil (new_list (fun h3 k3 p3 z3 => ?_) (by simp)))
      have p4 := (PL.kp (PL.same hpl1 hs2 hDC1) k3).isList
      have hb := built_any (c := a) htlen (n := tvs.size) (by omega) (by simpa using hB1)
      rw [htlen, List.take_length] at hb
      rcases hb with ⟨y0, y1⟩ | ⟨y0, y1⟩
      · have y2 : ys1 = #[] := by simpa using y0
        subst y2
        refine PySem.SeqAt.RcNeAt.lists (e := fun _ => true) p4 p3.isList (by simp) hu (fun j j1 _ => absurd j1 (by simp)) _ _ _ _ ?_
        exact ⟨⟨a, t, rfl, by rw [y1]; rfl⟩, h3, _, rfl, Kp.tr k2 k3⟩
      · refine PySem.SeqAt.RcNeAt.lists_lengths p4 p3.isList (by simp only [Array.length_toList] at y0; simp; intro q; rw [q] at y0; simp at y0) hu _ _ _ _ ?_
        exact ⟨⟨a, t, rfl, by rw [y1]⟩, h3, _, rfl, Kp.tr k2 k3⟩
  case fin =>
    intro D C h' tk' ys hD hC hDC hn hk hpl hB
    dsimp only at hD hC hk
    have hL : L ≠ C := by rintro rfl; obtain ⟨o, es, ep, e, _⟩ := F.ns; rw [hC] at e; cases e
    refine post_store hn hL (F.ns.keeps hk) (by kernel_rfl) (by kernel_rfl) fun h'' n'' k'' => ?_
    have hDL : D ≠ L := by rintro rfl; obtain ⟨o, es, ep, e, _⟩ := F.ns; rw [hD] at e; cases e
    refine hQ _ _ D ⟨n'', fun b o e => k'' b o ?_ ?_ (hk _ _ (F.keep _ _ e)), F.above⟩ (fun b o hb e => k'' b o hb (by rintro rfl; rw [hC] at e; cases e) (hk _ _ e)) ?_
    · exact Nat.ne_of_lt (Nat.lt_of_lt_of_le (Heap.lt_size e) F.above)
    · rintro rfl; have := F.keep _ _ e; rw [hC] at this; cases this
    · have := built_bools hci (dueOf ps) (n := cvs.size) (by simp) (by simpa using hB)
      rw [hlen, List.take_length] at this
      rw [← this]
      obtain ⟨n, e⟩ := hpl
      exact ⟨n, k'' _ _ hDL hDC (by simpa using e)⟩
theorem right_odd {L ea ca : Addr} {cd : Value} {hp0 h₁ : Heap} {m cm : Str → Option Value} {g : Array GenState} {d : Drawn} {tk : Nat} {os : OsState} {cvs evs : Array Value} {cs : List Int} {es : List Int} {Q : Flow → Shared → Prop} (hh : A.handled = none) (hu : A.units < cLine)
    (F : Fr hp0 L h₁ m) (X : Cl L (cellsFrom (L + 1) (stS 19).names []) h₁ cm) (B : Base w hp0) (c2 : cm "ends" = some (.ref ea)) (he : h₁.PlainList ea evs) (hei : IntsAre evs.toList es) (hes : es.length < 100) (m1 : m "codes" = some (.ref ca)) (hc : h₁.PlainList ca cvs) (hci : IntsAre cvs.toList cs) (hcs : cs.length < 1000)
    (hQ : ∀ h' tk' ba, Fr hp0 L h' (fun y => if y = "odd" then some (.ref ba) else m y) → (∀ b o, b ≠ L → h₁.get? b = some o → h'.get? b = some o) → h'.PlainList ba (bools (oddOf es) cs).toArray → Q .next ⟨h', g, d, tk', os⟩) :
    wpAny (model pg w) A (exec (stmtOf 19 4) (renv L cd)) Q E ⟨h₁, g, d, tk, os⟩ := by
  have hlen : cvs.size = cs.length := by have := hci.length; rwa [Array.length_toList] at this
  have helen : evs.size = es.length := by have := hei.length; rwa [Array.length_toList] at this
  have B₁ := B.keeps F.keep
  conv => enter [3, 1]; whnf
  refine exec_comp (by kernel_rfl) (comp1C (cl := [("ends", L + 2)]) hh (by kernel_rfl) (by kernel_rfl) (by decide +kernel) (by intro h; rfl) (by intro C; kernel_rfl) (by intro C; kernel_rfl) (fun _ => rfl)
    (fun _ _ => true) (fun _ v y => ∃ a t, v = .int a t ∧ y = .bool (oddOf es a)) (ldLoc F m1 ⟨ca, cvs, rfl, hc.isList, by rw [sizeLine_eq]; omega, ?tst, ?elt, ?fin⟩ (by kernel_rfl) (by kernel_rfl)))
  case tst =>
    intro C i v s' E' hC hv hb hk
    exact wpAny_tests_nil ⟨rfl, _, _, rfl, fun _ _ e => e⟩
  case elt =>
    rintro C i v s' E' hC hv - ⟨⟨m', hn⟩, hm⟩ hk
    dsimp only at hk hC
    obtain ⟨a, t, ha, rfl⟩ := ints_at hci (by simpa using hv)
    have X' := X.keeps hk
    have cj : s'.heap.IsCell (L + 2) (some (.ref ea)) := c2 ▸ X'.cell "ends" (L + 2) (by kernel_rfl)
    refine wpAny_Compare1 (wpAny_BinOp (Call_ (nm_built (B₁.keeps hk) (by decide) bb_len ?_ rfl rfl (by kernel_rfl) (by kernel_rfl))))
    refine PyProof.Rows.callWith_builtin1 (args_cons (eval_comp (comp1L (cl := [("code", C + 1)]) hh (by kernel_rfl) (by kernel_rfl) (by decide +kernel) (by decide +kernel) (by kernel_rfl) (fun _ => rfl)
      (fun _ v => match v with | .int b _ => decide (b ≤ a) | _ => false) (fun _ v y => y = v) (ldKc cj ⟨ea, evs, rfl, (PL.kp he hk).isList, by rw [sizeLine_eq]; omega, ?tst1, ?elt1, ?fin1⟩ (by kernel_rfl) (by kernel_rfl) (by kernel_rfl)))))
    case tst1 =>
      rintro C1 j v1 s1 E1 hC1 hv1 ⟨m1, hn1, hm1⟩ hk1
      obtain ⟨b, t1, hb1, rfl⟩ := ints_at hei (by simpa using hv1)
      have hm' := Heap.IsCell.keeps hm hk1
      refine wpAny_tests_one (wpAny_isTrue_Compare1 (ldK hn1 hm1 (ldKc hm' (le_int (wpAny_truthy_bool ?_)) (by kernel_rfl) (by kernel_rfl) (by kernel_rfl)) rfl (by kernel_rfl) (by kernel_rfl)))
      exact ⟨rfl, _, _, rfl, fun _ _ e => e⟩
    case elt1 =>
      rintro C1 j v1 s1 E1 hC1 hv1 - ⟨m1, hn1, hm1⟩ hk1
      exact ldK hn1 hm1 ⟨rfl, _, _, rfl, fun _ _ e => e⟩ rfl (by kernel_rfl) (by kernel_rfl)
    case fin1 =>
      intro D1 C1 h1 tk1 ys1 hD1 hC1 hDC1 hn1 hk1 hpl1 hB1
      refine post_none hn1 fun h2 hs2 => ?_
      have k2 : Kp s'.heap h2 := fun b o e => (hs2.2 b (by rintro rfl; rw [hC1] at e; cases e)).trans (hk1 b o e)
      have hb := built_ints hei (fun b => decide (b ≤ a)) (n := evs.size) (by simp) (by simp only [Array.toArray_toList]; exact hB1)
      rw [helen, List.take_length] at hb
      have hl := hb.length
      rw [Array.length_toList] at hl
      have hle : ys1.size ≤ es.length := by rw [hl]; exact List.length_filter_le _ _
      refine args_nil (len_list (PL.same hpl1 hs2 hDC1).isList (by omega) ?_)
      refine wpAny_Constant_int (mod_int (by decide) (wpAny_Constant_int (eq_int ?_)))
      refine ⟨⟨a, t, rfl, ?_⟩, h2, _, rfl, k2⟩
      rw [oddOf, hl]
      have e1 : (((es.filter fun b => decide (b ≤ a)).length : Nat) : Int).fmod 2 = (((es.filter fun b => decide (b ≤ a)).length % 2 : Nat) : Int) := by rw [Int.fmod_eq_emod_of_nonneg _ (by decide)]; omega
      rw [e1]
      generalize (es.filter fun b => decide (b ≤ a)).length = k
      rcases Nat.mod_two_eq_zero_or_one k with q | q <;> rw [q] <;> rfl
  case fin =>
    intro D C h' tk' ys hD hC hDC hn hk hpl hB
    dsimp only at hD hC hk
    have hL : L ≠ C := by rintro rfl; obtain ⟨o, es, ep, e, _⟩ := F.ns; rw [hC] at e; cases e
    refine post_store hn hL (F.ns.keeps hk) (by kernel_rfl) (by kernel_rfl) fun h'' n'' k'' => ?_
    have hDL : D ≠ L := by rintro rfl; obtain ⟨o, es, ep, e, _⟩ := F.ns; rw [hD] at e; cases e
    refine hQ _ _ D ⟨n'', fun b o e => k'' b o ?_ ?_ (hk _ _ (F.keep _ _ e)), F.above⟩ (fun b o hb e => k'' b o hb (by rintro rfl; rw [hC] at e; cases e) (hk _ _ e)) ?_
    · exact Nat.ne_of_lt (Nat.lt_of_lt_of_le (Heap.lt_size e) F.above)
    · rintro rfl; have := F.keep _ _ e; rw [hC] at this; cases this
    · have := built_bools hci (oddOf es) (n := cvs.size) (by simp) (by simpa using hB)
      rw [hlen, List.take_length] at this
      rw [← this]
      obtain ⟨n, e⟩ := hpl
      exact ⟨n, k'' _ _ hDL hDC (by simpa using e)⟩
end
end Mine
end
section
open PySem PySem.W PySem.Calls PyProof.Rows PySem.SeqAt
set_option maxRecDepth 100000
set_option maxHeartbeats 4000000
set_option linter.unusedVariables false
namespace Mine
theorem built_no {P : Nat → Value → Prop} {F : Nat → Value → Value → Heap → Prop} {h : Heap} : ∀ {n : Nat} {ys : List Value}, Built P (fun _ _ => false) F h n ys → ys = []
  | 0, _, b => b
  | n + 1, _, ⟨v, _, b⟩ => by
    rcases b with ⟨_, b⟩ | ⟨q, _⟩
    · exact built_no b
    · cases q
section
variable {w : World} {A : Around} {E : Value → Shared → Prop} {s : Shared}
theorem eq_rows {A : Around} {s : Shared} {a b : Addr} {vs : Array Value} (ha : s.heap.IsList a vs) (hb : s.heap.IsList b vs) (hu : A.units < cLine) : EqAt A s (.ref a) (.ref b) true := by
  by_cases e : a = b
  · subst e; exact EqAt.same _
  · have := RcAt.lists (e := fun _ => true) ha hb rfl hu (fun j h1 h2 => EqAt.same _)
    rw [show ((List.range vs.size).all fun _ => true) = true by simp] at this
    exact EqAt.of_refs e this
theorem right_last {L ta oa ua : Addr} {cd : Value} {hp0 h₁ : Heap} {m cm : Str → Option Value} {g : Array GenState} {d : Drawn} {tk : Nat} {os : OsState} {cs : List Int} {f : Int → Bool} {Q : Value → Shared → Prop} (hh : A.handled = none) (hu : A.units + 8 < cLine) 
    (F : Fr hp0 L h₁ m) (m1 : m "told" = some (.ref ta)) (m2 : m "odd" = some (.ref oa)) (m3 : m "due" = some (.ref ua)) (ht : h₁.PlainList ta (bools f cs).toArray) (ho : h₁.PlainList oa (bools f cs).toArray) (hd : h₁.PlainList ua (bools f cs).toArray) (hcs : cs.length < 1000)
    (hQ : ∀ h' tk', Kp h₁ h' → Q (.bool true) ⟨h', g, d, tk', os⟩) :
    wpAny (model pg w) A (eval (asgE 19 5) (renv L cd)) Q E ⟨h₁, g, d, tk, os⟩ := by
  conv => enter [3, 1]; whnf
  refine BoolOp_and (wpAny_Compare1 (List_ (args_cons (ldLoc F m1 (args_cons (ldLoc F m2 (args_nil (new_list (fun h₂ k₂ p₂ z₂ => ?_) (by simp [sizeLine_eq]))) (by kernel_rfl) (by kernel_rfl))) (by kernel_rfl) (by kernel_rfl)))))
  dsimp only at k₂ p₂ ⊢
  have F₂ := Fr.kp F k₂
  refine List_ (args_cons (ldLoc F₂ m3 (args_cons (ldLoc F₂ m3 (args_nil (new_list (fun h₃ k₃ p₃ z₃ => ?_) (by simp [sizeLine_eq]))) (by kernel_rfl) (by kernel_rfl))) (by kernel_rfl) (by kernel_rfl)))
  dsimp only at k₃ p₃ ⊢
  have k13 := Kp.tr k₂ k₃
  have F₃ := Fr.kp F₂ k₃
  have ht₃ := PL.kp ht k13
  have ho₃ := PL.kp ho k13
  have hd₃ := PL.kp hd k13
  refine eq_listAt (e := fun _ => true) (PL.kp p₂ k₃).isList p₃.isList rfl (by omega) (fun j j1 j2 => ?_) ?_
  · match j, j1 with
    | 0, _ => exact eq_rows ht₃.isList hd₃.isList (by show A.units + 1 < _; omega)
    | 1, _ => exact eq_rows ho₃.isList hd₃.isList (by show A.units + 1 < _; omega)
    | j + 2, j1 => exact absurd j1 (by simp)
  refine wpAny_truthy_bool ?_
  rw [show ((List.range (#[Value.ref ta, Value.ref oa] : Array Value).size).all fun _ => true) = true by rfl, if_pos rfl]
  refine BoolOp_one (wpAny_Compare1 (eval_comp (comp1L (cl := []) hh (by kernel_rfl) (by kernel_rfl) (by decide +kernel) (by decide +kernel) (by kernel_rfl) (fun _ => rfl)
      (fun _ _ => false) (fun _ v y => y = v) (ldLoc F₃ m1 ⟨ta, _, rfl, ht₃.isList, by simp [bools, sizeLine_eq]; omega, ?tst1, ?elt1, ?fin1⟩ (by kernel_rfl) (by kernel_rfl)))))
  case tst1 =>
    rintro C1 j v1 s1 E1 hC1 hv1 ⟨m1, hn1, hm1⟩ hk1
    obtain ⟨b, rfl⟩ : ∃ b, v1 = .bool b := by
      simp [bools] at hv1
      obtain ⟨x, _, e⟩ := hv1
      exact ⟨_, e.symm⟩
    refine wpAny_tests_one (isTrue_and (wpAny_isTrue_Compare1 (ldK hn1 hm1 (Constant_bool (wpAny_isNot_plain rfl (wpAny_truthy_bool ?_))) rfl (by kernel_rfl) (by kernel_rfl))))
    cases b with
    | true => exact ⟨rfl, _, _, rfl, fun _ _ e => e⟩
    | false =>
      refine isTrue_and (wpAny_isTrue_Compare1 (ldK hn1 hm1 (Constant_bool (wpAny_isNot_plain rfl (wpAny_truthy_bool ?_))) rfl (by kernel_rfl) (by kernel_rfl)))
      exact ⟨rfl, _, _, rfl, fun _ _ e => e⟩
  case elt1 =>
    rintro C1 j v1 s1 E1 hC1 hv1 hq ⟨m1, hn1, hm1⟩ hk1
    cases hq
  case fin1 =>
    intro D1 C1 h1 tk1 ys1 hD1 hC1 hDC1 hn1 hk1 hpl1 hB1
    refine post_none hn1 fun h2 hs2 => ?_
    have k2 : Kp h₃ h2 := fun b o e => (hs2.2 b (by rintro rfl; rw [hC1] at e; cases e)).trans (hk1 b o e)
    have y2 : ys1 = #[] := by simpa using built_no hB1
    subst y2
    refine List_ (args_nil (new_list (fun h4 k4 p4 z4 => ?_) (by simp)))
    refine eq_listAt (e := fun _ => true) (PL.kp (PL.same hpl1 hs2 hDC1) k4).isList p4.isList (by simp) (by omega) (fun j j1 _ => absurd j1 (by simp)) ?_
    exact hQ _ _ (Kp.tr k13 (Kp.tr k2 k4))
end
end Mine
end
section
open PySem PySem.W PySem.Calls PyProof.Rows PySem.SeqAt
set_option maxRecDepth 100000
set_option maxHeartbeats 4000000
set_option linter.unusedVariables false
namespace Mine
theorem bools_congr {f g : Int → Bool} {cs : List Int} (h : ∀ c ∈ cs, f c = g c) : bools f cs = bools g cs := List.map_congr_left fun c hc => by rw [h c hc]
abbrev KpL (L : Addr) (h h' : Heap) : Prop := ∀ b o, b ≠ L → h.get? b = some o → h'.get? b = some o
theorem PL.kpL {h h' : Heap} {a L : Addr} {its : Array Value} {m : Str → Option Value} (x : h.PlainList a its) (n : h.Ns L m) (k : KpL L h h') : h'.PlainList a its := let ⟨j, e⟩ := x; ⟨j, k _ _ (ne_ns x n) e⟩
theorem PairsAt.kpL {h h' : Heap} {L : Addr} {m : Str → Option Value} {vs : List Value} {ps : List (Int × Int)} (x : PairsAt h vs ps) (n : h.Ns L m) (k : KpL L h h') : PairsAt h' vs ps := by
  induction x with
  | nil => exact .nil
  | cons e _ ih => exact .cons (PL.kpL e n k) ih
section
variable {w : World} {A : Around} {E : Value → Shared → Prop} {s : Shared}
theorem stKC {M : Model} {name : Str} {scope : Scope} {L a : Addr} {cd : Value} {h₀ : Heap} {m cm : Str → Option Value} {x : Str} {v : Value} {Q : Unit → Shared → Prop} (F : Fr h₀ L s.heap m) (X : Cl L (cellsFrom (L + 1) scope.names []) s.heap cm)
    (h : ∀ h', Fr h₀ L h' (fun y => if y = x then some v else m y) → Cl L (cellsFrom (L + 1) scope.names []) h' cm → KpL L s.heap h' → Q () { s with heap := h', toks := s.toks + 1 })
    (hk : scope.kind = .function) (hl : (envOfC name scope L a cd).kindOf x = some .local) :
    wpAny M A (storeName (envOfC name scope L a cd) x v) Q E s :=
  wpAny_storeName_local hl F.ns (fun h' hn hs => h h' (F.set hn hs) (X.sameBut hs (Nat.le_refl _)) fun b o hb e => (hs.2 b hb).trans e)
    (by show (scope.kind == .class || (scope.kind == .module && L != mainGlobals)) = false; rw [hk]; rfl)
theorem right_ok {ja ea ta da : Addr} {evs tvs dvs : Array Value} {es ds : List Int} {ps : List (Int × Int)} {J : Int → Bool} {Q : Value → Shared → Prop} (B : Base w s.heap) (hr : A.depth + 2 < recursionLimit) (hh : A.handled = none) (hu : A.units + 64 < cLine)
    (hj : Judge w s.heap ja J) (he : s.heap.PlainList ea evs) (hei : IntsAre evs.toList es) (ht : s.heap.PlainList ta tvs) (htp : PairsAt s.heap tvs.toList ps) (hd : s.heap.PlainList da dvs) (hdi : IntsAre dvs.toList ds)
    (hps : ps.length < 100) (hes : es.length < 100) (hds : ds.length < 100) (hcr : ∀ c ∈ codesOf (someOf ps) ++ ds, 0 ≤ c ∧ c < 1114112) (hJ : ∀ c ∈ codesOf (someOf ps) ++ ds, J c = dueOf ps c ∧ oddOf es c = dueOf ps c)
    (hQ : ∀ h' tk, Kp s.heap h' → Q (.bool true) { s with heap := h', toks := tk }) :
    wpAny (model pg w) A (call (.ref 141) [.ref ja, .ref ea, .ref ta, .ref da]) Q E s := by
  obtain ⟨cd, F⟩ := B.ri
  obtain ⟨o, pm, doc, hof, hdat⟩ := F.at_
  obtain ⟨hp0, g, d, tk, os⟩ := s
  dsimp only at he ht htp hd hQ
  refine wpAny_call (call_cells_ret (binds := [("judge", .ref ja), ("ends", .ref ea), ("table", .ref ta), ("drawn", .ref da)]) (by omega) hof hdat B.lim F.rec_ (by rfl) ?hk (fun h₁ tk₁ F₁ X₁ => ?_) (by decide +kernel) (by decide +kernel) (by decide +kernel))
  case hk => exact kindsX (by kernel_rfl) _
  dsimp only at F₁ X₁ ⊢
  have B₁ := B.keeps F₁.keep
  generalize hm₁ : bindL _ _ _ = m₁ at F₁
  generalize hcm : bindC _ _ _ = cm at X₁
  have c1 : cm "judge" = some (.ref ja) := by rw [← hcm]; kernel_rfl
  have c2 : cm "ends" = some (.ref ea) := by rw [← hcm]; kernel_rfl
  have c3 : cm "table" = some (.ref ta) := by rw [← hcm]; kernel_rfl
  have m1 : m₁ "drawn" = some (.ref da) := by rw [← hm₁]; kernel_rfl
  clear hm₁ hcm
  have ql : (someOf ps).length < 100 := by
    unfold someOf; split
    · exact hps
    · simp; omega
  have cl : (codesOf (someOf ps) ++ ds).length < 1000 := by
    have := flat_le (fun i => Nat.le_trans (List.length_filter_le (fun n : Int => decide (n < 1114112)) _) (gsC_len (someOf ps) i)) (someOf ps).length
    rw [List.length_append, codesOf]; omega
  have hA1 : (A.deeper (envOfC "_law_right" (stS 19) hp0.objs.size 141 cd)).handled = none := hh
  have hA2 : (A.deeper (envOfC "_law_right" (stS 19) hp0.objs.size 141 cd)).depth < recursionLimit := by show A.depth + 1 < _; omega
  have hA3 : (A.deeper (envOfC "_law_right" (stS 19) hp0.objs.size 141 cd)).units + 8 < cLine := by
    show A.units + 3 + 8 < cLine
    omega
  generalize A.deeper (envOfC "_law_right" (stS 19) hp0.objs.size 141 cd) = A' at hA1 hA2 hA3 ⊢
  have e0 := PL.kp he F₁.keep
  have t0 := PL.kp ht F₁.keep
  have d0 := PL.kp hd F₁.keep
  refine wpAny_execs_cons (wpAny_Assign_Name (right_some (hp0 := hp0) B₁ X₁ c3 t0 (htp.kp F₁.keep) hps fun h₂ tk₂ sa svs k₂ p₂ q₂ => ?_) (by kernel_rfl))
  have F₂ := Fr.kp F₁ k₂
  refine stKC F₂ (X₁.keeps k₂) (fun h₃ F₃ X₃ k₃ => ?_) (by kernel_rfl) (by kernel_rfl)
  dsimp only at k₃ ⊢
  have p₃ := PL.kpL p₂ F₂.ns k₃
  have q₃ := q₂.kpL F₂.ns k₃
  refine wpAny_execs_cons (wpAny_Assign_Name (right_codes hA1 F₃ X₃ rfl m1 p₃ q₃ (PL.kp hd F₃.keep) hdi ql hds fun h₄ tk₄ ca cvs k₄ p₄ i₄ => ?_) (by kernel_rfl))
  have F₄ := Fr.kp F₃ k₄
  refine stKC F₄ (X₃.keeps k₄) (fun h₅ F₅ X₅ k₅ => ?_) (by kernel_rfl) (by kernel_rfl)
  dsimp only at k₅ ⊢
  have p₅ := PL.kpL p₄ F₄.ns k₅
  refine wpAny_execs_cons (right_told hA1 hA2 B F₅ X₅ c1 hj rfl p₅ i₄ cl hcr fun h₆ tk₆ ta₆ F₆ k₆ t₆ => ?_)
  have X₆ := X₅.extBut (fun b o hb e => k₆ b o hb e) (Nat.le_refl _)
  have p₆ := PL.kpL p₅ F₅.ns k₆
  refine wpAny_execs_cons (right_due hA1 (by omega) F₆ X₆ c3 (PL.kp ht F₆.keep) (htp.kp F₆.keep) hps rfl p₆ i₄ cl fun h₇ tk₇ ua₇ F₇ k₇ t₇ => ?_)
  have X₇ := X₆.extBut (fun b o hb e => k₇ b o hb e) (Nat.le_refl _)
  have p₇ := PL.kpL p₆ F₆.ns k₇
  refine wpAny_execs_cons (right_odd hA1 (by omega) F₇ X₇ B c2 (PL.kp he F₇.keep) hei hes rfl p₇ i₄ cl fun h₈ tk₈ oa₈ F₈ k₈ t₈ => ?_)
  have a1 := PL.kpL (PL.kpL t₆ F₆.ns k₇) F₇.ns k₈
  have a2 := PL.kpL t₇ F₇.ns k₈
  rw [bools_congr (g := dueOf ps) fun c hc => (hJ c hc).1] at a1
  rw [bools_congr (g := dueOf ps) fun c hc => (hJ c hc).2] at t₈
  refine wpAny_execs_cons (wpAny_Return_some (right_last (cm := cm) hA1 hA3 F₈ rfl rfl rfl a1 t₈ a2 cl fun h₉ tk₉ k₉ => ?_))
  exact hQ _ _ (Kp.tr F₈.keep k₉)
end
end Mine
end
section
open PySem PySem.W PySem.Calls PyProof.Rows PySem.SeqAt
set_option maxRecDepth 100000
set_option maxHeartbeats 4000000
set_option linter.unusedVariables false
namespace Mine
section
variable {prog : Program} {w : World} {A : Around} {E : Value → Shared → Prop} {s : Shared} {env : Env}
/-- [elt for x in range(a, a + n) if ..], x a name of the block's own -/
theorem comp1R {elt iter : Expr} {x : Str} {px : Pos} {ifs : List Expr} {scope : Scope} {cl : List (Str × Addr)} {pos cpos : Pos} {Q : Value → Shared → Prop} {use : Option (Value → Sem Unit)} (hh : A.handled = none)
    (hclos : closureFor scope env = pure cl) (hkind : scope.kind = .function) (hnames : ∀ y ∈ scope.names, y.2 = .local → scope.names.lookup y.1 = some .local) (hcell : ∀ y ∈ scope.names, y.2 ≠ .cell) (hx : scope.names.lookup x = some .local)
    (hs : ∀ x, foldedSetIterable iter env x = pure x)
    (h : wpAny (model prog w) A (eval iter env) (fun xv s₁ => ∃ r a n t u v, ∃ (p : Nat → Value → Bool) (F : Nat → Value → Value → Heap → Prop), xv = .ref r ∧ IsRange s₁.heap r a (a + (n : Nat)) 1 t u v ∧ Builtin.Range.small a (a + (n : Nat)) 1 = true ∧ n ≤ sizeLine ∧
      (∀ i v y h h', F i v y h → (∀ b o, b ≠ s₁.heap.objs.size → b ≠ s₁.heap.objs.size + 1 → b ≠ s₁.heap.objs.size + 1 + 1 → h.get? b = some o → h'.get? b = some o) → F i v y h') ∧
      (∀ i t s' E', i < n → BdL x (s₁.heap.objs.size + 1 + 1) (.int (a + i) t) s'.heap → Kp s₁.heap s'.heap →
        wpAny (model prog w) A (forIn ifs true fun c r => if r = true then do let ok ← isTrue c (cenvOf scope cl (s₁.heap.objs.size + 1 + 1) env) (eval c (cenvOf scope cl (s₁.heap.objs.size + 1 + 1) env)); pure (ForInStep.yield ok) else pure (ForInStep.yield r)) (fun ok s'' => ok = p i (.int (a + i) t) ∧ Keeps s' s'') E' s') ∧
      (∀ i t s' E', i < n → p i (.int (a + i) t) = true → BdL x (s₁.heap.objs.size + 1 + 1) (.int (a + i) t) s'.heap → Kp s₁.heap s'.heap →
        wpAny (model prog w) A (eval elt (cenvOf scope cl (s₁.heap.objs.size + 1 + 1) env)) (fun y s'' => F i (.int (a + i) t) y s''.heap ∧ Keeps s' s'') E' s') ∧
      (∀ h' tk ys, (∃ m, h'.Ns (s₁.heap.objs.size + 1 + 1) m) → Kp s₁.heap h' → h'.PlainList (s₁.heap.objs.size + 1) ys → Built (fun i v => i < n ∧ ∃ t, v = .int (a + i) t) p F h' n ys.toList → compPost (model prog w) A E use Q (.ref (s₁.heap.objs.size + 1)) (s₁.heap.objs.size + 1 + 1) (.ok .next) { s₁ with heap := h', toks := tk })) E s) :
    wpAny (model prog w) A (comprehension (.ListComp elt [⟨.Name x px, iter, ifs, 0⟩] scope pos) scope env cpos (newList []) false (eval iter env) use) Q E s := by
  refine comp_in hclos hkind hnames (wpAny_mono h (fun xv s₁ h₁ => ?_) fun _ _ e => e) hs
  obtain ⟨r, a, n, t, u, v, p, F, rfl, hr, hsm, hsz, hFX, htst, helt, hQ⟩ := h₁
  refine wpAny_pyIter_range hr hsm ?_
  obtain ⟨hp, g, d, tk, os⟩ := s₁
  dsimp only at hr hFX htst helt hQ ⊢
  refine ⟨_, rfl, fun h₃ e₃ => ?_⟩
  rw [pushCells_none _ _ hcell, Heap.size_push] at *
  have e0 : Builtin.Range.rangeSize a (a + (n : Nat)) 1 = (n : Int) := by rw [rangeSize_nat]; omega
  rw [e0] at e₃
  have k₃ : Kp hp h₃ := by subst e₃; exact (kp_push _ _).tr ((kp_push _ _).tr (kp_push _ _))
  have gI : IsRangeIter h₃ hp.objs.size a n 1 := by
    subst e₃
    exact Heap.get?_push_of_some _ (Heap.get?_push_of_some _ (Heap.get?_push_size _ rfl))
  have gD : h₃.PlainList (hp.objs.size + 1) #[] := by
    subst e₃
    have := Heap.get?_push_size (h := hp.push { cls := .type "range_iterator", data := .fields #[rawInt a, rawInt (n : Int), rawInt 1] }) (o := { cls := .type "list", data := .seq #[] }) rfl
    rw [Heap.size_push] at this
    exact ⟨0, Heap.get?_push_of_some _ this⟩
  have gC : ∃ m, h₃.Ns (hp.objs.size + 1 + 1) m := by
    subst e₃
    have := Heap.Ns.new ((hp.push { cls := .type "range_iterator", data := .fields #[rawInt a, rawInt (n : Int), rawInt 1] }).push { cls := .type "list", data := .seq #[] }) (.type "dict")
    rw [Heap.size_push, Heap.size_push] at this
    exact ⟨_, this⟩
  clear e₃
  refine ⟨fun Q' E' q => wpAny_pyIter_rangeiter gI q, ?_⟩
  have kpp : ∀ h', (∀ b o, b ∉ [hp.objs.size + 1 + 1] → b ∉ [hp.objs.size] → b ≠ hp.objs.size + 1 → h₃.get? b = some o → h'.get? b = some o) → Kp hp h' := fun h' k b o e => by
    have q := Heap.lt_size e
    exact k b o (nmem1 (nlt2 q)) (nmem1 (nlt0 q)) (nlt1 q) (k₃ b o e)
  have W := Walks.range (prog := prog) (w := w) hh hp.objs.size a 1 n
  have W' : Walks prog w A hp.objs.size [hp.objs.size] [hp.objs.size] n (fun i v => i < n ∧ ∃ t, v = .int (a + i) t) (fun i h => IsRangeIter h hp.objs.size (a + (i : Nat) * 1) ((n : Int) - (i : Nat)) 1) :=
    ⟨W.sub, W.frame, fun i s Q E hi st hQ => W.item i s Q E hi st fun v h' tk ⟨t, e⟩ st' k => hQ v h' tk ⟨hi, t, by rw [e, Int.mul_one]⟩ st' k, W.done, W.self⟩
  refine loop_last (X := [hp.objs.size + 1 + 1]) (ys₀ := #[]) rfl rfl W' (fun h => ∃ m, h.Ns (hp.objs.size + 1 + 1) m) (fun i v h => BdL x (hp.objs.size + 1 + 1) v h) p F
    (fun y hy => by rw [List.mem_singleton.mp hy]; exact nmem1 (s20 _)) (nmem1 (s21 _).symm) (nmem1 (s10 _))
    (fun h h' o k => o.imp fun _ n => Ns.atX n (k _ (.head _))) (fun i v h h' o k => let ⟨m, n, e⟩ := o; ⟨m, Ns.atX n (k _ (.head _)), e⟩) (fun i v h o => let ⟨m, n, _⟩ := o; ⟨m, n⟩) 
    (fun i v y h h' f k => hFX i v y h h' f fun b o b1 b2 b3 e => k b o (nmem1 b3) (nmem1 b1) b2 e)
    (by show IsRangeIter _ _ (a + ((0 : Nat) : Int) * 1) ((n : Int) - ((0 : Nat) : Int)) 1; simpa using gI) gD gC (by simpa using hsz) ?asg ?tst ?elt (fun h o y hy => by simp at hy; subst hy; exact let ⟨m, n⟩ := o; Ns.some n) ?fin
  case asg =>
    rintro i v s' E' hv ⟨m, hn⟩ _ hk
    rw [letGo_name]
    refine wpAny_bind (wpAny_pure (wpAny_assign_Name (wpAny_storeName_local (lookup_relabel_local hx) hn (fun h' hn' hs' => ?_) (by show (scope.kind == .class || (scope.kind == .module && _)) = false; rw [hkind]; rfl))))
    exact ⟨h', _, rfl, ⟨_, hn', if_pos rfl⟩, fun b o hb e => (hs'.2 b (fun q => hb (List.mem_singleton.mpr q))).trans e⟩
  case tst => rintro i v s' E' ⟨hi, t', rfl⟩ hb hk; exact htst i t' s' E' hi hb (kpp _ hk)
  case elt => rintro i v s' E' ⟨hi, t', rfl⟩ hp' hb _ _ hk; exact helt i t' s' E' hi hp' hb (kpp _ hk)
  case fin =>
    rintro h' tk' ys zs ⟨m, hn⟩ hpl hys hB hk
    have e : ys.toList = zs := by simpa using hys
    refine hQ h' tk' ys ⟨m, hn⟩ (kpp _ hk) hpl ?_
    rw [e]
    exact hB
end
end Mine
end
section
open PySem PySem.W PySem.Calls PyProof.Rows PySem.SeqAt
set_option maxRecDepth 100000
set_option maxHeartbeats 200000
set_option linter.unusedVariables false
namespace Mine
/-- a written row of pairs -/
inductive LitPairs : List Expr → List (Int × Int) → Prop
  | nil : LitPairs [] []
  | cons {x y : Int} {k k' : Nat} {p1 p2 p : Pos} {es : List Expr} {ps : List (Int × Int)} : LitPairs es ps → LitPairs (.List [.Constant (.int x) k p1, .Constant (.int y) k' p2] p :: es) ((x, y) :: ps)
theorem LitPairs.length {es : List Expr} {ps : List (Int × Int)} (h : LitPairs es ps) : es.length = ps.length := by
  induction h with
  | nil => rfl
  | cons _ ih => simp [ih]
inductive TabsAt (h : Heap) : List Value → List (List (Int × Int)) → Prop
  | nil : TabsAt h [] []
  | cons {a : Addr} {tvs : Array Value} {ps : List (Int × Int)} {vs : List Value} {pss : List (List (Int × Int))} (e : h.PlainList a tvs) (q : PairsAt h tvs.toList ps) : TabsAt h vs pss → TabsAt h (.ref a :: vs) (ps :: pss)
theorem TabsAt.kp {h h' : Heap} {vs : List Value} {pss : List (List (Int × Int))} (x : TabsAt h vs pss) (k : Kp h h') : TabsAt h' vs pss := by
  induction x with
  | nil => exact .nil
  | cons e q _ ih => exact .cons (PL.kp e k) (q.kp k) ih
def c4T : List (Int × Int) := (64976, 65007) :: (List.range 17).map fun (i : Nat) => (65536 * (1 + (i : Int)) - 2, 65536 * (1 + (i : Int)) - 1)
def b1T : List (Int × Int) := [(173, 173), (847, 847), (6150, 6150), (6155, 6157), (8203, 8205), (8288, 8288), (65024, 65039), (65279, 65279)]
def c8T : List (Int × Int) := [(832, 833), (8206, 8207), (8234, 8238), (8298, 8303)]
def allT : List (List (Int × Int)) := [b1T, c4T, [(65529, 65533)], [(12272, 12283)], c8T, [(917505, 917505), (917536, 917631)]]
section
variable {prog : Program} {w : World} {A : Around} {E : Value → Shared → Prop}
theorem lit_args {env : Env} {pos : Pos} {es : List Expr} {ps : List (Int × Int)} (hl : LitPairs es ps) : ∀ {s : Shared} {Q : List Value → Shared → Prop}, (∀ h' tk vs, Kp s.heap h' → PairsAt h' vs ps → Q vs { s with heap := h', toks := tk }) →
    wpAny (model prog w) A (spliced (backTo pos (starEach es env))) Q E s := by
  induction hl with
  | nil => intro s Q h; exact args_nil (h _ _ _ (fun _ _ e => e) .nil)
  | cons _ ih =>
    intro s Q h
    refine args_cons (List_ (args_cons (wpAny_Constant_int (args_cons (wpAny_Constant_int (args_nil (new_list (fun h₁ k₁ p₁ z₁ => ?_) (by simp [sizeLine_eq]))))))))
    refine ih fun h₂ tk₂ vs k₂ q₂ => ?_
    exact h h₂ tk₂ _ (Kp.tr k₁ k₂) (.cons (PL.kp p₁ k₂) q₂)
theorem lit_table {env : Env} {pos : Pos} {es : List Expr} {ps : List (Int × Int)} (hl : LitPairs es ps) {s : Shared} {Q : Value → Shared → Prop} (h : ∀ h' tk a tvs, Kp s.heap h' → h'.PlainList a tvs → PairsAt h' tvs.toList ps → Q (.ref a) { s with heap := h', toks := tk }) (hz : ps.length < 100) :
    wpAny (model prog w) A (eval (.List es pos) env) Q E s := by
  refine List_ (lit_args hl fun h₁ tk₁ vs k₁ q₁ => new_list (fun h₂ k₂ p₂ z₂ => ?_) ?_)
  · exact h h₂ tk₁ _ _ (Kp.tr k₁ k₂) p₂ (by simpa using q₁.kp k₂)
  · rw [q₁.length, sizeLine_eq]; omega
/-- what the loop of c4 has built -/
theorem built_c4 {N : Nat} {h : Heap} {q : Nat} : ∀ {n : Nat} {ys : List Value},
    Built (fun i v => i < q ∧ ∃ t, v = .int (1 + i) t) (fun _ _ => true) (fun i _ y h => ∃ e t u, y = .ref e ∧ h.PlainList e #[.int (65536 * (1 + (i : Int)) - 2) t, .int (65536 * (1 + (i : Int)) - 1) u] ∧ N < e) h n ys →
    PairsAt h ys ((List.range n).map fun (i : Nat) => (65536 * (1 + (i : Int)) - 2, 65536 * (1 + (i : Int)) - 1))
  | 0, ys, b => by rw [show ys = [] from b]; exact .nil
  | n + 1, ys, ⟨v, hv, b⟩ => by
    rcases b with ⟨q, b⟩ | ⟨q, ys', y, rfl, ⟨e, t, u, rfl, p, _⟩, b⟩
    · cases q
    · rw [List.range_succ, List.map_append]
      exact (built_c4 b).app (.cons p .nil)
end
section
variable {w : World} {A : Around} {E : Value → Shared → Prop} {s : Shared}
abbrev genv (L : Addr) (cd : Value) : Env := envOf "_law_ranges" (stS 15) L 117 cd
/-- c4 -/
theorem ranges_c4 {L : Addr} {cd : Value} {h₁ : Heap} {g : Array GenState} {d : Drawn} {tk : Nat} {os : OsState} {Q : Value → Shared → Prop} (B : Base w h₁) (hh : A.handled = none)
    (hQ : ∀ h' tk' a tvs, Kp h₁ h' → h'.PlainList a tvs → PairsAt h' tvs.toList c4T → Q (.ref a) ⟨h', g, d, tk', os⟩) :
    wpAny (model pg w) A (eval (asgE 15 1) (genv L cd)) Q E ⟨h₁, g, d, tk, os⟩ := by
  conv => enter [3, 1]; whnf
  refine wpAny_BinOp ?_
  refine lit_table (ps := [(64976, 65007)]) ?_ ?_ ?_
  case refine_3 => decide
  case refine_1 => exact .cons .nil
  intro h₄ tk₄ a₄ v₄ k₄ p₄ q₄
  dsimp only at k₄ ⊢
  have B₄ := B.keeps k₄
  refine eval_comp (comp1R (cl := []) hh (by kernel_rfl) (by kernel_rfl) (by decide +kernel) (by decide +kernel) (by kernel_rfl) (fun _ => rfl) ?_)
  refine Call_ (nm_built B₄ (by decide) bb_range ?_ rfl rfl (by kernel_rfl) (by kernel_rfl))
  refine PySem.Pv.callWith_type1 (args_cons (wpAny_Constant_int (args_cons (wpAny_Constant_int (args_nil (call_range_2 ?_))))))
  dsimp only
  have kr := kp_push h₄ { cls := .type "range", data := .fields #[.int 1 tk₄, .int 18 (tk₄ + 1), .int 1 (tk₄ + 1 + 1)] }
  have hr := IsRange.new h₄ 1 18 1 tk₄ (tk₄ + 1) (tk₄ + 1 + 1)
  generalize h₄.push { cls := .type "range", data := .fields #[.int 1 tk₄, .int 18 (tk₄ + 1), .int 1 (tk₄ + 1 + 1)] } = h₅ at kr hr ⊢
  refine ⟨_, 1, 17, _, _, _, fun _ _ => true, fun i _ y h => ∃ e t u, y = .ref e ∧ h.PlainList e #[.int (65536 * (1 + (i : Int)) - 2) t, .int (65536 * (1 + (i : Int)) - 1) u] ∧ h₅.objs.size + 1 + 1 < e, rfl, hr, by decide +kernel, by decide +kernel, ?fx, ?tst, ?elt, ?fin⟩
  case fx =>
    rintro i v y h h' ⟨e, t, u, rfl, ⟨n, p⟩, he⟩ k
    exact ⟨e, t, u, rfl, ⟨n, k _ _ (Nat.ne_of_gt (by omega)) (Nat.ne_of_gt (by omega)) (Nat.ne_of_gt (by omega)) p⟩, he⟩
  case tst => exact fun i t s' E' hi hb hk => wpAny_tests_nil ⟨rfl, _, _, rfl, fun _ _ e => e⟩
  case elt =>
    rintro i t s' E' hi - ⟨m, hn, hm⟩ hk
    refine List_ (args_cons (wpAny_BinOp (wpAny_BinOp (wpAny_Constant_int (ldK hn hm (mul_int (wpAny_Constant_int (sub_int (args_cons ?_)))) rfl (by kernel_rfl) (by kernel_rfl))))))
    refine wpAny_BinOp (wpAny_BinOp (wpAny_Constant_int (ldK hn hm (mul_int (wpAny_Constant_int (sub_int (args_nil ?_)))) rfl (by kernel_rfl) (by kernel_rfl))))
    refine new_list (fun h₆ k₆ p₆ z₆ => ?_) (by simp [sizeLine_eq])
    exact ⟨⟨_, _, _, rfl, p₆, hn.lt⟩, h₆, _, rfl, k₆⟩
  case fin =>
    intro h' tk' ys hn hk hpl hB
    refine post_none (s := ⟨h₅, g, d, tk, os⟩) hn fun h'' hs'' => ?_
    have k'' : Kp h₅ h'' := fun b o e => (hs''.2 b (nlt2 (Heap.lt_size e))).trans (hk b o e)
    have b1 := built_c4 hB
    have hyp := PL.same hpl hs'' (s21 _).symm
    have b2 : PairsAt h'' ys.toList ((List.range 17).map fun (i : Nat) => (65536 * (1 + (i : Int)) - 2, 65536 * (1 + (i : Int)) - 1)) := b1.kpL hn.choose_spec fun b o hb e => (hs''.2 b hb).trans e
    have l1 := b2.length
    have l2 := q₄.length
    simp at l1 l2
    refine cat_lists (PL.kp p₄ (Kp.tr kr k'')).isList hyp.isList (fun h₇ k₇ p₇ z₇ => ?_) (by rw [sizeLine_eq]; omega)
    refine hQ _ _ _ _ (Kp.tr k₄ (Kp.tr kr (Kp.tr k'' k₇))) p₇ ?_
    rw [Array.toList_append]
    exact (q₄.kp (Kp.tr kr (Kp.tr k'' k₇))).app (b2.kp k₇)
theorem ranges_ok {Q : Value → Shared → Prop} (B : Base w s.heap) (hr : A.depth < recursionLimit) (hh : A.handled = none)
    (hQ : ∀ h' tk a vs, Kp s.heap h' → s.heap.get? a = none → h'.PlainList a vs → TabsAt h' vs.toList allT → Q (.ref a) { s with heap := h', toks := tk }) :
    wpAny (model pg w) A (call (.ref 117) []) Q E s := by
  obtain ⟨cd, F⟩ := B.rg
  obtain ⟨o, pm, doc, hof, hd⟩ := F.at_
  obtain ⟨hp0, g, d, tk, os⟩ := s
  refine wpAny_call (call_plain_ret (binds := []) hr hof hd B.lim F.rec_ (by rfl) (locs (by kernel_rfl)) (fun h₁ F₁ => ?_) (by decide +kernel) (by decide +kernel) (by decide +kernel) (by decide +kernel))
  dsimp only at F₁ ⊢
  have hb1 : b1T.length < 100 := by decide
  have hA1 : (A.deeper (envOf "_law_ranges" (stS 15) hp0.objs.size 117 cd)).handled = none := hh
  generalize A.deeper (envOf "_law_ranges" (stS 15) hp0.objs.size 117 cd) = A' at hA1 ⊢
  conv => enter [3, 1]; whnf
  refine wpAny_execs_cons ?_
  refine wpAny_Assign_Name ?_ ?_
  case refine_2 => kernel_rfl
  refine lit_table (ps := b1T) ?_ ?_ ?_
  case refine_3 => exact hb1
  case refine_1 => repeat (first | exact .nil | refine .cons ?_)
  intro h₂ tk₂ a₂ v₂ k₂ p₂ q₂
  have F₂ := Fr.kp F₁ k₂
  refine stK F₂ (fun h₃ F₃ s₃ => ?_) (by kernel_rfl) (by kernel_rfl)
  dsimp only at s₃ ⊢
  have n₃ : KpL hp0.objs.size h₂ h₃ := fun b o hb e => (s₃.2 b hb).trans e
  have p₃ := PL.kpL p₂ F₂.ns n₃
  have q₃ := q₂.kpL F₂.ns n₃
  clear p₂ q₂ s₃ n₃
  refine wpAny_execs_cons ?_
  refine wpAny_Assign_Name ?_ ?_
  case refine_2 => kernel_rfl
  refine ranges_c4 (B.keeps F₃.keep) hA1 ?_
  intro h₄ tk₄ a₄ v₄ k₄ p₄ q₄
  have F₄ := Fr.kp F₃ k₄
  refine stK F₄ (fun h₅ F₅ s₅ => ?_) (by kernel_rfl) (by kernel_rfl)
  dsimp only at s₅ ⊢
  have n₅ : KpL hp0.objs.size h₄ h₅ := fun b o hb e => (s₅.2 b hb).trans e
  have p₃' := PL.kpL (PL.kp p₃ k₄) F₄.ns n₅
  have q₃' := (q₃.kp k₄).kpL F₄.ns n₅
  have p₅ := PL.kpL p₄ F₄.ns n₅
  have q₅ := q₄.kpL F₄.ns n₅
  refine wpAny_execs_cons ?_
  refine wpAny_Assign_Name ?_ ?_
  case refine_2 => kernel_rfl
  refine lit_table (ps := c8T) ?_ ?_ ?_
  case refine_3 => decide
  case refine_1 => repeat (first | exact .nil | refine .cons ?_)
  intro h₆ tk₆ a₆ v₆ k₆ p₆ q₆
  have F₆ := Fr.kp F₅ k₆
  refine stK F₆ (fun h₇ F₇ s₇ => ?_) (by kernel_rfl) (by kernel_rfl)
  dsimp only at s₇ ⊢
  have n₇ : KpL hp0.objs.size h₆ h₇ := fun b o hb e => (s₇.2 b hb).trans e
  have b1 := PL.kpL (PL.kp p₃' k₆) F₆.ns n₇
  have b1q := (q₃'.kp k₆).kpL F₆.ns n₇
  have c4 := PL.kpL (PL.kp p₅ k₆) F₆.ns n₇
  have c4q := (q₅.kp k₆).kpL F₆.ns n₇
  have c8 := PL.kpL p₆ F₆.ns n₇
  have c8q := q₆.kpL F₆.ns n₇
  refine wpAny_execs_cons ?_
  refine wpAny_Return_some ?_
  refine List_ ?_
  refine args_cons (ld F₇ (by rfl) ?_ (by kernel_rfl) (by kernel_rfl))
  refine args_cons (ld F₇ (by rfl) ?_ (by kernel_rfl) (by kernel_rfl))
  refine args_cons ?_
  refine lit_table (ps := [(65529, 65533)]) ?_ ?_ ?_
  case refine_3 => decide
  case refine_1 => exact .cons .nil
  intro h₈ tk₈ a₈ v₈ k₈ p₈ q₈
  refine args_cons ?_
  refine lit_table (ps := [(12272, 12283)]) ?_ ?_ ?_
  case refine_3 => decide
  case refine_1 => exact .cons .nil
  intro h₉ tk₉ a₉ v₉ k₉ p₉ q₉
  refine args_cons (ld (Fr.kp (Fr.kp F₇ k₈) k₉) (by rfl) ?_ (by kernel_rfl) (by kernel_rfl))
  refine args_cons ?_
  refine lit_table (ps := [(917505, 917505), (917536, 917631)]) ?_ ?_ ?_
  case refine_3 => decide
  case refine_1 => exact .cons (.cons .nil)
  intro h₁₀ tk₁₀ a₁₀ v₁₀ k₁₀ p₁₀ q₁₀
  refine args_nil ?_
  refine new_list (fun h₁₁ k₁₁ p₁₁ z₁₁ => ?_) (by simp [sizeLine_eq])
  have K10 := k₁₁
  have K9 := Kp.tr k₁₀ k₁₁
  have K8 := Kp.tr k₉ K9
  have K7 := Kp.tr k₈ K8
  refine hQ _ _ _ _ (Kp.tr F₇.keep K7) (none_ge ?_) p₁₁ ?_
  · have := (Fr.kp F₇ (Kp.tr k₈ (Kp.tr k₉ k₁₀)))
    exact Nat.le_of_lt (Nat.lt_of_le_of_lt this.above this.ns.lt)
  · exact .cons (PL.kp b1 K7) (b1q.kp K7) (.cons (PL.kp c4 K7) (c4q.kp K7) (.cons (PL.kp p₈ K8) (q₈.kp K8) (.cons (PL.kp p₉ K9) (q₉.kp K9) (.cons (PL.kp c8 K7) (c8q.kp K7) (.cons (PL.kp p₁₀ K10) (q₁₀.kp K10) .nil)))))
end
end Mine
end
section
open PySem PySem.W PySem.Calls PyProof.Rows PySem.SeqAt
set_option maxRecDepth 100000
set_option maxHeartbeats 400000
set_option linter.unusedVariables false
namespace Mine
def gsE (qs : List (Int × Int)) (i : Nat) : List Int := match qs[i]? with
  | some p => [p.1, p.2 + 1]
  | none => []
theorem gsE_len (qs : List (Int × Int)) (i : Nat) : (gsE qs i).length ≤ 2 := by unfold gsE; split <;> simp
def endsOf (qs : List (Int × Int)) : List Int := (List.range qs.length).flatMap (gsE qs)
def addOc (os : List Int) (n : Int) : Option (List Int) :=
  if n < 0 then none else match oc n.toNat with
    | some o => if os.length + o.length ≤ 1000 then some (os ++ o) else none
    | none => none
def inGo (es : List Int) : Nat → Nat → List Int → Option (List Int)
  | 0, _, os => some os
  | f + 1, k, os => match es[k]?, (0 :: es)[k]? with
    | some a, some b => match addOc os (a - b) with
      | some os' => inGo es f (k + 1) os'
      | none => none
    | _, _ => none
def pkTab (ps : List (Int × Int)) (os : List Int) : Option (List Int) := match addOc os (endsOf ps).length with
  | some os' => inGo (endsOf ps) (endsOf ps).length 0 os'
  | none => none
def pkGo : List (List (Int × Int)) → List Int → Option (List Int)
  | [], os => some os
  | ps :: r, os => match pkTab ps os with
    | some os' => pkGo r os'
    | none => none
theorem pk_all : (pkGo allT []).isSome = true := by decide +kernel
abbrev penv (L : Addr) (cd : Value) : Env := envOf "_law_packed" (stS 17) L 129 cd
def forB (s : Stmt) : List Stmt := match s with
  | .For _ _ b _ _ => b
  | _ => []
def inS (s : Stmt) (j : Nat) : Stmt := ((forB s)[j]?).getD (.Pass ⟨0, 0, 0, 0⟩)
theorem endsOf_len (qs : List (Int × Int)) : (endsOf qs).length ≤ 2 * qs.length := flat_le (gsE_len qs) _
theorem filt_all (l : List Int) : (l.filter fun _ => true) = l := by simp
section
variable {w : World} {A : Around} {E : Value → Shared → Prop}
theorem packed_ends {L ta : Addr} {cd : Value} {hp0 h₁ : Heap} {m : Str → Option Value} {g : Array GenState} {d : Drawn} {tk : Nat} {os : OsState} {tvs : Array Value} {ps : List (Int × Int)} {Q : Flow → Shared → Prop} (hh : A.handled = none)
    (F : Fr hp0 L h₁ m) (m1 : m "table" = some (.ref ta)) (ht : h₁.PlainList ta tvs) (htp : PairsAt h₁ tvs.toList ps) (hps : ps.length < 100)
    (hQ : ∀ h' tk' ea evs, Fr hp0 L h' (fun y => if y = "ends" then some (.ref ea) else m y) → KpL L h₁ h' → h₁.get? ea = none → h'.PlainList ea evs → IntsAre evs.toList (endsOf ps) → Q .next ⟨h', g, d, tk', os⟩) :
    wpAny (model pg w) A (exec (inS (stmtOf 17 1) 0) (penv L cd)) Q E ⟨h₁, g, d, tk, os⟩ := by
  have hlen : tvs.size = ps.length := by have := htp.length; rwa [Array.length_toList] at this
  conv => enter [3, 1]; whnf
  refine exec_comp (by kernel_rfl) (comp2 (cl := []) hh (by kernel_rfl) (by kernel_rfl) (by decide +kernel) (by decide +kernel) (by kernel_rfl) (by kernel_rfl) (fun _ => rfl) (fun _ _ => rfl)
    (fun i m => ∃ p t u, ps[i]? = some p ∧ m "first" = some (.int p.1 t) ∧ m "last" = some (.int p.2 u)) (gsE ps) (fun _ => true) (ld F m1 ⟨ta, tvs, rfl, ht.isList, ?sz, ?asg, ?it, ?tst, ?fin⟩ (by kernel_rfl) (by kernel_rfl)))
  case sz =>
    intro i hi
    have := flat_le (gsE_len ps) i
    have := gsE_len ps i
    rw [sizeLine_eq]; omega
  case asg =>
    rintro C I i v s' E' hC hv ⟨m', hn⟩ hk hit hIC
    obtain ⟨a, p, t, u, rfl, hp, hpl⟩ := htp.at_ (by simpa using hv)
    refine wpAny_bind (letGo_list hit ?_)
    refine assign_pair hh rfl hn (PL.kp hpl hk).isList (Nat.ne_of_lt (Nat.lt_of_lt_of_le (PL.lt hpl) hC)) (by kernel_rfl) (by kernel_rfl) (by kernel_rfl) fun h' tk' hk' ⟨m'', hn', e1, e2⟩ => ?_
    exact ⟨h', tk', rfl, ⟨m'', hn', p, t, u, hp, by rw [e1, if_neg (by decide)], e2⟩, hk'⟩
  case it =>
    rintro C i m' s' E' hC hi hn ⟨p, t, u, hp, e1, e2⟩ hk
    refine List_ (args_cons (ldK hn e1 (args_cons (wpAny_BinOp (ldK hn e2 (wpAny_Constant_int (add_int (args_nil ?_))) rfl (by kernel_rfl) (by kernel_rfl)))) rfl (by kernel_rfl) (by kernel_rfl)))
    refine new_list (fun h₂ k₂ p₂ z₂ => ?_) (by simp [sizeLine_eq])
    refine ⟨_, _, rfl, Nat.ne_of_gt hn.lt, p₂, ?_, none_size _, h₂, _, rfl, k₂⟩
    unfold gsE; rw [hp]
    exact .cons _ _ (.cons _ _ .nil)
  case tst =>
    intro C n t m' s' E' hn e
    exact wpAny_tests_nil ⟨rfl, _, _, rfl, fun _ _ e => e⟩
  case fin =>
    intro D C h' tk' ys hD hC hDC hn hk hpl hi
    dsimp only at hD hC hk
    have hL : L ≠ C := by rintro rfl; obtain ⟨o, es, ep, e, _⟩ := F.ns; rw [hC] at e; cases e
    refine post_store hn hL (F.ns.keeps hk) (by kernel_rfl) (by kernel_rfl) fun h'' n'' k'' => ?_
    have hDL : D ≠ L := by rintro rfl; obtain ⟨o, es, ep, e, _⟩ := F.ns; rw [hD] at e; cases e
    refine hQ _ _ D ys ⟨n'', fun b o e => k'' b o ?_ ?_ (hk _ _ (F.keep _ _ e)), F.above⟩ (fun b o hb e => k'' b o hb (by rintro rfl; rw [hC] at e; cases e) (hk _ _ e)) hD ?_ ?_
    · exact Nat.ne_of_lt (Nat.lt_of_lt_of_le (Heap.lt_size e) F.above)
    · rintro rfl; have := F.keep _ _ e; rw [hC] at this; cases this
    · obtain ⟨n, e⟩ := hpl
      exact ⟨n, k'' _ _ hDL hDC e⟩
    · simp only [filt_all, hlen] at hi
      exact hi
end
end Mine
end
section
open PySem PySem.W PySem.Calls PyProof.Rows PySem.SeqAt
set_option maxRecDepth 100000
set_option maxHeartbeats 400000
set_option linter.unusedVariables false
namespace Mine
theorem addOc_inv {os os' : List Int} {n : Int} (h : addOc os n = some os') : ∃ (k : Nat) (o : List Int), n = (k : Int) ∧ oc k = some o ∧ os' = os ++ o ∧ os.length + o.length ≤ 1000 := by
  unfold addOc at h
  split at h
  · cases h
  · rename_i hn
    split at h
    · rename_i o ho
      split at h
      · rename_i hl
        cases h
        exact ⟨n.toNat, o, (Int.toNat_of_nonneg (by omega)).symm, ho, rfl, hl⟩
      · cases h
    · cases h
section
variable {w : World} {A : Around} {E : Value → Shared → Prop}
/-- octets + _law_octets(n) -/
theorem packed_add {e : Expr} {L oa : Addr} {cd : Value} {hp0 h₁ : Heap} {m : Str → Option Value} {g : Array GenState} {d : Drawn} {tk : Nat} {os : OsState} {ovs : Array Value} {ns ns' : List Int} {n : Int} {p0 p1 p2 p3 : Pos} {Q : Value → Shared → Prop} (hr : A.depth < recursionLimit)
    (B : Base w hp0) (F : Fr hp0 L h₁ m) (m1 : m "octets" = some (.ref oa)) (ho : h₁.PlainList oa ovs) (hoi : IntsAre ovs.toList ns) (ha : addOc ns n = some ns')
    (hse : starEach [e] (penv L cd) = (false, eval e (penv L cd)) :: starEach [] (penv L cd))
    (he : ∀ (Q' : Value → Shared → Prop), (∀ h' tk' t, Kp h₁ h' → Q' (.int n t) ⟨h', g, d, tk', os⟩) → wpAny (model pg w) A (eval e (penv L cd)) Q' E ⟨h₁, g, d, tk, os⟩)
    (hQ : ∀ h' tk' a vs, Kp h₁ h' → h'.PlainList a vs → IntsAre vs.toList ns' → Q (.ref a) ⟨h', g, d, tk', os⟩) :
    wpAny (model pg w) A (eval (.BinOp (.Name "octets" p0) .Add (.Call (.Name "_law_octets" p1) [e] [] p2) p3) (penv L cd)) Q E ⟨h₁, g, d, tk, os⟩ := by
  obtain ⟨k, o, rfl, hoc, rfl, hl⟩ := addOc_inv ha
  have B₁ := B.keeps F.keep
  obtain ⟨cd', Fo⟩ := B.oc
  obtain ⟨ob, pm, doc, hof, hd⟩ := Fo.at_
  refine wpAny_BinOp (ld F m1 ?_ (by kernel_rfl) (by kernel_rfl))
  refine Call_ (nm_text (a := 124) B₁ (by decide) ?_ rfl (by kernel_rfl) (by kernel_rfl))
  refine callWith_def hd (args_cons ?_ hse) hse
  refine he _ fun h₂ tk₂ t k₂ => ?_
  refine args_nil ⟨k₂ _ _ (F.keep _ _ hof), ?_⟩
  refine oc_ok (s := ⟨h₂, g, d, tk₂, os⟩) (B₁.keeps k₂) hr hoc fun h₃ tk₃ a vs k₃ _ p₃ i₃ => ?_
  have z1 : ovs.size = ns.length := by have := hoi.length; rwa [Array.length_toList] at this
  have z2 : vs.size = o.length := by have := i₃.length; rwa [Array.length_toList] at this
  have k13 := Kp.tr k₂ k₃
  refine cat_lists (PL.kp ho k13).isList p₃.isList (fun h₄ k₄ p₄ _ => ?_) (by rw [sizeLine_eq]; omega)
  refine hQ _ _ _ _ (Kp.tr k13 k₄) p₄ ?_
  rw [Array.toList_append]
  exact IntsAre.app hoi i₃
end
end Mine
end
section
open PySem PySem.W PySem.Calls PyProof.Rows PySem.SeqAt
set_option maxRecDepth 100000
set_option maxHeartbeats 400000
set_option linter.unusedVariables false
namespace Mine
section
variable {w : World} {A : Around} {E : Value → Shared → Prop}
/-- for k in range(len(ends)): .. -/
theorem packed_inner {L oa ea : Addr} {cd : Value} {hp0 h₁ : Heap} {m : Str → Option Value} {g : Array GenState} {d : Drawn} {tk : Nat} {os : OsState} {ovs evs : Array Value} {ns ns' es : List Int} {Q : Flow → Shared → Prop} (hr : A.depth < recursionLimit) (hh : A.handled = none)
    (B : Base w hp0) (F : Fr hp0 L h₁ m) (m1 : m "octets" = some (.ref oa)) (ho : h₁.PlainList oa ovs) (hoi : IntsAre ovs.toList ns) (m2 : m "ends" = some (.ref ea)) (he : h₁.PlainList ea evs) (hei : IntsAre evs.toList es) (hes : es.length < 200)
    (hgo : inGo es es.length 0 ns = some ns')
    (hQ : ∀ h' tk' m' oa' ovs', Fr hp0 L h' m' → (∀ y : Str, y ≠ "octets" → y ≠ "k" → m' y = m y) → m' "octets" = some (.ref oa') → KpL L h₁ h' → h'.PlainList oa' ovs' → IntsAre ovs'.toList ns' → Q .next ⟨h', g, d, tk', os⟩) :
    wpAny (model pg w) A (exec (inS (stmtOf 17 1) 2) (penv L cd)) Q E ⟨h₁, g, d, tk, os⟩ := by
  have hlen : evs.size = es.length := by have := hei.length; rwa [Array.length_toList] at this
  have B₁ := B.keeps F.keep
  conv => enter [3, 1]; whnf
  refine wpAny_For ?_
  refine Call_ (nm_built B₁ (by decide) bb_range ?_ rfl rfl (by kernel_rfl) (by kernel_rfl))
  refine PySem.Pv.callWith_type1 (args_cons (Call_ (nm_built B₁ (by decide) bb_len ?_ rfl rfl (by kernel_rfl) (by kernel_rfl))))
  refine PyProof.Rows.callWith_builtin1 (args_cons (ld F m2 (args_nil (len_list he.isList (by omega) ?_)) (by kernel_rfl) (by kernel_rfl)))
  refine args_nil (call_range_1 ?_)
  dsimp only
  rw [hlen]
  have kr := kp_push h₁ { cls := .type "range", data := .fields #[.int 0 (tk + 1 + 1), .int (es.length : Int) (tk + 1), .int 1 (tk + 1 + 1 + 1)] }
  have hrg := IsRange.new h₁ 0 (es.length : Int) 1 (tk + 1 + 1) (tk + 1) (tk + 1 + 1 + 1)
  generalize h₁.push { cls := .type "range", data := .fields #[.int 0 (tk + 1 + 1), .int (es.length : Int) (tk + 1), .int 1 (tk + 1 + 1 + 1)] } = h₂ at kr hrg ⊢
  refine wpAny_pyIter_range hrg (small_one (by decide) (by decide) (by omega) (by omega)) ?_
  rw [rangeSize_nat]
  have e0 : (((es.length : Int) - 0).toNat : Int) = es.length := by omega
  rw [e0]
  dsimp only
  have kI := kp_push h₂ { cls := .type "range_iterator", data := .fields #[rawInt 0, rawInt (es.length : Int), rawInt 1] }
  have hI : IsRangeIter (h₂.push { cls := .type "range_iterator", data := .fields #[rawInt 0, rawInt (es.length : Int), rawInt 1] }) h₂.objs.size 0 es.length 1 := Heap.get?_push_size _ rfl
  generalize h₂.push { cls := .type "range_iterator", data := .fields #[rawInt 0, rawInt (es.length : Int), rawInt 1] } = h₃ at kI hI ⊢
  have hIn : h₁.get? h₂.objs.size = none := by
    cases e : h₁.get? h₂.objs.size with
    | none => rfl
    | some o => exact absurd (Heap.lt_size (kr _ _ e)) (Nat.lt_irrefl _)
  generalize h₂.objs.size = I at hI hIn ⊢
  have k13 := Kp.tr kr kI
  have hLI : L ≠ I := by rintro rfl; obtain ⟨o, es, ep, e, _⟩ := F.ns; rw [hIn] at e; cases e
  refine codeAny_forLoop (fun k s' => ∃ h' tk' i m' oa ovs ns, s' = (⟨h', g, d, tk', os⟩ : Shared) ∧ Fr hp0 L h' m' ∧ (∀ y : Str, y ≠ "octets" → y ≠ "k" → m' y = m y) ∧ m' "octets" = some (.ref oa) ∧ h'.PlainList oa ovs ∧ IntsAre ovs.toList ns ∧
      (∀ b o, b ≠ L → b ≠ I → h₁.get? b = some o → h'.get? b = some o) ∧ IsRangeIter h' I (i : Nat) ((es.length : Int) - (i : Nat)) 1 ∧ inGo es (es.length - i) i ns = some ns' ∧ i ≤ es.length ∧ k = es.length + 1 - i) ?_ (es.length + 1)
    ⟨h₃, _, 0, m, oa, ovs, ns, rfl, Fr.kp F k13, fun _ _ _ => rfl, m1, PL.kp ho k13, hoi, fun b o _ _ e => k13 _ _ e, by simpa using hI, by simpa using hgo, Nat.zero_le _, rfl⟩
  rintro k s' ⟨h', tk', i, m', oa', ovs', ns₁, rfl, F', hm', mo, po, io, hk', it', hg', hi, rfl⟩
  have hhn := F'.ns
  rcases Nat.lt_or_ge i es.length with hlt | hge
  · refine wpAny_pyNext_range_item it' (by omega) fun h₄ it₄ s₄ => ?_
    dsimp only at s₄ ⊢
    have F₄ : Fr hp0 L h₄ m' := ⟨F'.ns.sameBut s₄ hLI, fun b o e => (s₄.2 b (by rintro rfl; have := F.keep _ _ e; rw [hIn] at this; cases this)).trans (F'.keep b o e), F'.above⟩
    have hoI : oa' ≠ I := by rintro rfl; obtain ⟨n, e⟩ := po; rw [show h'.get? _ = some _ from it'] at e; simp at e
    have po₄ := PL.same po s₄ hoI
    refine wpAny_assign_Name ?_
    refine stK F₄ (fun h₅ F₅ s₅ => ?_) (by kernel_rfl) (by kernel_rfl)
    dsimp only at s₅ ⊢
    have po₅ := PL.same po₄ s₅ (ne_ns po₄ F₄.ns)
    have k15 : ∀ b o, b ≠ L → b ≠ I → h₁.get? b = some o → h₅.get? b = some o := fun b o hb hb' e => (s₅.2 b hb).trans ((s₄.2 b hb').trans (hk' b o hb hb' e))
    have he₅ : h₅.PlainList ea evs := let ⟨n, e⟩ := he; ⟨n, k15 _ _ (ne_ns he F.ns) (by rintro rfl; rw [hIn] at e; cases e) e⟩
    have it₅ : IsRangeIter h₅ I ((i + 1 : Nat) : Int) ((es.length : Int) - ((i + 1 : Nat) : Int)) 1 := by
      have e1 : ((i : Int) + 1) = ((i + 1 : Nat) : Int) := by omega
      have e2 : (es.length : Int) - (i : Int) - 1 = (es.length : Int) - ((i + 1 : Nat) : Int) := by omega
      rw [e1, e2] at it₄
      exact (s₅.2 I hLI.symm).trans it₄
    obtain ⟨a, ha⟩ : ∃ a, es[i]? = some a := ⟨_, List.getElem?_eq_getElem hlt⟩
    obtain ⟨b, hb⟩ : ∃ b, (0 :: es)[i]? = some b := ⟨_, List.getElem?_eq_getElem (by simp; omega)⟩
    have hf : es.length - i = (es.length - (i + 1)) + 1 := by omega
    rw [hf] at hg'
    unfold inGo at hg'
    rw [ha, hb] at hg'
    dsimp only at hg'
    cases hadd : addOc ns₁ (a - b) with
    | none => rw [hadd] at hg'; cases hg'
    | some ns₂ =>
    rw [hadd] at hg'
    dsimp only at hg'
    refine wpAny_execs_cons ?_
    refine wpAny_Assign_Name ?_ ?_
    case refine_2 => kernel_rfl
    refine packed_add (n := a - b) hr B F₅ (by rw [if_neg (by decide)]; exact mo) po₅ io hadd rfl ?he ?fin
    case he =>
      intro Q' hQ'
      obtain ⟨va, hva⟩ : ∃ v, evs[i]? = some v := ⟨_, Array.getElem?_eq_getElem (by omega)⟩
      obtain ⟨a', t', ha', rfl⟩ := ints_at hei (by simpa using hva)
      rw [ha] at ha'; cases ha'
      refine wpAny_BinOp (Subscript_ (ld F₅ (by rw [if_neg (by decide), hm' _ (by decide) (by decide)]; exact m2) (ld F₅ (by rfl) (item_list he₅.isList (by omega) (by omega) (by simpa using hva) ?_) (by kernel_rfl) (by kernel_rfl)) (by kernel_rfl) (by kernel_rfl)))
      refine Subscript_ (wpAny_BinOp (List_ (args_cons (wpAny_Constant_int (args_nil (new_list (fun h₆ k₆ p₆ z₆ => ?_) (by simp [sizeLine_eq])))))))
      dsimp only at k₆ p₆ ⊢
      have F₆ := Fr.kp F₅ k₆
      refine ld F₆ (by rw [if_neg (by decide), hm' _ (by decide) (by decide)]; exact m2) ?_ (by kernel_rfl) (by kernel_rfl)
      refine cat_lists p₆.isList (PL.kp he₅ k₆).isList (fun h₇ k₇ p₇ z₇ => ?_) (by simp [sizeLine_eq]; omega)
      dsimp only at k₇ p₇ ⊢
      refine ld (Fr.kp F₆ k₇) (by rfl) ?_ (by kernel_rfl) (by kernel_rfl)
      obtain ⟨vb, hvb, hvb'⟩ : ∃ v, (#[Value.int 0 (tk' + 1 + 1)] ++ evs)[i]? = some v ∧ ∃ t, v = .int b t := by
        have hc : IntsAre (Value.int 0 (tk' + 1 + 1) :: evs.toList) (0 :: es) := .cons _ _ hei
        obtain ⟨v0, hv⟩ : ∃ v, (Value.int 0 (tk' + 1 + 1) :: evs.toList)[i]? = some v := ⟨_, List.getElem?_eq_getElem (by simp; omega)⟩
        obtain ⟨n, t, hn, e⟩ := ints_at hc hv
        rw [hb] at hn; cases hn
        refine ⟨_, ?_, t, e⟩
        rw [← hv]
        rw [← Array.getElem?_toList]
        simp
      obtain ⟨t'', rfl⟩ := hvb'
      refine kba_turn (value' := .Name "_" ⟨0, 0, 0, 0⟩) (fun _ => rfl) ?_
      refine item_list p₇.isList (by omega) (by omega) (by simpa using hvb) ?_
      exact sub_int (hQ' _ _ _ (Kp.tr k₆ k₇))
    case fin =>
      intro h₆ tk₆ a₆ v₆ k₆ p₆ i₆
      have F₆ := Fr.kp F₅ k₆
      refine stK F₆ (fun h₇ F₇ s₇ => ?_) (by kernel_rfl) (by kernel_rfl)
      dsimp only at s₇ ⊢
      refine wpAny_execs_nil ?_
      refine ⟨es.length + 1 - (i + 1), by omega, h₇, _, i + 1, _, a₆, v₆, ns₂, rfl, F₇, fun y y1 y2 => ?_, by rw [if_pos rfl], PL.same p₆ s₇ (ne_ns p₆ F₆.ns), i₆, fun b o hb hb' e => (s₇.2 b hb).trans (k₆ _ _ (k15 b o hb hb' e)), (s₇.2 I hLI.symm).trans (k₆ _ _ it₅), hg', by omega, rfl⟩
      rw [if_neg y1, if_neg y2]
      exact hm' y y1 y2
  · have hin : i = es.length := by omega
    subst hin
    refine wpAny_pyNext_range_end hh it' (by omega) fun h₄ he₄ => ?_
    refine wpAny_execs_nil ?_
    have e : ns₁ = ns' := by rw [Nat.sub_self] at hg'; exact Option.some.inj hg'
    subst e
    have hoI : oa' ≠ I := by rintro rfl; obtain ⟨n, e⟩ := po; rw [show h'.get? _ = some _ from it'] at e; simp at e
    refine hQ h₄ _ m' oa' ovs' ⟨Ns.atX F'.ns fun o e => he₄ _ _ hLI e, fun b o e => he₄ b o (by rintro rfl; have := F.keep _ _ e; rw [hIn] at this; cases this) (F'.keep b o e), F'.above⟩ hm' mo (fun b o hb e => he₄ b o (by rintro rfl; rw [hIn] at e; cases e) (hk' b o hb (by rintro rfl; rw [hIn] at e; cases e) e)) (let ⟨n, e⟩ := po; ⟨n, he₄ _ _ hoI e⟩) io
end
end Mine
end
section
open PySem PySem.W PySem.Calls PyProof.Rows PySem.SeqAt
set_option maxRecDepth 100000
set_option maxHeartbeats 400000
set_option linter.unusedVariables false
namespace Mine
theorem TabsAt.length {h : Heap} {vs : List Value} {pss : List (List (Int × Int))} (x : TabsAt h vs pss) : vs.length = pss.length := by
  induction x with
  | nil => rfl
  | cons _ _ _ ih => simp [ih]
theorem TabsAt.at_ {h : Heap} {vs : List Value} {pss : List (List (Int × Int))} (x : TabsAt h vs pss) : ∀ {i : Nat} {v : Value}, vs[i]? = some v → ∃ a tvs ps, v = .ref a ∧ pss[i]? = some ps ∧ h.PlainList a tvs ∧ PairsAt h tvs.toList ps := by
  induction x with
  | nil => intro i v e; simp at e
  | cons e q _ ih => intro i v hv; cases i with
    | zero => simp at hv; subst hv; exact ⟨_, _, _, rfl, rfl, e, q⟩
    | succ i => simp at hv; simpa using ih hv
section
variable {w : World} {A : Around} {E : Value → Shared → Prop} {s : Shared}
theorem packed_ok {ra : Addr} {rvs : Array Value} {pss : List (List (Int × Int))} {out : List Int} {Q : Value → Shared → Prop} (B : Base w s.heap) (hr : A.depth + 1 < recursionLimit) (hh : A.handled = none)
    (hr1 : s.heap.PlainList ra rvs) (hr2 : TabsAt s.heap rvs.toList pss) (hps : ∀ ps ∈ pss, ps.length < 100) (hgo : pkGo pss [] = some out)
    (hQ : ∀ h' tk a vs, Kp s.heap h' → h'.PlainList a vs → IntsAre vs.toList out → Q (.ref a) { s with heap := h', toks := tk }) :
    wpAny (model pg w) A (call (.ref 129) [.ref ra]) Q E s := by
  obtain ⟨cd, F⟩ := B.pk
  obtain ⟨o, pm, doc, hof, hd⟩ := F.at_
  obtain ⟨hp0, g, d, tk, os⟩ := s
  refine wpAny_call (call_plain_ret (binds := [("ranges", .ref ra)]) (by omega) hof hd B.lim F.rec_ (by rfl) (locs (by kernel_rfl)) (fun h₁ F₁ => ?_) (by decide +kernel) (by decide +kernel) (by decide +kernel) (by decide +kernel))
  dsimp only at F₁ hr1 hr2 hQ B ⊢
  have hA1 : (A.deeper (envOf "_law_packed" (stS 17) hp0.objs.size 129 cd)).handled = none := hh
  have hA2 : (A.deeper (envOf "_law_packed" (stS 17) hp0.objs.size 129 cd)).depth < recursionLimit := by show A.depth + 1 < _; omega
  generalize A.deeper (envOf "_law_packed" (stS 17) hp0.objs.size 129 cd) = A' at hA1 hA2 ⊢
  conv => enter [3, 1]; whnf
  refine wpAny_execs_cons ?_
  refine wpAny_Assign_Name ?_ ?_
  case refine_2 => kernel_rfl
  refine List_ (args_nil (new_list (fun h₂ k₂ p₂ z₂ => ?_) (by simp)))
  dsimp only at k₂ p₂ ⊢
  have F₂ := Fr.kp F₁ k₂
  refine stK F₂ (fun h₃ F₃ s₃ => ?_) (by kernel_rfl) (by kernel_rfl)
  dsimp only at s₃ ⊢
  have p₃ := PL.same p₂ s₃ (ne_ns p₂ F₂.ns)
  refine wpAny_execs_cons ?_
  refine wpAny_For ?_
  refine ld F₃ (by rfl) ?_ (by kernel_rfl) (by kernel_rfl)
  refine wpAny_pyIter_list (PL.kp hr1 F₃.keep).isList ?_
  dsimp only
  have hlen : rvs.size = pss.length := by have := hr2.length; rwa [Array.length_toList] at this
  have kI := kp_push h₃ { cls := .type "list_iterator", data := .fields #[.ref ra, .int 0 0] }
  have hI : (h₃.push { cls := .type "list_iterator", data := .fields #[.ref ra, .int 0 0] }).IsListIter h₃.objs.size ra 0 := ⟨_, Heap.get?_push_size _ rfl, rfl, rfl⟩
  generalize h₃.push { cls := .type "list_iterator", data := .fields #[.ref ra, .int 0 0] } = h₄ at kI hI ⊢
  have hI0 : hp0.objs.size < h₃.objs.size := F₃.ns.lt
  generalize h₃.objs.size = I at hI hI0 ⊢
  have hLI : hp0.objs.size ≠ I := Nat.ne_of_lt hI0
  have hIn : hp0.get? I = none := none_ge (Nat.le_of_lt hI0)
  refine codeAny_forLoop (fun k s' => ∃ h' tk' i m' oa ovs ns, s' = (⟨h', g, d, tk', os⟩ : Shared) ∧ Fr hp0 hp0.objs.size h' m' ∧ m' "octets" = some (.ref oa) ∧ h'.PlainList oa ovs ∧ IntsAre ovs.toList ns ∧
      h'.IsListIter I ra i ∧ pkGo (pss.drop i) ns = some out ∧ i ≤ pss.length ∧ k = pss.length + 1 - i) ?_ (pss.length + 1)
    ⟨h₄, _, 0, _, _, _, [], rfl, Fr.kp F₃ kI, by rw [if_pos rfl], PL.kp p₃ kI, .nil, hI, hgo, Nat.zero_le _, rfl⟩
  rintro k s' ⟨h', tk', i, m', oa, ovs, ns, rfl, F', mo, po, io, it', hg', hi, rfl⟩
  have hoI : oa ≠ I := by rintro rfl; obtain ⟨n, e⟩ := po; obtain ⟨o', e', c', d'⟩ := it'; rw [e] at e'; cases e'; simp at c'
  rcases Nat.lt_or_ge i pss.length with hlt | hge
  · obtain ⟨v, hv⟩ : ∃ v, rvs[i]? = some v := ⟨_, Array.getElem?_eq_getElem (by omega)⟩
    obtain ⟨a, tvs, ps, rfl, hps', hpl, hpp⟩ := hr2.at_ (by simpa using hv)
    refine wpAny_pyNext_list_item it' (IsList.kp (PL.kp hr1 F'.keep).isList (fun _ _ e => e)) hv fun h₅ it₅ s₅ => ?_
    dsimp only at s₅ ⊢
    have F₅ : Fr hp0 hp0.objs.size h₅ m' := ⟨F'.ns.sameBut s₅ hLI, fun b o e => (s₅.2 b (by rintro rfl; rw [hIn] at e; cases e)).trans (F'.keep b o e), F'.above⟩
    have po₅ := PL.same po s₅ hoI
    refine wpAny_assign_Name ?_
    refine stK F₅ (fun h₆ F₆ s₆ => ?_) (by kernel_rfl) (by kernel_rfl)
    dsimp only at s₆ ⊢
    have po₆ := PL.same po₅ s₆ (ne_ns po₅ F₅.ns)
    have it₆ := IsListIter.same it₅ s₆ hLI.symm
    have hdr : pss.drop i = ps :: pss.drop (i + 1) := by
      have : pss[i]? = some pss[i] := List.getElem?_eq_getElem hlt
      rw [hps'] at this; cases this
      exact List.drop_eq_getElem_cons hlt
    rw [hdr] at hg'
    unfold pkGo at hg'
    cases htab : pkTab ps ns with
    | none => rw [htab] at hg'; cases hg'
    | some ns₁ =>
    rw [htab] at hg'
    dsimp only at hg'
    unfold pkTab at htab
    cases hadd : addOc ns (endsOf ps).length with
    | none => rw [hadd] at htab; cases htab
    | some ns₂ =>
    rw [hadd] at htab
    dsimp only at htab
    have hpl' := hps ps (List.mem_of_getElem? hps')
    have hel := endsOf_len ps
    refine wpAny_execs_cons ?_
    refine packed_ends hA1 F₆ (by rw [if_pos rfl]) (PL.kp hpl F₆.keep) (hpp.kp F₆.keep) hpl' fun h₇ tk₇ ea evs F₇ k₇ _ pe₇ ie₇ => ?_
    have po₇ := PL.kpL po₆ F₆.ns k₇
    have it₇ : h₇.IsListIter I ra (i + 1) := let ⟨o, e, r⟩ := it₆; ⟨o, k₇ _ _ hLI.symm e, r⟩
    dsimp only
    refine wpAny_execs_cons ?_
    refine wpAny_Assign_Name ?_ ?_
    case refine_2 => kernel_rfl
    refine packed_add hA2 B F₇ (by rw [if_neg (by decide), if_neg (by decide)]; exact mo) po₇ io hadd rfl ?he ?fin
    case he =>
      intro Q' hQ'
      have hel' : evs.size = (endsOf ps).length := by have := ie₇.length; rwa [Array.length_toList] at this
      refine Call_ (nm_built (B.keeps F₇.keep) (by decide) bb_len ?_ rfl rfl (by kernel_rfl) (by kernel_rfl))
      refine PyProof.Rows.callWith_builtin1 (args_cons (ld F₇ (by rfl) (args_nil (len_list pe₇.isList (by omega) ?_)) (by kernel_rfl) (by kernel_rfl)))
      rw [hel']
      exact hQ' _ _ _ fun _ _ e => e
    case fin =>
      intro h₈ tk₈ a₈ v₈ k₈ p₈ i₈
      have F₈ := Fr.kp F₇ k₈
      refine stK F₈ (fun h₉ F₉ s₉ => ?_) (by kernel_rfl) (by kernel_rfl)
      dsimp only at s₉ ⊢
      have po₉ := PL.same p₈ s₉ (ne_ns p₈ F₈.ns)
      have pe₈ := PL.kp pe₇ k₈
      have pe₉ := PL.same pe₈ s₉ (ne_ns pe₈ F₈.ns)
      have it₉ : h₉.IsListIter I ra (i + 1) := IsListIter.same (IsListIter.kp it₇ k₈) s₉ hLI.symm
      refine wpAny_execs_cons ?_
      refine packed_inner hA2 hA1 B F₉ (by rw [if_pos rfl]) po₉ i₈ (by rw [if_neg (by decide), if_pos rfl]) pe₉ ie₇ (by omega) htab fun h₁₀ tk₁₀ m₁₀ oa₁₀ ov₁₀ F₁₀ _ mo₁₀ k₁₀ p₁₀ i₁₀ => ?_
      dsimp only
      refine wpAny_execs_nil ?_
      exact ⟨pss.length + 1 - (i + 1), by omega, h₁₀, _, i + 1, m₁₀, oa₁₀, ov₁₀, ns₁, rfl, F₁₀, mo₁₀, p₁₀, i₁₀, let ⟨o, e, r⟩ := it₉; ⟨o, k₁₀ _ _ hLI.symm e, r⟩, hg', by omega, rfl⟩
  · have hin : i = pss.length := by omega
    subst hin
    refine wpAny_pyNext_list_end hA1 it' (IsList.kp (PL.kp hr1 F'.keep).isList (fun _ _ e => e)) (by simp; omega) fun h₅ he₅ => ?_
    refine wpAny_execs_nil ?_
    have e : ns = out := by rw [List.drop_length] at hg'; exact Option.some.inj hg'
    subst e
    have F₅ : Fr hp0 hp0.objs.size h₅ m' := ⟨Ns.atX F'.ns fun o e => he₅ _ _ hLI e, fun b o e => he₅ b o (by rintro rfl; rw [hIn] at e; cases e) (F'.keep b o e), F'.above⟩
    dsimp only
    refine wpAny_execs_cons ?_
    refine wpAny_Return_some ?_
    refine ld F₅ mo ?_ (by kernel_rfl) (by kernel_rfl)
    exact hQ _ _ _ _ F₅.keep (let ⟨n, e⟩ := po; ⟨n, he₅ _ _ hoI e⟩) io
end
end Mine
end
section
open PySem PySem.W PySem.Calls PyProof.Rows PySem.SeqAt
set_option maxRecDepth 100000
set_option maxHeartbeats 400000
set_option linter.unusedVariables false
namespace Mine
section
variable {w : World} {A : Around} {E : Value → Shared → Prop} {s : Shared}
/-- _parse_varint at the row's end: StopIteration -/
theorem pv_end {outer : List Env} {hb Bk : Heap} {it l : Addr} {i : Nat} {items : Array Value} {Q : Value → Shared → Prop}
    (B : Base w hb) (kb : Kp hb s.heap) (hr : A.depth < recursionLimit) (hh : A.handled = none) (hfr : A.frames = some outer)
    (hit : s.heap.IsListIter it l i) (hl : s.heap.IsList l items) (hne : l ≠ it) (hx : items[i]? = none) (hnew : hb.get? it = none)
    (st : Bk.StaysIn s.heap) (ff : s.heap.FunFrames Bk outer) (hnit : Bk.get? it = none)
    (hE : ∀ h' tk e a0, Heap.FlyingW Bk outer e (.type "StopIteration") a0 h' → s.heap.UpToSlots h' → E (.ref e) { s with heap := h', toks := tk }) :
    wpAny (model pg w) A (call (.ref 21) [.ref it]) Q E s := by
  obtain ⟨cd, F⟩ := B.pv
  have F := F.keeps kb
  obtain ⟨o, pm, doc, ho, hd⟩ := F.at_
  obtain ⟨hp0, g, d, tk, os⟩ := s
  dsimp only at *
  refine wpAny_call (call_plain (binds := [("iterator", .ref it)]) hr ho hd (B.lim.keeps kb) F.rec_ (by rfl) (locs (by kernel_rfl)) (fun h₁ F₁ => ?_) (by decide +kernel) (by decide +kernel) (by decide +kernel) (by decide +kernel))
  have hit₁ : h₁.IsListIter it l i := IsListIter.kp hit F₁.keep
  have hl₁ : h₁.IsList l items := IsList.kp hl F₁.keep
  have B₁ := B.keeps (Kp.tr kb F₁.keep)
  conv => enter [3, 1]; whnf
  refine wpAny_execs_cons (wpAny_Assign_Name (Call_ (nm_built B₁ (by decide) bb_next ?_ rfl rfl (by kernel_rfl) (by kernel_rfl))) (by kernel_rfl))
  refine PyProof.Rows.callWith_builtin1 (args_cons (ld F₁ (by rfl) (args_nil (next_end (by exact hh) hit₁ hl₁ hx fun h₂ h₃ e s₂ hxe => ?_)) (by kernel_rfl) (by kernel_rfl)))
  dsimp only at s₂ ⊢
  obtain ⟨ob, tp, he, hcls, hdd⟩ := hxe.there
  have fld : ∃ o vs, h₁.get? it = some o ∧ o.data = .fields vs := let ⟨o, e, _, d⟩ := hit₁; ⟨o, _, e, d⟩
  have nofld : ∀ b o, h₁.get? b = some o → (∀ vs, o.data ≠ .fields vs) → b ≠ it := by
    rintro b o e hn rfl
    obtain ⟨o', vs, e', d'⟩ := fld
    rw [e] at e'; cases e'
    exact hn vs d'
  have k₁₂ : ∀ b o, h₁.get? b = some o → (∀ vs, o.data ≠ .fields vs) → ∃ o', h₃.get? b = some o' ∧ o'.data = o.data := fun b o e hn =>
    ⟨o, hxe.keeps _ _ ((s₂.2 b (nofld b o e hn)).trans e), rfl⟩
  have st₁ : Bk.StaysIn h₁ := fun b o e => F₁.keep _ _ (st b o e)
  have st₃ : Bk.StaysIn h₃ := fun b o e => hxe.keeps _ _ ((s₂.2 b (by rintro rfl; rw [hnit] at e; cases e)).trans (st₁ b o e))
  have hLn : Bk.get? hp0.objs.size = none := st.fresh
  have ff₁ : h₁.FunFrames Bk outer := ff.of_keeps fun b o e _ => ⟨o, F₁.keep _ _ e, rfl⟩
  have hen : Bk.get? e = none := by
    cases hq : Bk.get? e with
    | none => rfl
    | some o' =>
      have := (s₂.2 e (by rintro rfl; rw [hnit] at hq; cases hq)).trans (st₁ _ _ hq)
      rw [hxe.new] at this; cases this
  refine wpAny_leaving_firstW (base := Bk) (a0 := tp) (Around.frames_deeper hfr) ?_ rfl he st₃ hen hdd rfl rfl fun h₄ hL => ?_
  · exact (Heap.FunFrames.cons (by rw [show Scope.kind _ = .function from by kernel_rfl]; simp) rfl F₁.ns hLn ff₁).of_keeps k₁₂
  obtain ⟨k1, ⟨_, _, k2⟩, k3, k4⟩ := hL
  refine hE h₄ _ e tp ⟨k1, hen, k2, by rw [← hcls]; exact k3⟩ ?_
  intro b o e hn
  exact k4 b o (hxe.keeps _ _ ((s₂.2 b (nofld b o (F₁.keep _ _ e) hn)).trans (F₁.keep _ _ e))) hn
end
end Mine
end
section
open PySem PySem.W PySem.Calls PyProof.Rows PySem.SeqAt
set_option maxRecDepth 100000
set_option maxHeartbeats 400000
set_option linter.unusedVariables false
namespace Mine
abbrev qenv (L : Addr) (cd : Value) : Env := envOf "_law_read" (stS 18) L 136 cd
theorem si_exc : isSubtype (.type "StopIteration") (.type "BaseException") = pure true := by rw [isSubtype_type]; kernel_rfl
theorem si_nt : isSubtype (.type ((Manifest.find? "StopIteration").elim "type" fun y => y.metatype)) (.type "tuple") = pure false := by
  rw [show ((Manifest.find? "StopIteration").elim "type" fun x => x.metatype) = "type" from by kernel_rfl, isSubtype_type]; kernel_rfl
theorem si_self : isSubtype (.type "StopIteration") (.type "StopIteration") = pure true := by rw [isSubtype_type]; kernel_rfl
section
variable {w : World} {A : Around} {E : Value → Shared → Prop} {s : Shared}
/-- except StopIteration: return tables -/
theorem read_caught {outer : List Env} {hb Bk : Heap} {L e : Addr} {cd a0 v : Value} {m : Str → Option Value} {p1 p2 p3 p4 : Pos} {Q : Flow → Shared → Prop}
    (B : Base w hb) (kb : Kp hb Bk) (hfr : A.frames = some (qenv L cd :: outer)) (hfl : Heap.FlyingW Bk (qenv L cd :: outer) e (.type "StopIteration") a0 s.heap)
    (hn : s.heap.Ns L m) (hm : m "tables" = some v)
    (hQ : ∀ h' tk, Bk.StaysIn h' → s.heap.UpToSlots h' → Q (.ret v) { s with heap := h', toks := tk }) :
    wpAny (model pg w) A (noteFrame (.ref e) (qenv L cd)) (fun _ s₂ => wpAny (model pg w) A (setFlight (.ref e) none) (fun _ s₃ =>
      wpAny (model pg w) A (handleBy (.ref e) (qenv L cd) [.ExceptHandler (some (.Name "StopIteration" p1)) none [.Return (some (.Name "tables" p2)) p3] p4]) Q E s₃) E s₂) E s := by
  obtain ⟨hp, g, d, tk, os⟩ := s
  dsimp only at *
  refine wpAny_looks_onW hfr rfl hfl fun h₄ hheld₄ hsm₄ => ?_
  refine wpAny_landsW hheld₄ fun h₅ hheld hsm₅' => ?_
  dsimp only at hsm₄ hsm₅' ⊢
  have hsm₅ := hsm₄.trans hsm₅'
  obtain ⟨ob, hob, hobc⟩ := hheld.there
  refine wpAny_handleBy_builtin (X := "StopIteration") (T := "StopIteration") (b := true) si_exc si_nt si_self ?_
  refine nm_built (B.keeps (Kp.tr kb hheld.1)) (by decide) bb_stop ?_ rfl rfl (by kernel_rfl) (by kernel_rfl)
  refine ⟨rfl, ⟨ob, hob, hobc⟩, ?_⟩
  rw [if_pos rfl]
  refine lands_againW hheld fun h₆ hfl₆ hsm₆ => ?_
  dsimp only at hsm₆ ⊢
  have n₆ := (hsm₅.trans hsm₆).ns hn
  refine wpAny_execs_cons (wpAny_Return_some (ldK n₆ hm ?_ rfl (by kernel_rfl) (by kernel_rfl)))
  exact hQ _ _ hfl₆.1 (hsm₅.trans hsm₆)
end
end Mine
end
section
open PySem PySem.W PySem.Calls PyProof.Rows PySem.SeqAt
set_option maxRecDepth 100000
set_option maxHeartbeats 400000
set_option linter.unusedVariables false
namespace Mine
def rdTab : Nat → List Int → List Int → Option (List Int × List Int)
  | 0, es, os => some (es, os)
  | k + 1, es, os => match es.getLast?, pv os with
    | some a, some (v, r) => rdTab k (es ++ [a + v]) r
    | _, _ => none
def rdGo : Nat → List (List Int) → List Int → Option (List (List Int))
  | 0, _, _ => none
  | f + 1, ts, os => match os with
    | [] => some ts
    | o :: os => match pv (o :: os) with
      | some (many, r) => if 0 ≤ many ∧ many ≤ 99 then (match rdTab many.toNat [0] r with
        | some (es, r') => rdGo f (ts ++ [es.drop 1]) r'
        | none => none) else none
      | none => none
theorem rd_all : (pkGo allT []).bind (fun os => rdGo 12 [] os) = some (allT.map endsOf) := by decide +kernel
theorem pvLoop_suffix : ∀ (r : List Int) {val b v : Int} {r' : List Int}, pvLoop val b r = some (v, r') → ∃ k, k ≤ r.length ∧ r' = r.drop k
  | [], val, b, v, r', h => by
    unfold pvLoop at h
    split at h
    · cases h
    · cases h; exact ⟨0, Nat.le_refl _, rfl⟩
  | b' :: r, val, b, v, r', h => by
    unfold pvLoop at h
    split at h
    · split at h
      · obtain ⟨k, hk, e⟩ := pvLoop_suffix r h
        exact ⟨k + 1, by simp; omega, e⟩
      · cases h
    · cases h; exact ⟨0, Nat.zero_le _, rfl⟩
theorem pv_suffix {l r : List Int} {v : Int} (h : pv l = some (v, r)) : ∃ k, k ≤ l.length ∧ r = l.drop k := by
  cases l with
  | nil => cases h
  | cons b l =>
    obtain ⟨k, hk, e⟩ := pvLoop_suffix l h
    exact ⟨k + 1, by simp; omega, e⟩
theorem pv_drop {octs r : List Int} {i : Nat} {v : Int} (hi : i ≤ octs.length) (h : pv (octs.drop i) = some (v, r)) : ∃ j, j ≤ octs.length ∧ r = octs.drop j := by
  obtain ⟨k, hk, e⟩ := pv_suffix h
  exact ⟨i + k, by simp at hk; omega, by rw [e, List.drop_drop]⟩
end Mine
end
section
open PySem PySem.W PySem.Calls PyProof.Rows PySem.SeqAt
set_option maxRecDepth 100000
set_option maxHeartbeats 400000
set_option linter.unusedVariables false
namespace Mine
def whB (s : Stmt) : List Stmt := match s with
  | .Try ((.While _ b _ _) :: _) _ _ _ _ => b
  | _ => []
def whS (j : Nat) : Stmt := ((whB (stmtOf 18 1))[j]?).getD (.Pass ⟨0, 0, 0, 0⟩)
theorem iter_ne_ns {h : Heap} {it l L : Addr} {i : Nat} {m : Str → Option Value} (x : h.IsListIter it l i) (n : h.Ns L m) : it ≠ L := by
  rintro rfl
  obtain ⟨o, e, _, d⟩ := x
  obtain ⟨o', es, ep, e', d', _⟩ := n
  rw [e] at e'; cases e'; rw [d] at d'; cases d'
theorem iter_ne_pl {h : Heap} {it l a : Addr} {i : Nat} {vs : Array Value} (x : h.IsListIter it l i) (p : h.PlainList a vs) : it ≠ a := by
  rintro rfl
  obtain ⟨o, e, c, d⟩ := x
  obtain ⟨n, e'⟩ := p
  rw [e] at e'; cases e'; cases d
section
variable {w : World} {A : Around} {E : Value → Shared → Prop}
/-- for k in range(min(many, 99)): ends.append(ends[-1] + _parse_varint(walker)) -/
theorem read_inner {L it l ea : Addr} {i j k : Nat} {t : Tok} {cd : Value} {hp0 h₁ : Heap} {m : Str → Option Value} {g : Array GenState} {d : Drawn} {tk : Nat} {os : OsState} {items evs : Array Value} {octs es out : List Int} {Q : Flow → Shared → Prop}
    (hr : A.depth < recursionLimit) (hh : A.handled = none) (B : Base w hp0) (F : Fr hp0 L h₁ m) (hn0 : hp0.get? it = none)
    (m1 : m "walker" = some (.ref it)) (m2 : m "ends" = some (.ref ea)) (m3 : m "many" = some (.int (k : Nat) t)) (hk : k ≤ 99)
    (hit : h₁.IsListIter it l i) (hl : hp0.IsList l items) (hi : IntsAre items.toList octs) (hle : i ≤ octs.length)
    (he : h₁.PlainList ea evs) (hei : IntsAre evs.toList es) (hea : hp0.get? ea = none) (hes : es.length + k ≤ 200)
    (hgo : rdTab k es (octs.drop i) = some (out, octs.drop j)) (hj : j ≤ octs.length)
    (hQ : ∀ h' tk' m' evs', Fr hp0 L h' m' → (∀ y : Str, y ≠ "k" → m' y = m y) → h'.IsListIter it l j → h'.PlainList ea evs' → IntsAre evs'.toList out → (∀ b o, b ≠ L → b ≠ it → b ≠ ea → h₁.get? b = some o → h'.get? b = some o) → Q .next ⟨h', g, d, tk', os⟩) :
    wpAny (model pg w) A (exec (whS 1) (qenv L cd)) Q E ⟨h₁, g, d, tk, os⟩ := by
  have B₁ := B.keeps F.keep
  have hlit : l ≠ it := by rintro rfl; obtain ⟨o, e, _⟩ := hl; rw [hn0] at e; cases e
  have hitL : it ≠ L := iter_ne_ns hit F.ns
  have heaL : ea ≠ L := ne_ns he F.ns
  have hitea : it ≠ ea := iter_ne_pl hit he
  conv => enter [3, 1]; whnf
  refine wpAny_For ?_
  refine Call_ (nm_built B₁ (by decide) bb_range ?_ rfl rfl (by kernel_rfl) (by kernel_rfl))
  refine PySem.Pv.callWith_type1 (args_cons (Call_ (nm_built B₁ (by decide) bb_min ?_ rfl rfl (by kernel_rfl) (by kernel_rfl))))
  refine PyProof.Rows.callWith_builtin1 (args_cons (ld F m3 (args_cons (wpAny_Constant_int (args_nil (min_two_ints hh fun h₀ tk₀ k₀ => ?_)))) (by kernel_rfl) (by kernel_rfl)))
  dsimp only at k₀ ⊢
  rw [if_neg (by omega : ¬ (99 : Int) < (k : Int))]
  refine args_nil (call_range_1 ?_)
  dsimp only
  have kr := kp_push h₀ { cls := .type "range", data := .fields #[.int 0 tk₀, .int (k : Int) t, .int 1 (tk₀ + 1)] }
  have hrg := IsRange.new h₀ 0 (k : Int) 1 tk₀ t (tk₀ + 1)
  generalize h₀.push { cls := .type "range", data := .fields #[.int 0 tk₀, .int (k : Int) t, .int 1 (tk₀ + 1)] } = h₂ at kr hrg ⊢
  refine wpAny_pyIter_range hrg (small_one (by decide) (by decide) (by omega) (by omega)) ?_
  rw [rangeSize_nat]
  have e0 : (((k : Int) - 0).toNat : Int) = k := by omega
  rw [e0]
  dsimp only
  have kI := kp_push h₂ { cls := .type "range_iterator", data := .fields #[rawInt 0, rawInt (k : Int), rawInt 1] }
  have hI : IsRangeIter (h₂.push { cls := .type "range_iterator", data := .fields #[rawInt 0, rawInt (k : Int), rawInt 1] }) h₂.objs.size 0 k 1 := Heap.get?_push_size _ rfl
  generalize h₂.push { cls := .type "range_iterator", data := .fields #[rawInt 0, rawInt (k : Int), rawInt 1] } = h₃ at kI hI ⊢
  have k12 := Kp.tr k₀ kr
  have hIn : h₁.get? h₂.objs.size = none := by
    cases e : h₁.get? h₂.objs.size with
    | none => rfl
    | some o => exact absurd (Heap.lt_size (k12 _ _ e)) (Nat.lt_irrefl _)
  generalize h₂.objs.size = I at hI hIn ⊢
  have k13 := Kp.tr k12 kI
  have hI0 : hp0.get? I = none := by
    cases e : hp0.get? I with
    | none => rfl
    | some o => have := F.keep _ _ e; rw [hIn] at this; cases this
  have hLI : L ≠ I := by rintro rfl; obtain ⟨o, es, ep, e, _⟩ := F.ns; rw [hIn] at e; cases e
  have hitI : it ≠ I := by rintro rfl; obtain ⟨o, e, _⟩ := hit; rw [hIn] at e; cases e
  have heaI : ea ≠ I := by rintro rfl; obtain ⟨n, e⟩ := he; rw [hIn] at e; cases e
  refine codeAny_forLoop (fun n s' => ∃ h' tk' i' m' evs' es' j', s' = (⟨h', g, d, tk', os⟩ : Shared) ∧ Fr hp0 L h' m' ∧ (∀ y : Str, y ≠ "k" → m' y = m y) ∧ h'.PlainList ea evs' ∧ IntsAre evs'.toList es' ∧ h'.IsListIter it l j' ∧ j' ≤ octs.length ∧
      (∀ b o, b ≠ L → b ≠ it → b ≠ ea → b ≠ I → h₁.get? b = some o → h'.get? b = some o) ∧ IsRangeIter h' I (i' : Nat) ((k : Int) - (i' : Nat)) 1 ∧ rdTab (k - i') es' (octs.drop j') = some (out, octs.drop j) ∧ es'.length + (k - i') ≤ 200 ∧ i' ≤ k ∧ n = k + 1 - i') ?_ (k + 1)
    ⟨h₃, _, 0, m, evs, es, i, rfl, Fr.kp F k13, fun _ _ => rfl, PL.kp he k13, hei, IsListIter.kp hit k13, hle, fun b o _ _ _ _ e => k13 _ _ e, by simpa using hI, by simpa using hgo, by omega, Nat.zero_le _, rfl⟩
  rintro n s' ⟨h', tk', i', m', evs', es', j', rfl, F', hm', pe, ie, it', hj', hk', ri, hg', hlen, hi', rfl⟩
  rcases Nat.lt_or_ge i' k with hlt | hge
  · refine wpAny_pyNext_range_item ri (by omega) fun h₄ ri₄ s₄ => ?_
    dsimp only at s₄ ⊢
    have F₄ : Fr hp0 L h₄ m' := Fr.new F' s₄ hI0 hLI
    have pe₄ := PL.same pe s₄ heaI
    have it₄ := IsListIter.same it' s₄ hitI
    refine wpAny_assign_Name ?_
    refine stK F₄ (fun h₅ F₅ s₅ => ?_) (by kernel_rfl) (by kernel_rfl)
    dsimp only at s₅ ⊢
    have pe₅ := PL.same pe₄ s₅ heaL
    have it₅ := IsListIter.same it₄ s₅ hitL
    have ri₅ : IsRangeIter h₅ I ((i' + 1 : Nat) : Int) ((k : Int) - ((i' + 1 : Nat) : Int)) 1 := by
      have e1 : ((i' : Int) + 1) = ((i' + 1 : Nat) : Int) := by omega
      have e2 : (k : Int) - (i' : Int) - 1 = (k : Int) - ((i' + 1 : Nat) : Int) := by omega
      rw [e1, e2] at ri₄
      exact (s₅.2 I hLI.symm).trans ri₄
    have k15 : ∀ b o, b ≠ L → b ≠ it → b ≠ ea → b ≠ I → h₁.get? b = some o → h₅.get? b = some o := fun b o q1 q2 q3 q4 e => (s₅.2 b q1).trans ((s₄.2 b q4).trans (hk' b o q1 q2 q3 q4 e))
    have hf : k - i' = (k - (i' + 1)) + 1 := by omega
    rw [hf] at hg'
    unfold rdTab at hg'
    cases hla : es'.getLast? with
    | none => rw [hla] at hg'; cases hg'
    | some a =>
    rw [hla] at hg'
    cases hpv : pv (octs.drop j') with
    | none => rw [hpv] at hg'; cases hg'
    | some vr =>
    obtain ⟨v, r⟩ := vr
    rw [hpv] at hg'
    dsimp only at hg'
    obtain ⟨j₂, hj₂, rfl⟩ := pv_drop hj' hpv
    obtain ⟨es₀, rfl⟩ : ∃ es₀, es' = es₀ ++ [a] := List.getLast?_eq_some_iff.mp hla
    have hsz : evs'.size = es₀.length + 1 := by have := ie.length; rw [Array.length_toList] at this; simpa using this
    simp only [List.length_append, List.length_cons, List.length_nil] at hlen
    refine wpAny_execs_cons (wpAny_Expr (wpAny_Call_append (by kernel_rfl) (by kernel_rfl) (by kernel_rfl) (by kernel_rfl) (ld F₅ (by rw [if_neg (by decide), hm' _ (by decide)]; exact m2) ?_ (by kernel_rfl) (by kernel_rfl))) (by kernel_rfl) (by kernel_rfl))
    refine ⟨ea, evs', rfl, PL.plainL pe₅, ?_⟩
    refine wpAny_BinOp (Subscript_ (ld F₅ (by rw [if_neg (by decide), hm' _ (by decide)]; exact m2) (UnaryOp_ (wpAny_Constant_int (neg_int ?_))) (by kernel_rfl) (by kernel_rfl)))
    obtain ⟨va, hva⟩ : ∃ v, evs'[es₀.length]? = some v := ⟨_, Array.getElem?_eq_getElem (by omega)⟩
    obtain ⟨a', t', ha', rfl⟩ := ints_at ie (by simpa using hva)
    have ea' : a' = a := by simpa using ha'.symm
    subst ea'
    refine subscriptTail_builtin pe₅.isList.typeIs slot_list_getitem.lookup (wpAny_getItem_list_neg pe₅.isList (by decide) (by omega) (by decide) (x := .int a' t') (by rw [show ((-1 : Int) + (evs'.size : Int)).toNat = es₀.length by omega]; exact hva) ?_) (by with_unfolding_all rfl) (by intro _; with_unfolding_all rfl)
    obtain ⟨cd', Fo⟩ := B.pv
    obtain ⟨ob, pm, doc, hof, hd⟩ := Fo.at_
    refine Call_ (nm_text (a := 21) (B.keeps F₅.keep) (by decide) ?_ rfl (by kernel_rfl) (by kernel_rfl))
    refine callWith_def hd (args_cons (ld F₅ (by rw [if_neg (by decide), hm' _ (by decide)]; exact m1) (args_nil ⟨F₅.keep _ _ hof, ?_⟩) (by kernel_rfl) (by kernel_rfl)))
    refine pv_ok (s := ⟨h₅, g, d, _, os⟩) (octs := octs) B F₅.keep hr it₅ (IsList.kp hl F₅.keep) hlit hi hn0 hj₂ hpv fun h₆ tk₆ t₆ it₆ k₆ => ?_
    dsimp only at k₆ ⊢
    have F₆ : Fr hp0 L h₆ _ := ⟨Ns.atX F₅.ns fun o e => k₆ _ _ hitL.symm e, fun b o e => k₆ b o (by rintro rfl; rw [hn0] at e; cases e) (F₅.keep b o e), F₅.above⟩
    have pe₆ : h₆.PlainList ea evs' := let ⟨n, e⟩ := pe₅; ⟨n, k₆ _ _ hitea.symm e⟩
    refine add_int ?_
    refine wpAny_list_append_plain pe₆ (fun h₇ p₇ s₇ => ?_) (by rw [sizeLine_eq]; omega)
    dsimp only at s₇ ⊢
    refine wpAny_execs_nil ?_
    refine ⟨k + 1 - (i' + 1), by omega, h₇, _, i' + 1, _, _, (es₀ ++ [a']) ++ [a' + v], j₂, rfl, Fr.new F₆ s₇ hea heaL.symm, fun y y1 => ?_, p₇, ?_, IsListIter.same it₆ s₇ hitea, hj₂, fun b o q1 q2 q3 q4 e => (s₇.2 b q3).trans (k₆ b o q2 (k15 b o q1 q2 q3 q4 e)), (s₇.2 I heaI.symm).trans (k₆ _ _ hitI.symm ri₅), hg', by simp; omega, by omega, rfl⟩
    · rw [if_neg y1]; exact hm' y y1
    · rw [Array.toList_push]; exact IntsAre.snoc ie _ _
  · have hin : i' = k := by omega
    subst hin
    refine wpAny_pyNext_range_end hh ri (by omega) fun h₄ he₄ => ?_
    refine wpAny_execs_nil ?_
    rw [Nat.sub_self] at hg'
    unfold rdTab at hg'
    have e := Option.some.inj hg'
    have e1 : es' = out := congrArg Prod.fst e
    have e2 : octs.drop j' = octs.drop j := congrArg Prod.snd e
    have e3 : j' = j := by have := congrArg List.length e2; simp at this; omega
    subst e1 e3
    refine hQ h₄ _ m' evs' ⟨Ns.atX F'.ns fun o e => he₄ _ _ hLI e, fun b o e => he₄ b o (by rintro rfl; rw [hI0] at e; cases e) (F'.keep b o e), F'.above⟩ hm' ?_ (let ⟨n, e⟩ := pe; ⟨n, he₄ _ _ heaI e⟩) ie fun b o q1 q2 q3 e => he₄ b o (by rintro rfl; rw [hIn] at e; cases e) (hk' b o q1 q2 q3 (by rintro rfl; rw [hIn] at e; cases e) e)
    exact let ⟨o, e, r⟩ := it'; ⟨o, he₄ _ _ hitI e, r⟩
end
end Mine
end
section
open PySem PySem.W PySem.Calls PyProof.Rows PySem.SeqAt
set_option maxRecDepth 100000
set_option maxHeartbeats 400000
set_option linter.unusedVariables false
namespace Mine
section
variable {prog : Program} {w : World} {A : Around} {E : Value → Shared → Prop} {s : Shared}
/-- x, y = e1, e2 in a def -/
theorem assign_two {env : Env} {x y : Str} {px py tpos vpos pos : Pos} {k k' : Nat} {e1 e2 : Expr} {C : Addr} {Q : Flow → Shared → Prop} (hh : A.handled = none) (hC : env.locals = C)
    (hs : swapsWithSole [.Tuple [.Name x px, .Name y py] k tpos] (.Tuple [e1, e2] k' vpos) pos.line env = pure false)
    (hw : swappedStores [.Tuple [.Name x px, .Name y py] k tpos] (.Tuple [e1, e2] k' vpos) env = pure (some [x, y]))
    (hx : env.kindOf x = some .local) (hy : env.kindOf y = some .local) (hp : (env.scope.kind == .class || (env.scope.kind == .module && env.locals != env.globals)) = false)
    (h : wpAny (model prog w) A (spliced (backTo vpos (starEach [e1, e2] env))) (fun vs s₁ => ∃ a b m, vs = [a, b] ∧ s₁.heap.Ns C m ∧
      ∀ h' tk, KpL C s₁.heap h' → h'.Ns C (fun z => if z = x then some a else if z = y then some b else m z) → Q .next { s₁ with heap := h', toks := tk }) E s) :
    wpAny (model prog w) A (exec (.Assign [.Tuple [.Name x px, .Name y py] k tpos] (.Tuple [e1, e2] k' vpos) pos) env) Q E s := by
  subst hC
  refine Assign_Tuple_swapped (names := [x, y]) (Tuple_ (wpAny_mono h (fun vs s₁ h₁ => ?_) fun _ _ e => e)) hs hw
  obtain ⟨a, b, m, rfl, hn, hQ⟩ := h₁
  refine wpAny_newTuple ?_ (by simp [sizeLine_eq])
  have hT : IsTup (s₁.heap.push { cls := .type "tuple", data := .seq [a, b].toArray }) s₁.heap.objs.size #[a, b] := ⟨_, Heap.get?_push_size _ rfl, rfl, 0, rfl⟩
  have n₂ := hn.push { cls := .type "tuple", data := .seq [a, b].toArray }
  refine unpackItems_tuple (items := #[a, b]) hh hT fun h₃ he₃ => ?_
  have k₂ := kp_push s₁.heap { cls := .type "tuple", data := .seq [a, b].toArray }
  dsimp only at he₃ ⊢
  generalize s₁.heap.push { cls := .type "tuple", data := .seq [a, b].toArray } = h₂ at *
  have k₃ : Kp h₂ h₃ := fun b o e => he₃ b o (Nat.ne_of_lt (Heap.lt_size e)) e
  show wpAny _ _ (assignInOrder [fun v => bindName env y v, fun v => bindName env x v] [b, a]) _ _ _
  unfold assignInOrder
  refine wpAny_bind (wpAny_holding (wpAny_bindName (wpAny_storeName_local hy (n₂.keeps k₃) (fun h₄ n₄ s₄ => ?_) hp)))
  unfold assignInOrder
  refine wpAny_bind (wpAny_holding (wpAny_bindName (wpAny_storeName_local hx n₄ (fun h₅ n₅ s₅ => ?_) hp)))
  unfold assignInOrder
  exact wpAny_pure (hQ h₅ _ (fun b o hb e => (s₅.2 b hb).trans ((s₄.2 b hb).trans (k₃ _ _ (k₂ _ _ e)))) n₅)
/-- iter(a list) -/
theorem iter_list {l : Addr} {items : Array Value} {Q : Value → Shared → Prop} (hl : s.heap.IsList l items)
    (hQ : ∀ h', Kp s.heap h' → h'.IsListIter s.heap.objs.size l 0 → Q (.ref s.heap.objs.size) { s with heap := h' }) :
    wpAny (model prog w) A (call (.builtin "iter") [.ref l]) Q E s := by
  refine call_function_entry (by decide +kernel) (by decide +kernel) kdk_entry_iter (kdk_args_iter _) ?_
  unfold Builtin.«iter»
  refine wpAny_bind (m := someArgs "iter" 1 2 _) (wpAny_of_eq (a := [Value.ref l]) (by first | rfl | kernel_rfl!) ?_)
  show wpAny _ _ (pyIter (.ref l) >>= _) _ _ _
  refine wpAny_bind (wpAny_pyIter_list hl ?_)
  exact wpAny_pure ⟨_, rfl, hQ _ (kp_push _ _) ⟨_, Heap.get?_push_size _ rfl, rfl, rfl⟩⟩
end
/-- a list's rows of ints, none of them at N -/
inductive IntsTabs (h : Heap) (N : Addr) : List Value → List (List Int) → Prop
  | nil : IntsTabs h N [] []
  | cons {a : Addr} {evs : Array Value} {es : List Int} {vs : List Value} {ess : List (List Int)} (e : h.PlainList a evs) (q : IntsAre evs.toList es) (n : a ≠ N) : IntsTabs h N vs ess → IntsTabs h N (.ref a :: vs) (es :: ess)
theorem IntsTabs.length {h : Heap} {N : Addr} {vs : List Value} {ess : List (List Int)} (x : IntsTabs h N vs ess) : vs.length = ess.length := by
  induction x with
  | nil => rfl
  | cons _ _ _ _ ih => simp [ih]
theorem IntsTabs.of {h h' : Heap} {N : Addr} {vs : List Value} {ess : List (List Int)} (x : IntsTabs h N vs ess) (k : ∀ a its, a ≠ N → h.PlainList a its → h'.PlainList a its) : IntsTabs h' N vs ess := by
  induction x with
  | nil => exact .nil
  | cons e q n _ ih => exact .cons (k _ _ n e) q n ih
theorem IntsTabs.kp {h h' : Heap} {N : Addr} {vs : List Value} {ess : List (List Int)} (x : IntsTabs h N vs ess) (k : Kp h h') : IntsTabs h' N vs ess := x.of fun _ _ _ p => PL.kp p k
theorem IntsTabs.snoc {h : Heap} {N a : Addr} {vs : List Value} {ess : List (List Int)} {evs : Array Value} {es : List Int} (x : IntsTabs h N vs ess) (e : h.PlainList a evs) (q : IntsAre evs.toList es) (n : a ≠ N) : IntsTabs h N (vs ++ [.ref a]) (ess ++ [es]) := by
  induction x with
  | nil => exact .cons e q n .nil
  | cons e' q' n' _ ih => exact .cons e' q' n' ih
theorem IntsTabs.at_ {h : Heap} {N : Addr} {vs : List Value} {ess : List (List Int)} (x : IntsTabs h N vs ess) : ∀ {i : Nat} {v : Value}, vs[i]? = some v → ∃ a evs es, v = .ref a ∧ ess[i]? = some es ∧ h.PlainList a evs ∧ IntsAre evs.toList es := by
  induction x with
  | nil => intro i v e; simp at e
  | cons e q _ _ ih => intro i v hv; cases i with
    | zero => simp at hv; subst hv; exact ⟨_, _, _, rfl, rfl, e, q⟩
    | succ i => simp at hv; simpa using ih hv
/-- a frame after a change to it alone -/
theorem Fr.own {h₀ h h' : Heap} {L : Addr} {m m' : Str → Option Value} (F : Fr h₀ L h m) (k : KpL L h h') (n : h'.Ns L m') : Fr h₀ L h' m' :=
  ⟨n, fun b o e => k b o (by rintro rfl; exact absurd (Heap.lt_size e) (Nat.not_lt.mpr F.above)) (F.keep b o e), F.above⟩
end Mine
end
section
open PySem PySem.W PySem.Calls PyProof.Rows PySem.SeqAt
set_option maxRecDepth 100000
set_option maxHeartbeats 400000
set_option linter.unusedVariables false
namespace Mine
theorem rdTab_len : ∀ {k : Nat} {es os out r : List Int}, rdTab k es os = some (out, r) → out.length = es.length + k
  | 0, es, os, out, r, h => by unfold rdTab at h; cases h; rfl
  | k + 1, es, os, out, r, h => by
    unfold rdTab at h
    split at h
    · have := rdTab_len h
      simp at this
      omega
    · cases h
section
variable {w : World} {A : Around} {E : Value → Shared → Prop}
/-- what a turn of the while keeps -/
abbrev KpT (L it ta : Addr) (h h' : Heap) : Prop := ∀ b o, b ≠ L → b ≠ it → b ≠ ta → h.get? b = some o → h'.get? b = some o
/-- a turn's body, a table is read -/
theorem read_turn {L it l ta : Addr} {i j k : Nat} {cd : Value} {hp0 h₁ : Heap} {m : Str → Option Value} {g : Array GenState} {d : Drawn} {tk : Nat} {os : OsState} {items tvs : Array Value} {octs out : List Int} {ts : List (List Int)} {j₁ : Nat} {Q : Flow → Shared → Prop}
    (hr : A.depth < recursionLimit) (hh : A.handled = none) (B : Base w hp0) (F : Fr hp0 L h₁ m) (hn0 : hp0.get? it = none)
    (m1 : m "walker" = some (.ref it)) (m2 : m "tables" = some (.ref ta)) (ht : h₁.PlainList ta tvs) (htt : IntsTabs h₁ ta tvs.toList ts) (hta : hp0.get? ta = none) (hts : ts.length < 99)
    (hit : h₁.IsListIter it l i) (hl : hp0.IsList l items) (hi : IntsAre items.toList octs) (hle : i ≤ octs.length)
    (hpv : pv (octs.drop i) = some ((k : Int), octs.drop j₁)) (hj₁ : j₁ ≤ octs.length) (hk : k ≤ 99) (hgo : rdTab k [0] (octs.drop j₁) = some (out, octs.drop j)) (hj : j ≤ octs.length)
    (hQ : ∀ h' tk' m' tvs', Fr hp0 L h' m' → m' "walker" = some (.ref it) → m' "tables" = some (.ref ta) → h'.PlainList ta tvs' → IntsTabs h' ta tvs'.toList (ts ++ [out.drop 1]) → h'.IsListIter it l j → Q .next ⟨h', g, d, tk', os⟩) :
    wpAny (model pg w) A (execs (whB (stmtOf 18 1)) (qenv L cd)) Q E ⟨h₁, g, d, tk, os⟩ := by
  have hlit : l ≠ it := by rintro rfl; obtain ⟨o, e, _⟩ := hl; rw [hn0] at e; cases e
  have hitL : it ≠ L := iter_ne_ns hit F.ns
  have htaL : ta ≠ L := ne_ns ht F.ns
  have hitta : it ≠ ta := iter_ne_pl hit ht
  show wpAny _ _ (execs [whS 0, whS 1, whS 2] (qenv L cd)) _ _ _
  refine wpAny_execs_cons ?_
  conv => enter [3, 1]; whnf
  refine assign_two hh rfl (by kernel_rfl) (by kernel_rfl) (by kernel_rfl) (by kernel_rfl) (by kernel_rfl) ?_
  obtain ⟨cd', Fo⟩ := B.pv
  obtain ⟨ob, pm, doc, hof, hd⟩ := Fo.at_
  refine args_cons (Call_ (nm_text (a := 21) (B.keeps F.keep) (by decide) ?_ rfl (by kernel_rfl) (by kernel_rfl)))
  refine callWith_def hd (args_cons (ld F m1 (args_nil ⟨F.keep _ _ hof, ?_⟩) (by kernel_rfl) (by kernel_rfl)))
  refine pv_ok (s := ⟨h₁, g, d, _, os⟩) (octs := octs) B F.keep hr hit (IsList.kp hl F.keep) hlit hi hn0 hj₁ hpv fun h₂ tk₂ t₂ it₂ k₂ => ?_
  dsimp only at k₂ ⊢
  have F₂ : Fr hp0 L h₂ _ := ⟨Ns.atX F.ns fun o e => k₂ _ _ hitL.symm e, fun b o e => k₂ b o (by rintro rfl; rw [hn0] at e; cases e) (F.keep b o e), F.above⟩
  have pt₂ : h₂.PlainList ta tvs := let ⟨n, e⟩ := ht; ⟨n, k₂ _ _ hitta.symm e⟩
  have tt₂ : IntsTabs h₂ ta tvs.toList ts := htt.of fun a its _ p => let ⟨n, e⟩ := p; ⟨n, k₂ _ _ (iter_ne_pl hit p).symm e⟩
  refine args_cons (List_ (args_cons (wpAny_Constant_int (args_nil (new_list (fun h₃ k₃ p₃ z₃ => ?_) (by simp [sizeLine_eq]))))))
  refine args_nil ⟨_, _, _, rfl, (Fr.kp F₂ k₃).ns, fun h₄ tk₄ k₄ n₄ => ?_⟩
  dsimp only at k₃ p₃ z₃ k₄ n₄ ⊢
  have F₃ := Fr.kp F₂ k₃
  have F₄ := Fr.own F₃ k₄ n₄
  have hea0 : hp0.get? h₂.objs.size = none := none_ge (Nat.le_of_lt (Nat.lt_of_le_of_lt F₂.above F₂.ns.lt))
  have hea2 : h₂.get? h₂.objs.size = none := none_size _
  have eata : h₂.objs.size ≠ ta := Nat.ne_of_gt (PL.lt pt₂)
  generalize h₂.objs.size = ea at *
  have pe₄ := PL.kpL p₃ F₃.ns k₄
  have pt₄ := PL.kpL (PL.kp pt₂ k₃) F₃.ns k₄
  have tt₄ : IntsTabs h₄ ta tvs.toList ts := (tt₂.kp k₃).of fun a its _ p => PL.kpL p F₃.ns k₄
  have it₄ : h₄.IsListIter it l j₁ := let ⟨o, e, r⟩ := IsListIter.kp it₂ k₃; ⟨o, k₄ _ _ hitL e, r⟩
  refine wpAny_execs_cons ?_
  refine read_inner hr hh B F₄ hn0 (by rw [if_neg (by decide), if_neg (by decide)]; exact m1) (by rw [if_neg (by decide), if_pos rfl]) (by rw [if_pos rfl]) hk it₄ hl hi hj₁ pe₄ ?hei hea0 ?hes hgo hj fun h₅ tk₅ m₅ evs₅ F₅ hm₅ it₅ pe₅ ie₅ k₅ => ?_
  case hei => exact .cons _ _ .nil
  case hes => simp; omega
  have w₅ : m₅ "walker" = some (.ref it) := by rw [hm₅ _ (by decide), if_neg (by decide), if_neg (by decide)]; exact m1
  have t₅ : m₅ "tables" = some (.ref ta) := by rw [hm₅ _ (by decide), if_neg (by decide), if_neg (by decide)]; exact m2
  have e₅ : m₅ "ends" = some (.ref ea) := by rw [hm₅ _ (by decide), if_neg (by decide), if_pos rfl]
  have pt₅ : h₅.PlainList ta tvs := let ⟨n, e⟩ := pt₄; ⟨n, k₅ _ _ htaL hitta.symm eata.symm e⟩
  have tt₅ : IntsTabs h₅ ta tvs.toList ts := tt₂.of fun a its na p => let ⟨n, e⟩ := p; ⟨n, k₅ _ _ (ne_ns p F₂.ns) (iter_ne_pl it₂ p).symm (by rintro rfl; rw [hea2] at e; cases e) (k₄ _ _ (ne_ns p F₂.ns) (k₃ _ _ e))⟩
  have tl : tvs.size = ts.length := by have := tt₅.length; rwa [Array.length_toList] at this
  refine wpAny_execs_cons ?_
  conv => enter [3, 1]; whnf
  refine wpAny_Expr (wpAny_Call_append (by kernel_rfl) (by kernel_rfl) (by kernel_rfl) (by kernel_rfl) (ld F₅ t₅ ?_ (by kernel_rfl) (by kernel_rfl))) (by kernel_rfl) (by kernel_rfl)
  refine ⟨ta, tvs, rfl, PL.plainL pt₅, ?_⟩
  refine Subscript_ (ld F₅ e₅ (wpAny_Slice ?_) (by kernel_rfl) (by kernel_rfl))
  rw [evalPart_some, evalPart_none]
  refine wpAny_Constant_int (wpAny_pure (wpAny_pure ?_))
  have el : evs₅.size ≤ 1000 := by
    have := ie₅.length
    rw [Array.length_toList] at this
    have := rdTab_len hgo
    simp at this
    omega
  refine tail_slice (s := (⟨h₅, g, d, _, os⟩ : Shared)) pe₅.isList (.int _ _) .none .none (by decide) (fun h₆ k₆ p₆ z₆ => ?_) (by with_unfolding_all rfl) (by intro _; with_unfolding_all rfl) (by rw [sizeLine_eq]; omega)
  dsimp only at k₆ p₆ z₆ ⊢
  have F₆ := Fr.kp F₅ k₆
  have e6 : h₅.objs.size + 1 ≠ ta := Nat.ne_of_gt (Nat.lt_succ_of_lt (PL.lt pt₅))
  have hn6 : hp0.get? (h₅.objs.size + 1) = none := none_ge (Nat.le_succ_of_le (Nat.le_of_lt (Nat.lt_of_le_of_lt F₅.above F₅.ns.lt)))
  generalize h₅.objs.size + 1 = na at *
  refine wpAny_list_append_plain (PL.kp pt₅ k₆) (fun h₇ p₇ s₇ => ?_) (by rw [sizeLine_eq]; omega)
  dsimp only at s₇ ⊢
  refine wpAny_execs_nil ?_
  refine hQ h₇ _ m₅ _ (Fr.new F₆ s₇ hta htaL.symm) w₅ t₅ p₇ ?_ (IsListIter.same (IsListIter.kp it₅ k₆) s₇ hitta)
  rw [Array.toList_push]
  refine IntsTabs.snoc (tt₅.of fun a its n p => PL.same (PL.kp p k₆) s₇ n) (PL.same p₆ s₇ e6) ?_ e6
  have := kmk_from (x := 1) ie₅ (by decide)
  simpa using this
end
end Mine
end
section
open PySem PySem.W PySem.Calls PyProof.Rows PySem.SeqAt
set_option maxRecDepth 100000
set_option maxHeartbeats 400000
set_option linter.unusedVariables false
namespace Mine
theorem rdTab_drop : ∀ {k i : Nat} {octs es out r : List Int}, i ≤ octs.length → rdTab k es (octs.drop i) = some (out, r) → ∃ j, j ≤ octs.length ∧ r = octs.drop j
  | 0, i, octs, es, out, r, hi, h => by unfold rdTab at h; cases h; exact ⟨i, hi, rfl⟩
  | k + 1, i, octs, es, out, r, hi, h => by
    unfold rdTab at h
    split at h
    · rename_i hpv
      obtain ⟨j, hj, rfl⟩ := pv_drop hi hpv
      exact rdTab_drop hj h
    · cases h
theorem ints_none_arr {vs : Array Value} {ns : List Int} (h : IntsAre vs.toList ns) {i : Nat} (hi : ns.length ≤ i) : vs[i]? = none := by
  have := h.length
  rw [Array.length_toList] at this
  exact Array.getElem?_eq_none (by omega)
theorem hide3 {h : Heap} {a b c x : Addr} {o : Obj} (e : h.get? x = some o) (h1 : x ≠ a) (h2 : x ≠ b) (h3 : x ≠ c) : (hideAll h [a, b, c]).get? x = some o :=
  hideAll_get _ e (by simp [h1, h2, h3])
section
variable {w : World} {A : Around} {E : Value → Shared → Prop} {s : Shared}
theorem read_ok {Lw : Addr} {lenv : Env} {mw : Str → Option Value} {hb : Heap} {oa : Addr} {ovs : Array Value} {octs : List Int} {tbs : List (List Int)} {Q : Value → Shared → Prop}
    (B : Base w hb) (kb : Kp hb s.heap) (hbw : hb.get? Lw = none) (hr : A.depth + 1 < recursionLimit) (hh : A.handled = none) (hA : A.frames = some [lenv]) (hLf : lenv.frame = some Lw) (hLk : lenv.scope.kind ≠ .module) (hLn : s.heap.Ns Lw mw)
    (ho : s.heap.PlainList oa ovs) (hoi : IntsAre ovs.toList octs) (hgo : rdGo 12 [] octs = some tbs)
    (hQ : ∀ h' tk a vs, KpL Lw s.heap h' → s.heap.UpToSlots h' → h'.PlainList a vs → IntsTabs h' a vs.toList tbs → Q (.ref a) { s with heap := h', toks := tk }) :
    wpAny (model pg w) A (call (.ref 136) [.ref oa]) Q E s := by
  have Bs := B.keeps kb
  obtain ⟨cd, F⟩ := Bs.rd
  obtain ⟨o, pm, doc, hof, hd⟩ := F.at_
  obtain ⟨hp0, g, d, tk, os⟩ := s
  dsimp only at *
  refine wpAny_call (call_plain_ret (binds := [("octets", .ref oa)]) (by omega) hof hd Bs.lim F.rec_ (by rfl) (locs (by kernel_rfl)) (fun h₁ F₁ => ?_) (by decide +kernel) (by decide +kernel) (by decide +kernel) (by decide +kernel))
  dsimp only at F₁ ⊢
  have hA1 : (A.deeper (envOf "_law_read" (stS 18) hp0.objs.size 136 cd)).handled = none := hh
  have hA2 : (A.deeper (envOf "_law_read" (stS 18) hp0.objs.size 136 cd)).depth < recursionLimit := by show A.depth + 1 < _; omega
  have hA3 : (A.deeper (envOf "_law_read" (stS 18) hp0.objs.size 136 cd)).frames = some (qenv hp0.objs.size cd :: [lenv]) := Around.frames_deeper hA
  generalize A.deeper (envOf "_law_read" (stS 18) hp0.objs.size 136 cd) = A' at hA1 hA2 hA3 ⊢
  have hL0 : hp0.get? hp0.objs.size = none := none_size _
  have hLwL : Lw ≠ hp0.objs.size := Nat.ne_of_lt hLn.lt
  generalize hp0.objs.size = L at *
  conv => enter [3, 1]; whnf
  refine wpAny_execs_cons ?_
  refine assign_two hA1 rfl (by kernel_rfl) (by kernel_rfl) (by kernel_rfl) (by kernel_rfl) (by kernel_rfl) ?_
  refine args_cons (Call_ (nm_built (Bs.keeps F₁.keep) (by decide) bb_iter ?_ rfl rfl (by kernel_rfl) (by kernel_rfl)))
  refine PyProof.Rows.callWith_builtin1 (args_cons (ld F₁ (by rfl) (args_nil (iter_list (PL.kp ho F₁.keep).isList fun h₂ k₂ it₂ => ?_)) (by kernel_rfl) (by kernel_rfl)))
  have hit1 : h₁.get? h₁.objs.size = none := none_size _
  have hit0 : hp0.get? h₁.objs.size = none := none_ge (Nat.le_of_lt (Nat.lt_of_le_of_lt F₁.above F₁.ns.lt))
  dsimp only at k₂ it₂ ⊢
  generalize h₁.objs.size = it at *
  have F₂ := Fr.kp F₁ k₂
  refine args_cons (List_ (args_nil (new_list (fun h₃ k₃ p₃ z₃ => ?_) (by simp))))
  refine args_nil ⟨_, _, _, rfl, (Fr.kp F₂ k₃).ns, fun h₄ tk₄ k₄ n₄ => ?_⟩
  dsimp only at k₃ p₃ z₃ k₄ n₄ ⊢
  have F₃ := Fr.kp F₂ k₃
  have F₄ := Fr.own F₃ k₄ n₄
  have hta0 : hp0.get? h₂.objs.size = none := none_ge (Nat.le_of_lt (Nat.lt_of_le_of_lt F₂.above F₂.ns.lt))
  generalize h₂.objs.size = ta at *
  have pt₄ := PL.kpL p₃ F₃.ns k₄
  have it₄ : h₄.IsListIter it oa 0 := let ⟨o, e, r⟩ := IsListIter.kp it₂ k₃; ⟨o, k₄ _ _ (iter_ne_ns it₂ F₂.ns) e, r⟩
  have hl0 : hp0.IsList oa ovs := ho.isList
  have hlit : oa ≠ it := by rintro rfl; obtain ⟨n, e⟩ := ho; rw [hit0] at e; cases e
  refine wpAny_execs_cons ?_
  refine wpAny_Try_except ?_
  refine wpAny_execs_cons ?_
  refine wpAny_While ?_
  refine codeAny_whileLoop (fun n s' => ∃ h' tk' m' tvs ts j, s' = (⟨h', g, d, tk', os⟩ : Shared) ∧ Fr hp0 L h' m' ∧ m' "walker" = some (.ref it) ∧ m' "tables" = some (.ref ta) ∧ h'.PlainList ta tvs ∧ IntsTabs h' ta tvs.toList ts ∧ h'.IsListIter it oa j ∧ j ≤ octs.length ∧
    rdGo n ts (octs.drop j) = some tbs ∧ ts.length + n ≤ 12) ?_ 12
    ⟨h₄, _, _, _, [], 0, rfl, F₄, by rw [if_pos rfl], by rw [if_neg (by decide), if_pos rfl], pt₄, .nil, it₄, Nat.zero_le _, hgo, by simp⟩
  rintro n s' ⟨h', tk', m', tvs, ts, j, rfl, F', m1, m2, pt, tt, it', hj, hg', hlen⟩
  have tl : tvs.size = ts.length := by have := tt.length; rwa [Array.length_toList] at this
  refine wpAny_isTrue_Compare1 (Call_ (nm_built (Bs.keeps F'.keep) (by decide) bb_len ?_ rfl rfl (by kernel_rfl) (by kernel_rfl)))
  refine PyProof.Rows.callWith_builtin1 (args_cons (ld F' m2 (args_nil (len_list pt.isList (by omega) ?_)) (by kernel_rfl) (by kernel_rfl)))
  refine wpAny_Constant_int (lt_int (wpAny_truthy_bool ?_))
  dsimp only
  rw [decide_eq_true (by omega : (tvs.size : Int) < 99), if_pos rfl]
  cases n with
  | zero => unfold rdGo at hg'; cases hg'
  | succ n =>
  unfold rdGo at hg'
  cases hdr : octs.drop j with
  | cons o1 os1 =>
    rw [hdr] at hg'
    dsimp only at hg'
    rw [← hdr] at hg'
    cases hpv : pv (octs.drop j) with
    | none => rw [hpv] at hg'; cases hg'
    | some mr =>
    obtain ⟨many, r⟩ := mr
    rw [hpv] at hg'
    dsimp only at hg'
    split at hg'
    case isFalse => cases hg'
    rename_i hmany
    obtain ⟨k, rfl⟩ : ∃ k : Nat, many = (k : Int) := ⟨many.toNat, (Int.toNat_of_nonneg hmany.1).symm⟩
    rw [Int.toNat_natCast] at hg'
    obtain ⟨j₁, hj₁, rfl⟩ := pv_drop hj hpv
    cases htab : rdTab k [0] (octs.drop j₁) with
    | none => rw [htab] at hg'; cases hg'
    | some er =>
    obtain ⟨es, r'⟩ := er
    rw [htab] at hg'
    dsimp only at hg'
    obtain ⟨j₂, hj₂, rfl⟩ := rdTab_drop hj₁ htab
    refine read_turn hA2 hA1 Bs F' hit0 m1 m2 pt tt hta0 (by omega) it' hl0 hoi hj hpv hj₁ (by omega) htab hj₂ fun h₅ tk₅ m₅ tvs₅ F₅ w₅ t₅ p₅ i₅ it₅ => ?_
    exact ⟨n, Nat.lt_succ_self _, h₅, _, m₅, tvs₅, _, j₂, rfl, F₅, w₅, t₅, p₅, i₅, it₅, hj₂, hg', by simp; omega⟩
  | nil =>
    rw [hdr] at hg'
    dsimp only at hg'
    have e := Option.some.inj hg'
    subst e
    have hjl : j = octs.length := by
      have := congrArg List.length hdr
      simp at this
      omega
    have hLn' : h'.Ns Lw mw := hLn.keeps F'.keep
    have hitL : it ≠ L := iter_ne_ns it' F'.ns
    have htaL : ta ≠ L := ne_ns pt F'.ns
    have htaLw : ta ≠ Lw := ne_ns pt hLn'
    have hitta : it ≠ ta := iter_ne_pl it' pt
    have hBk1 : (hideAll h' [it, L, Lw]).StaysIn h' := fun b o e => of_hideAll _ e
    have hBk2 : (hideAll h' [it, L, Lw]).get? it = none := hideAll_none _ (.head _)
    have hBk3 : (hideAll h' [it, L, Lw]).get? L = none := hideAll_none _ (.tail _ (.head _))
    have hBk4 : (hideAll h' [it, L, Lw]).get? Lw = none := hideAll_none _ (.tail _ (.tail _ (.head _)))
    have kbk : Kp hb (hideAll h' [it, L, Lw]) := fun b o e => hide3 (F'.keep _ _ (kb _ _ e)) (by rintro rfl; have := kb _ _ e; rw [hit0] at this; cases this) (by rintro rfl; have := kb _ _ e; rw [hL0] at this; cases this) (by rintro rfl; rw [hbw] at e; cases e)
    have k0k : KpL Lw hp0 (hideAll h' [it, L, Lw]) := fun b o hb' e => hide3 (F'.keep _ _ e) (by rintro rfl; rw [hit0] at e; cases e) (by rintro rfl; rw [hL0] at e; cases e) hb'
    have ptk : (hideAll h' [it, L, Lw]).PlainList ta tvs := let ⟨n, e⟩ := pt; ⟨n, hide3 e hitta.symm htaL htaLw⟩
    have ttk : IntsTabs (hideAll h' [it, L, Lw]) ta tvs.toList ts := tt.of fun a its _ p => let ⟨n, e⟩ := p; ⟨n, hide3 e (iter_ne_pl it' p).symm (ne_ns p F'.ns) (ne_ns p hLn')⟩
    generalize hideAll h' [it, L, Lw] = Bk at *
    have ff : h'.FunFrames Bk (qenv L cd :: [lenv]) := Heap.FunFrames.cons (by rw [show Scope.kind _ = .function from by kernel_rfl]; simp) rfl F'.ns hBk3 (Heap.FunFrames.cons hLk hLf hLn' hBk4 trivial)
    show wpAny _ _ (execs [whS 0, whS 1, whS 2] (qenv L cd)) _ _ _
    refine wpAny_execs_cons ?_
    conv => enter [3, 1]; whnf
    refine assign_two hA1 rfl (by kernel_rfl) (by kernel_rfl) (by kernel_rfl) (by kernel_rfl) (by kernel_rfl) ?_
    obtain ⟨cd', Fo⟩ := Bs.pv
    obtain ⟨ob, pm', doc', hof', hd'⟩ := Fo.at_
    refine args_cons (Call_ (nm_text (a := 21) (Bs.keeps F'.keep) (by decide) ?_ rfl (by kernel_rfl) (by kernel_rfl)))
    refine callWith_def hd' (args_cons (ld F' m1 (args_nil ⟨F'.keep _ _ hof', ?_⟩) (by kernel_rfl) (by kernel_rfl)))
    refine pv_end (Bk := Bk) Bs F'.keep hA2 hA1 hA3 it' (IsList.kp hl0 F'.keep) hlit (ints_none_arr hoi (by omega)) hit0 hBk1 ff hBk2 fun h₅ tk₅ e a0 hfl hsm => ?_
    dsimp only at hsm ⊢
    refine PassesOwn.looking _ _ ?_
    refine read_caught B kbk hA3 hfl (hsm.ns F'.ns) m2 fun h₆ tk₆ st₆ sm₆ => ?_
    dsimp only at sm₆ ⊢
    refine hQ h₆ _ ta tvs (fun b o hb' e => st₆ _ _ (k0k b o hb' e)) ((Heap.UpToSlots.of_keeps F'.keep).trans (hsm.trans sm₆)) (PL.kp ptk st₆) (ttk.kp st₆)
end
end Mine
end
section
open PySem PySem.W PySem.Calls PyProof.Rows PySem.SeqAt
set_option maxRecDepth 100000
set_option maxHeartbeats 400000
set_option linter.unusedVariables false
namespace Mine
abbrev wenv (L a : Addr) (cd : Value) : Env := envOfC "law" (stS 20) L a cd
theorem pl_ne_cell {h : Heap} {a c : Addr} {vs : Array Value} {v : Option Value} (p : h.PlainList a vs) (x : h.IsCell c v) : a ≠ c := by
  rintro rfl
  obtain ⟨n, e⟩ := p
  obtain ⟨o, e', d⟩ := x
  rw [e] at e'; cases e'; cases d
section
variable {M : Model} {A : Around} {E : Value → Shared → Prop} {s : Shared} {name : Str} {scope : Scope} {L a : Addr} {cd : Value} {h₀ : Heap} {m cm : Str → Option Value}
/-- a store into a cell; all else stays -/
theorem stCs {x : Str} {c : Addr} {v : Value} {Q : Unit → Shared → Prop} (F : Fr h₀ L s.heap m) (X : Cl L (cellsFrom (L + 1) scope.names []) s.heap cm) (hc : (cellsFrom (L + 1) scope.names []).lookup x = some c)
    (h : ∀ h', Fr h₀ L h' m → Cl L (cellsFrom (L + 1) scope.names []) h' (fun y => if y = x then some v else cm y) → (∀ b its, s.heap.PlainList b its → h'.PlainList b its) → Q () { s with heap := h' })
    (hk : scope.kind = .function) (hl : (envOfC name scope L a cd).kindOf x = some .cell) :
    wpAny M A (storeName (envOfC name scope L a cd) x v) Q E s := by
  have hLc : L < c := X.above x c (mem_of_lookup hc)
  refine wpAny_storeName_cell hk hl hc (X.cell x c hc) fun h' hv hs => h h' ⟨F.ns.sameBut hs (Nat.ne_of_lt hLc), fun b o e => (hs.2 b (Nat.ne_of_lt (Nat.lt_trans (Nat.lt_of_lt_of_le (Heap.lt_size e) F.above) hLc))).trans (F.keep b o e), F.above⟩
    ⟨fun n c' e => ?_, X.apart, X.above⟩ fun b its p => PL.same p hs (pl_ne_cell p (X.cell x c hc))
  by_cases hn : n = x
  · subst hn; rw [hc] at e; cases e; simpa using hv
  · have hcc : c' ≠ c := fun q => hn (name_of_addr X.apart (mem_of_lookup e) (q ▸ mem_of_lookup hc))
    simpa [hn] using (X.cell n c' e).sameBut hs hcc
end
theorem PairsAt.of {h h' : Heap} {vs : List Value} {ps : List (Int × Int)} (x : PairsAt h vs ps) (k : ∀ b its, h.PlainList b its → h'.PlainList b its) : PairsAt h' vs ps := by
  induction x with
  | nil => exact .nil
  | cons e _ ih => exact .cons (k _ _ e) ih
theorem TabsAt.of {h h' : Heap} {vs : List Value} {pss : List (List (Int × Int))} (x : TabsAt h vs pss) (k : ∀ b its, h.PlainList b its → h'.PlainList b its) : TabsAt h' vs pss := by
  induction x with
  | nil => exact .nil
  | cons e q _ ih => exact .cons (k _ _ e) (q.of k) ih
def gsD (ns : List Int) (i : Nat) : List Int := match ns[i]? with
  | some n => [n % 55296, 57344 + n / 55296 % 1056768]
  | none => []
theorem gsD_len (ns : List Int) (i : Nat) : (gsD ns i).length ≤ 2 := by unfold gsD; split <;> simp
def drawnOf (ns : List Int) : List Int := (List.range (ns.take 4).length).flatMap (gsD (ns.take 4))
theorem drawnOf_len (ns : List Int) : (drawnOf ns).length ≤ 8 := by
  have := flat_le (gsD_len (ns.take 4)) (ns.take 4).length
  have h4 : (ns.take 4).length ≤ 4 := by simp; omega
  unfold drawnOf; omega
theorem drawnOf_mem {ns : List Int} : ∀ c ∈ drawnOf ns, 0 ≤ c ∧ c < 1114112 := by
  intro c hc
  unfold drawnOf at hc
  obtain ⟨i, _, hi⟩ := List.mem_flatMap.mp hc
  unfold gsD at hi
  split at hi
  · simp at hi
    rcases hi with rfl | rfl <;> omega
  · cases hi
section
variable {w : World} {A : Around} {E : Value → Shared → Prop}
/-- drawn -/
theorem law_drawn {L a sa : Addr} {cd : Value} {hp0 h₁ : Heap} {m cm : Str → Option Value} {g : Array GenState} {d : Drawn} {tk : Nat} {os : OsState} {svs : Array Value} {ns : List Int} {Q : Value → Shared → Prop} (hh : A.handled = none)
    (F : Fr hp0 L h₁ m) (m1 : m "script" = some (.ref sa)) (hs : h₁.IsList sa svs) (hsi : IntsAre svs.toList ns) (hsz : svs.size ≤ sizeLine)
    (hQ : ∀ h' tk' da dvs, Kp h₁ h' → h'.PlainList da dvs → IntsAre dvs.toList (drawnOf ns) → Q (.ref da) ⟨h', g, d, tk', os⟩) :
    wpAny (model pg w) A (eval (asgE 20 1) (wenv L a cd)) Q E ⟨h₁, g, d, tk, os⟩ := by
  conv => enter [3, 1]; whnf
  refine eval_comp (comp2 (cl := []) hh (by kernel_rfl) (by kernel_rfl) (by decide +kernel) (by decide +kernel) (by kernel_rfl) (by kernel_rfl) (fun _ => rfl) (fun _ _ => rfl)
    (fun i m => ∃ n t, (ns.take 4)[i]? = some n ∧ m "x" = some (.int n t)) (gsD (ns.take 4)) (fun _ => true) (Subscript_ (ldLoc F m1 (wpAny_Slice ?_) (by kernel_rfl) (by kernel_rfl))))
  rw [evalPart_none, evalPart_some]
  refine wpAny_pure (wpAny_Constant_int (wpAny_pure ?_))
  refine tail_slice (s := (⟨h₁, g, d, _, os⟩ : Shared)) hs .none (.int _ _) .none (by decide) (fun h₂ k₂ p₂ z₂ => ?_) (by with_unfolding_all rfl) (by intro _; with_unfolding_all rfl) hsz
  dsimp only at k₂ p₂ z₂ ⊢
  have i₂ : IntsAre (slicePick svs none (some 4) none).toList (ns.take 4) := by
    have := kmk_upto (y := 4) hsi (by decide)
    simpa using this
  generalize slicePick svs none (some 4) none = vs4 at *
  have hlen : vs4.size = (ns.take 4).length := by have := i₂.length; rwa [Array.length_toList] at this
  have h4 : (ns.take 4).length ≤ 4 := by simp; omega
  unfold drawnOf at hQ
  generalize ns.take 4 = ms at *
  refine ⟨_, vs4, rfl, p₂.isList, ?sz, ?asg, ?it, ?tst, ?fin⟩
  case sz =>
    intro i hi
    have := flat_le (gsD_len ms) i
    have := gsD_len ms i
    rw [sizeLine_eq]; omega
  case asg =>
    rintro C I i v s' E' hC hv ⟨m', hn⟩ hk hit hIC
    obtain ⟨n, t, hn', rfl⟩ := ints_at i₂ (by simpa using hv)
    rw [letGo_name]
    refine wpAny_bind (wpAny_pure (wpAny_assign_Name (wpAny_storeName_local (by kernel_rfl) hn (fun h' hn'' hs' => ?_) (by kernel_rfl))))
    exact ⟨h', _, rfl, ⟨_, hn'', n, t, hn', if_pos rfl⟩, fun b o hb e => (hs'.2 b hb).trans e⟩
  case it =>
    rintro C i m' s' E' hC hi hn ⟨n, t, hn', e1⟩ hk
    refine List_ (args_cons (wpAny_BinOp (ldK hn e1 (wpAny_Constant_int (mod_int (by decide) (args_cons ?_))) rfl (by kernel_rfl) (by kernel_rfl))))
    refine wpAny_BinOp (wpAny_Constant_int (wpAny_BinOp (wpAny_BinOp (ldK hn e1 (wpAny_Constant_int (floordiv_int (by decide) (wpAny_Constant_int (mod_int (by decide) (add_int (args_nil ?_)))))) rfl (by kernel_rfl) (by kernel_rfl)))))
    refine new_list (fun h₃ k₃ p₃ z₃ => ?_) (by simp [sizeLine_eq])
    refine ⟨_, _, rfl, Nat.ne_of_gt hn.lt, p₃, ?_, none_size _, h₃, _, rfl, k₃⟩
    unfold gsD; rw [hn']
    rw [Int.fmod_eq_emod_of_nonneg _ (by decide), Int.fdiv_eq_ediv_of_nonneg _ (by decide), Int.fmod_eq_emod_of_nonneg _ (by decide)]
    exact .cons _ _ (.cons _ _ .nil)
  case tst =>
    intro C n t m' s' E' hn e
    exact wpAny_tests_nil ⟨rfl, _, _, rfl, fun _ _ e => e⟩
  case fin =>
    intro D C h' tk' ys hD hC hDC hn hk hpl hi
    refine post_none (s := ⟨h₂, g, d, tk, os⟩) hn fun h'' hs'' => ?_
    have k'' : Kp h₂ h'' := fun b o e => (hs''.2 b (by rintro rfl; rw [hC] at e; cases e)).trans (hk b o e)
    refine hQ _ _ _ ys (Kp.tr k₂ k'') (PL.same hpl hs'' hDC) ?_
    simp only [filt_all, hlen] at hi
    exact hi
end
end Mine
end
section
open PySem PySem.W PySem.Calls PyProof.Rows PySem.SeqAt
set_option maxRecDepth 100000
set_option maxHeartbeats 400000
set_option linter.unusedVariables false
namespace Mine
def ifT (s : Stmt) : Expr := match s with
  | .If t _ _ _ => t
  | _ => .Constant .none 0 ⟨0, 0, 0, 0⟩
theorem built_lens {items : Array Value} (f : Nat → Int) {h : Heap} : ∀ {n : Nat} {ys : List Value},
    Built (fun i v => items[i]? = some v) (fun _ _ => true) (fun i v y _ => ∃ t, y = .int (f i) t) h n ys → IntsAre ys ((List.range n).map f)
  | 0, ys, b => by rw [show ys = [] from b]; exact .nil
  | n + 1, ys, ⟨v, hv, b⟩ => by
    rcases b with ⟨q, b⟩ | ⟨q, ys', y, rfl, ⟨t, rfl⟩, b⟩
    · cases q
    · rw [List.range_succ, List.map_append]
      exact IntsAre.snoc (built_lens f b) _ _
theorem map_range_get {α : Type} (l : List α) (f : α → Int) : ((List.range l.length).map fun i => ((l[i]?).map f).getD 0) = l.map f := by
  refine List.ext_getElem (by simp) fun i h1 h2 => ?_
  simp at h1 h2
  simp [h1]
section
variable {w : World} {A : Around} {E : Value → Shared → Prop}
theorem law_test {L a ta ra : Addr} {cd : Value} {hp0 h₁ : Heap} {m cm : Str → Option Value} {g : Array GenState} {d : Drawn} {tk : Nat} {os : OsState} {tvs rvs : Array Value} {ess : List (List Int)} {pss : List (List (Int × Int))} {Q : Bool → Shared → Prop} (hh : A.handled = none) (hu : A.units < cLine)
    (B : Base w hp0) (F : Fr hp0 L h₁ m) (X : Cl L (cellsFrom (L + 1) (stS 20).names []) h₁ cm) (c1 : cm "ranges" = some (.ref ra)) (c3 : cm "tables" = some (.ref ta))
    (ht : h₁.PlainList ta tvs) (htt : IntsTabs h₁ ta tvs.toList ess) (hra : h₁.PlainList ra rvs) (hrt : TabsAt h₁ rvs.toList pss)
    (hl : ess.map (fun e => (e.length : Int)) = pss.map fun p => 2 * (p.length : Int)) (hes : ∀ es ∈ ess, es.length < 1000) (hps : ∀ ps ∈ pss, ps.length < 1000) (hln : ess.length < 100)
    (hQ : ∀ h' tk', Kp h₁ h' → Q false ⟨h', g, d, tk', os⟩) :
    wpAny (model pg w) A (isTrue (ifT (stmtOf 20 3)) (wenv L a cd) (eval (ifT (stmtOf 20 3)) (wenv L a cd))) Q E ⟨h₁, g, d, tk, os⟩ := by
  have tl : tvs.size = ess.length := by have := htt.length; rwa [Array.length_toList] at this
  have rl : rvs.size = pss.length := by have := hrt.length; rwa [Array.length_toList] at this
  have el : ess.length = pss.length := by have := congrArg List.length hl; simpa using this
  have B₁ := B.keeps F.keep
  conv => enter [3, 1]; whnf
  refine isTrue_or (wpAny_isTrue_Compare1 (ldC (c := L + 3) X (by kernel_rfl) c3 (wpAny_Constant_none (is_none ?_)) (by kernel_rfl) (by kernel_rfl)))
  refine wpAny_truthy_bool ?_
  rw [show ((Value.ref ta == Value.none) : Bool) = false from rfl, if_neg Bool.false_ne_true]
  refine isTrue_or (wpAny_isTrue_Compare1 (eval_comp (comp1L (cl := []) hh (by kernel_rfl) (by kernel_rfl) (by decide +kernel) (by decide +kernel) (by kernel_rfl) (fun _ => rfl)
    (fun _ _ => true) (fun i v y => ∃ t, y = .int (((ess[i]?).map fun e => (e.length : Int)).getD 0) t) (ldC (c := L + 3) X (by kernel_rfl) c3 ⟨ta, tvs, rfl, ht.isList, by rw [sizeLine_eq]; omega, ?tst, ?elt, ?fin⟩ (by kernel_rfl) (by kernel_rfl)))))
  case tst => exact fun C i v s' E' hC hv hb hk => wpAny_tests_nil ⟨rfl, _, _, rfl, fun _ _ e => e⟩
  case elt =>
    rintro C i v s' E' hC hv - ⟨m', hn, hm⟩ hk
    dsimp only at hk hC
    obtain ⟨b, evs, es, rfl, he, hp, hi⟩ := htt.at_ (by simpa using hv)
    have hsz : evs.size = es.length := by have := hi.length; rwa [Array.length_toList] at this
    have := hes es (List.mem_of_getElem? he)
    refine Call_ (nm_built (B₁.keeps hk) (by decide) bb_len ?_ rfl rfl (by kernel_rfl) (by kernel_rfl))
    refine PyProof.Rows.callWith_builtin1 (args_cons (ldK hn hm (args_nil (len_list (PL.kp hp hk).isList (by omega) ?_)) rfl (by kernel_rfl) (by kernel_rfl)))
    refine ⟨⟨_, congrFun (congrArg Value.int ?_) _⟩, _, _, rfl, fun _ _ e => e⟩
    rw [he, hsz]; rfl
  case fin =>
    intro D C h' tk' ys hD hC hDC hn hk hpl hB
    dsimp only at hD hC hk
    refine post_none (s := ⟨h₁, g, d, tk, os⟩) hn fun h₂ hs₂ => ?_
    have k₂ : Kp h₁ h₂ := fun b o e => (hs₂.2 b (by rintro rfl; rw [hC] at e; cases e)).trans (hk b o e)
    have y1 := built_lens _ hB
    rw [tl, map_range_get, hl] at y1
    have p₂ := PL.same hpl hs₂ hDC
    refine eval_comp (comp1L (cl := []) hh (by kernel_rfl) (by kernel_rfl) (by decide +kernel) (by decide +kernel) (by kernel_rfl) (fun _ => rfl)
      (fun _ _ => true) (fun i v y => ∃ t, y = .int (((pss[i]?).map fun e => 2 * (e.length : Int)).getD 0) t) (ldC (c := L + 1) (X.keeps k₂) (by kernel_rfl) c1 ⟨ra, rvs, rfl, (PL.kp hra k₂).isList, by rw [sizeLine_eq]; omega, ?tst2, ?elt2, ?fin2⟩ (by kernel_rfl) (by kernel_rfl)))
    case tst2 => exact fun C i v s' E' hC hv hb hk => wpAny_tests_nil ⟨rfl, _, _, rfl, fun _ _ e => e⟩
    case elt2 =>
      rintro C i v s' E' hC hv - ⟨m', hn, hm⟩ hk
      dsimp only at hk hC
      obtain ⟨b, pvs, ps, rfl, he, hp, hi⟩ := hrt.at_ (by simpa using hv)
      have hsz : pvs.size = ps.length := by have := hi.length; rwa [Array.length_toList] at this
      have := hps ps (List.mem_of_getElem? he)
      refine wpAny_BinOp (wpAny_Constant_int (Call_ (nm_built (B₁.keeps (Kp.tr k₂ hk)) (by decide) bb_len ?_ rfl rfl (by kernel_rfl) (by kernel_rfl))))
      refine PyProof.Rows.callWith_builtin1 (args_cons (ldK hn hm (args_nil (len_list (PL.kp (PL.kp hp k₂) hk).isList (by omega) (mul_int ?_))) rfl (by kernel_rfl) (by kernel_rfl)))
      refine ⟨⟨_, congrFun (congrArg Value.int ?_) _⟩, _, _, rfl, fun _ _ e => e⟩
      rw [he, hsz]; rfl
    case fin2 =>
      intro D2 C2 h3 tk3 ys2 hD2 hC2 hDC2 hn2 hk2 hpl2 hB2
      dsimp only at hD2 hC2 hk2
      refine post_none (s := ⟨h₂, g, d, tk', os⟩) hn2 fun h₄ hs₄ => ?_
      have k₄ : Kp h₂ h₄ := fun b o e => (hs₄.2 b (by rintro rfl; rw [hC2] at e; cases e)).trans (hk2 b o e)
      have y2 := built_lens _ hB2
      rw [rl, map_range_get] at y2
      have s1 : ys.size = pss.length := by have := y1.length; rw [Array.length_toList] at this; simpa using this
      have s2 : ys2.size = pss.length := by have := y2.length; rw [Array.length_toList] at this; simpa using this
      refine PySem.SeqAt.RcNeAt.lists (e := fun _ => true) (PL.kp p₂ k₄).isList (PL.same hpl2 hs₄ hDC2).isList (by omega) hu (fun j j1 j2 => ?_) _ _ _ _ ?_
      · obtain ⟨a1, t1, q1, e1⟩ := ints_at y1 (i := j) (v := ys[j]) (by simp [j1])
        obtain ⟨a2, t2, q2, e2⟩ := ints_at y2 (i := j) (v := ys2[j]) (by simp [j2])
        rw [q1] at q2
        cases q2
        rw [e1, e2]
        simpa using EqAt.int_int a1 t1 a1 t2
      · refine wpAny_truthy_bool ?_
        rw [show (!(List.range ys.size).all fun _ => true) = false by simp, if_neg Bool.false_ne_true]
        refine isTrue_or_nil ?_
        exact hQ _ _ (Kp.tr k₂ k₄)
end
end Mine
end
section
open PySem PySem.W PySem.Calls PyProof.Rows PySem.SeqAt
set_option maxRecDepth 100000
set_option maxHeartbeats 400000
set_option linter.unusedVariables false
namespace Mine
theorem Judge.kp {w : World} {h h' : Heap} {ja : Addr} {J : Int → Bool} (x : Judge w h ja J) (k : Kp h h') : Judge w h' ja J :=
  ⟨let ⟨o, fd, e, d⟩ := x.fn; ⟨o, fd, k _ _ e, d⟩, fun A s' E' Q' c t hr k' hQ => x.run A s' E' Q' c t hr (Kp.tr k k') hQ⟩
/-- what law asks of a table's place -/
def AllRight (w : World) (h : Heap) (jas : List Addr) (ess : List (List Int)) (pss : List (List (Int × Int))) (ds : List Int) : Prop :=
  ∀ (i : Nat) (ja : Addr) (es : List Int) (ps : List (Int × Int)), jas[i]? = some ja → ess[i]? = some es → pss[i]? = some ps → ∃ J, Judge w h ja J ∧ ps.length < 100 ∧ es.length < 100 ∧ (∀ c ∈ codesOf (someOf ps) ++ ds, 0 ≤ c ∧ c < 1114112) ∧ ∀ c ∈ codesOf (someOf ps) ++ ds, J c = dueOf ps c ∧ oddOf es c = dueOf ps c
def retE (s : Stmt) : Expr := match s with
  | .Return (some e) _ => e
  | _ => .Constant .none 0 ⟨0, 0, 0, 0⟩
section
variable {w : World} {A : Around} {E : Value → Shared → Prop}
theorem law_last {L a ta ra ja da : Addr} {cd : Value} {hp0 h₁ : Heap} {m cm : Str → Option Value} {g : Array GenState} {d : Drawn} {tk : Nat} {os : OsState} {tvs rvs dvs : Array Value} {jas : List Addr} {ess : List (List Int)} {pss : List (List (Int × Int))} {ds : List Int} {Q : Value → Shared → Prop} (hr : A.depth + 2 < recursionLimit) (hh : A.handled = none) (hu : A.units + 64 < cLine)
    (B : Base w hp0) (F : Fr hp0 L h₁ m) (X : Cl L (cellsFrom (L + 1) (stS 20).names []) h₁ cm) (c1 : cm "ranges" = some (.ref ra)) (c2 : cm "drawn" = some (.ref da)) (c3 : cm "tables" = some (.ref ta)) (c4 : cm "judges" = some (.ref ja))
    (ht : h₁.PlainList ta tvs) (htt : IntsTabs h₁ ta tvs.toList ess) (hra : h₁.PlainList ra rvs) (hrt : TabsAt h₁ rvs.toList pss) (hda : h₁.PlainList da dvs) (hdi : IntsAre dvs.toList ds) (hja : h₁.PlainList ja (jas.map Value.ref).toArray)
    (hall : AllRight w h₁ jas ess pss ds) (l1 : jas.length = 6) (l2 : ess.length = 6) (l3 : pss.length = 6) (l4 : ds.length < 100)
    (hQ : ∀ h' tk', Kp h₁ h' → Q (.bool true) ⟨h', g, d, tk', os⟩) :
    wpAny (model pg w) A (eval (retE (stmtOf 20 5)) (wenv L a cd)) Q E ⟨h₁, g, d, tk, os⟩ := by
  have tl : tvs.size = ess.length := by have := htt.length; rwa [Array.length_toList] at this
  have rl : rvs.size = pss.length := by have := hrt.length; rwa [Array.length_toList] at this
  have B₁ := B.keeps F.keep
  obtain ⟨cdr, Fr_⟩ := B₁.ri
  obtain ⟨o, pm, doc, hof, hdat⟩ := Fr_.at_
  conv => enter [3, 1]; whnf
  refine wpAny_Compare1 (eval_comp (comp1R (cl := [("tables", L + 3), ("ranges", L + 1), ("judges", L + 4), ("drawn", L + 2)]) hh (by kernel_rfl) (by kernel_rfl) (by decide +kernel) (by decide +kernel) (by kernel_rfl) (fun _ => rfl) ?_))
  refine Call_ (nm_built B₁ (by decide) bb_range ?_ rfl rfl (by kernel_rfl) (by kernel_rfl))
  refine PySem.Pv.callWith_type1 (args_cons (wpAny_Constant_int (args_nil (call_range_1 ?_))))
  dsimp only
  have kr := kp_push h₁ { cls := .type "range", data := .fields #[.int 0 (tk + 1), .int 6 tk, .int 1 (tk + 1 + 1)] }
  have hrg := IsRange.new h₁ 0 6 1 (tk + 1) tk (tk + 1 + 1)
  generalize h₁.push { cls := .type "range", data := .fields #[.int 0 (tk + 1), .int 6 tk, .int 1 (tk + 1 + 1)] } = h₂ at kr hrg ⊢
  refine ⟨_, 0, 6, _, _, _, fun _ _ => false, fun _ _ _ _ => True, rfl, hrg, by decide +kernel, by decide +kernel, fun _ _ _ _ _ _ _ => trivial, ?tst, ?elt, ?fin⟩
  case elt => intro i t s' E' hi hp; cases hp
  case tst =>
    rintro i t s' E' hi ⟨m', hn, hm⟩ hk
    have k1 := Kp.tr kr hk
    have X' := X.keeps k1
    have x1 : s'.heap.IsCell (L + 1) (some (.ref ra)) := c1 ▸ X'.cell "ranges" (L + 1) (by kernel_rfl)
    have x2 : s'.heap.IsCell (L + 2) (some (.ref da)) := c2 ▸ X'.cell "drawn" (L + 2) (by kernel_rfl)
    have x3 : s'.heap.IsCell (L + 3) (some (.ref ta)) := c3 ▸ X'.cell "tables" (L + 3) (by kernel_rfl)
    have x4 : s'.heap.IsCell (L + 4) (some (.ref ja)) := c4 ▸ X'.cell "judges" (L + 4) (by kernel_rfl)
    have B' := B₁.keeps k1
    obtain ⟨jx, hjx⟩ : ∃ v, jas[i]? = some v := ⟨_, List.getElem?_eq_getElem (by omega)⟩
    obtain ⟨tv, htv⟩ : ∃ v, tvs[i]? = some v := ⟨_, Array.getElem?_eq_getElem (by omega)⟩
    obtain ⟨rv, hrv⟩ : ∃ v, rvs[i]? = some v := ⟨_, Array.getElem?_eq_getElem (by omega)⟩
    obtain ⟨ea, evs, es, rfl, hes, pe, ie⟩ := htt.at_ (by simpa using htv)
    obtain ⟨pa, pvs, ps, rfl, hps, pp, ip⟩ := hrt.at_ (by simpa using hrv)
    obtain ⟨J, hJ, lp, le, hc1, hc2⟩ := hall i jx es ps hjx hes hps
    refine wpAny_tests_one (isTrue_not (isTrue_plain ?_))
    have ei : ((0 : Int) + (i : Int)).toNat = i := by omega
    refine Call_ (nm_text (a := 141) B' (by decide) ?_ rfl (by kernel_rfl) (by kernel_rfl))
    refine callWith_def hdat (args_cons (Subscript_ (ldKc x4 (ldK hn hm (item_list (x := .ref jx) (PL.kp hja k1).isList (by omega) (by omega) (by rw [ei]; simp [hjx]) ?_) rfl (by kernel_rfl) (by kernel_rfl)) (by kernel_rfl) (by kernel_rfl) (by kernel_rfl))))
    refine args_cons (Subscript_ (ldKc x3 (ldK hn hm (item_list (x := .ref ea) (PL.kp ht k1).isList (by omega) (by omega) (by rw [ei]; exact htv) ?_) rfl (by kernel_rfl) (by kernel_rfl)) (by kernel_rfl) (by kernel_rfl) (by kernel_rfl)))
    refine args_cons (Subscript_ (ldKc x1 (ldK hn hm (item_list (x := .ref pa) (PL.kp hra k1).isList (by omega) (by omega) (by rw [ei]; exact hrv) ?_) rfl (by kernel_rfl) (by kernel_rfl)) (by kernel_rfl) (by kernel_rfl) (by kernel_rfl)))
    refine args_cons (ldKc x2 (args_nil ⟨k1 _ _ hof, ?_⟩) (by kernel_rfl) (by kernel_rfl) (by kernel_rfl))
    refine right_ok B' hr hh hu (hJ.kp k1) (PL.kp pe k1) ie (PL.kp pp k1) (ip.kp k1) (PL.kp hda k1) hdi lp le l4 hc1 hc2 fun h₅ tk₅ k₅ => ?_
    refine wpAny_truthy_bool ?_
    exact ⟨rfl, h₅, _, rfl, k₅⟩
  case fin =>
    intro h' tk' ys hn hk hpl hB
    refine post_none (s := ⟨h₂, g, d, tk, os⟩) hn fun h₃ hs₃ => ?_
    have k₃ : Kp h₂ h₃ := fun b o e => (hs₃.2 b (nlt2 (Heap.lt_size e))).trans (hk b o e)
    have y2 : ys = #[] := by simpa using built_no hB
    subst y2
    refine List_ (args_nil (new_list (fun h₄ k₄ p₄ z₄ => ?_) (by simp)))
    refine eq_listAt (e := fun _ => true) (PL.kp (PL.same hpl hs₃ (s21 _).symm) k₄).isList p₄.isList (by simp) (by omega) (fun j j1 _ => absurd j1 (by simp)) ?_
    exact hQ _ _ (Kp.tr kr (Kp.tr k₃ k₄))
end
end Mine
end
section
open PySem PySem.W PySem.Calls PyProof.Rows PySem.SeqAt
set_option maxRecDepth 100000
set_option maxHeartbeats 400000
set_option linter.unusedVariables false
namespace Mine
def ends' : List (Int × Int) → List Int
  | [] => []
  | p :: ps => p.1 :: (p.2 + 1) :: ends' ps
def chainB : Int → List (Int × Int) → Bool
  | _, [] => true
  | lo, p :: ps => decide (lo ≤ p.1) && decide (p.1 ≤ p.2) && chainB (p.2 + 1) ps
theorem ends_all : ∀ ps ∈ allT, endsOf ps = ends' ps := by decide +kernel
theorem chain_all : ∀ ps ∈ allT, chainB 0 ps = true := by decide +kernel
theorem low_all : ∀ ps ∈ allT, ∀ c ∈ codesOf (someOf ps), 0 ≤ c ∧ c < 1114112 := by decide +kernel
theorem lens_all : (allT.map endsOf).map (fun e => (e.length : Int)) = allT.map fun p => 2 * (p.length : Int) := by decide +kernel
theorem odd_due : ∀ {ps : List (Int × Int)} {lo : Int} (c : Int), chainB lo ps = true →
    (c < lo → dueOf ps c = false ∧ (ends' ps).filter (fun b => decide (b ≤ c)) = []) ∧ oddOf (ends' ps) c = dueOf ps c
  | [], lo, c, _ => ⟨fun _ => ⟨rfl, rfl⟩, rfl⟩
  | p :: ps, lo, c, h => by
    unfold chainB at h
    simp only [Bool.and_eq_true, decide_eq_true_eq] at h
    obtain ⟨⟨h1, h2⟩, h3⟩ := h
    obtain ⟨i1, i2⟩ := odd_due (ps := ps) (lo := p.2 + 1) c h3
    have e1 : dueOf (p :: ps) c = (inR c p || dueOf ps c) := rfl
    have e2 : (ends' (p :: ps)).filter (fun b => decide (b ≤ c)) = (if p.1 ≤ c then [p.1] else []) ++ ((if p.2 + 1 ≤ c then [p.2 + 1] else []) ++ (ends' ps).filter (fun b => decide (b ≤ c))) := by
      simp only [ends', List.filter_cons, decide_eq_true_eq]
      split <;> split <;> simp
    refine ⟨fun hc => ?_, ?_⟩
    · obtain ⟨j1, j2⟩ := i1 (by omega)
      rw [e1, e2, j1, j2, if_neg (by omega), if_neg (by omega)]
      refine ⟨?_, rfl⟩
      simp [inR]; omega
    · unfold oddOf at i2 ⊢
      rw [e1, e2]
      by_cases q1 : p.1 ≤ c
      · by_cases q2 : p.2 + 1 ≤ c
        · have q3 : inR c p = false := by simp [inR]; omega
          rw [if_pos q1, if_pos q2, q3, Bool.false_or, ← i2]
          simp only [List.length_append, List.length_cons, List.length_nil]
          congr 1
          apply propext
          omega
        · obtain ⟨j1, j2⟩ := i1 (by omega)
          have q3 : inR c p = true := by simp [inR]; omega
          rw [if_pos q1, if_neg q2, q3, j2]
          rfl
      · obtain ⟨j1, j2⟩ := i1 (by omega)
        have q3 : inR c p = false := by simp [inR]; omega
        rw [if_neg q1, if_neg (by omega), q3, j1, j2]
        rfl
theorem odd_all : ∀ ps ∈ allT, ∀ c, oddOf (endsOf ps) c = dueOf ps c := fun ps h c => by
  rw [ends_all ps h]; exact (odd_due c (chain_all ps h)).2
theorem due_b1 (c : Int) : isB1 c = dueOf b1T c := by
  rw [Bool.eq_iff_iff]
  simp only [isB1, dueOf, b1T, List.any_cons, List.any_nil, inR, Bool.or_eq_true, Bool.and_eq_true, decide_eq_true_eq, List.mem_cons, List.not_mem_nil, Bool.false_eq_true, or_false]
  omega
theorem due_c6 (c : Int) : isC6 c = dueOf [(65529, 65533)] c := by
  rw [Bool.eq_iff_iff]
  simp only [isC6, dueOf, List.any_cons, List.any_nil, inR, Bool.or_eq_true, Bool.and_eq_true, decide_eq_true_eq, Bool.false_eq_true, or_false]

  omega
theorem due_c7 (c : Int) : isC7 c = dueOf [(12272, 12283)] c := by
  rw [Bool.eq_iff_iff]
  simp only [isC7, dueOf, List.any_cons, List.any_nil, inR, Bool.or_eq_true, Bool.and_eq_true, decide_eq_true_eq, Bool.false_eq_true, or_false]
  omega
theorem due_c8 (c : Int) : isC8 c = dueOf c8T c := by
  rw [Bool.eq_iff_iff]
  simp only [isC8, dueOf, c8T, List.any_cons, List.any_nil, inR, Bool.or_eq_true, Bool.and_eq_true, decide_eq_true_eq, List.mem_cons, List.not_mem_nil, Bool.false_eq_true, or_false]
  omega
theorem due_c9 (c : Int) : isC9 c = dueOf [(917505, 917505), (917536, 917631)] c := by
  rw [Bool.eq_iff_iff]
  simp only [isC9, dueOf, List.any_cons, List.any_nil, inR, Bool.or_eq_true, Bool.and_eq_true, decide_eq_true_eq, Bool.false_eq_true, or_false]
  omega
theorem due_c4 (c : Int) (h0 : 0 ≤ c) (h1 : c < 1114112) : isC4 c = dueOf c4T c := by
  have e : dueOf c4T c = (inR c (64976, 65007) || (List.range 17).any fun (i : Nat) => inR c (65536 * (1 + (i : Int)) - 2, 65536 * (1 + (i : Int)) - 1)) := by
    unfold dueOf c4T
    rw [List.any_cons, List.any_map]
    rfl
  rw [e, Bool.eq_iff_iff]
  unfold isC4
  simp only [Bool.or_eq_true, List.any_eq_true, List.mem_range, inR, Bool.and_eq_true, decide_eq_true_eq]
  by_cases q1 : c < 64976
  · rw [if_pos q1]
    constructor
    · intro h; cases h
    · rintro (h | ⟨i, hi, h⟩) <;> omega
  · rw [if_neg q1]
    by_cases q2 : c < 65008
    · rw [if_pos q2]
      exact ⟨fun _ => .inl (by omega), fun _ => rfl⟩
    · rw [if_neg q2]
      simp only [Bool.or_eq_true, decide_eq_true_eq]
      constructor
      · intro h
        exact .inr ⟨(c / 65536).toNat, by omega, by omega⟩
      · rintro (h | ⟨i, hi, h⟩) <;> omega
end Mine
end
section
open PySem PySem.W PySem.Calls PyProof.Rows PySem.SeqAt
set_option maxRecDepth 100000
set_option maxHeartbeats 400000
set_option linter.unusedVariables false
namespace Mine
def jAs : List Addr := [39, 46, 58, 70, 94, 112]
theorem lens100 : ∀ ps ∈ allT, ps.length < 100 ∧ (endsOf ps).length < 100 := by decide +kernel
theorem all_right {w : World} {h : Heap} {ds : List Int} (B : Base w h) (hds : ∀ c ∈ ds, 0 ≤ c ∧ c < 1114112) : AllRight w h jAs (allT.map endsOf) allT ds := by
  intro i ja es ps h1 h2 h3
  have hmem : ps ∈ allT := List.mem_of_getElem? h3
  have hes : es = endsOf ps := by rw [List.getElem?_map, h3] at h2; exact (Option.some.inj h2).symm
  subst hes
  have hb : ∀ c ∈ codesOf (someOf ps) ++ ds, 0 ≤ c ∧ c < 1114112 := fun c hc => by
    rcases List.mem_append.mp hc with q | q
    · exact low_all ps hmem c q
    · exact hds c q
  suffices x : ∃ J, Judge w h ja J ∧ ∀ c, 0 ≤ c → c < 1114112 → J c = dueOf ps c by
    obtain ⟨J, hJ, hc⟩ := x
    exact ⟨J, hJ, (lens100 ps hmem).1, (lens100 ps hmem).2, hb, fun c q => ⟨hc c (hb c q).1 (hb c q).2, odd_all ps hmem c⟩⟩
  match i with
  | 0 =>
    cases h1; cases h3
    obtain ⟨cd, F⟩ := B.b1
    obtain ⟨o, pm, doc, e, d⟩ := F.at_
    exact ⟨isB1, ⟨⟨o, _, e, d⟩, fun A s' E' Q' c t hr k hQ => judge_b1 (B.keeps k) hr hQ⟩, fun c _ _ => due_b1 c⟩
  | 1 =>
    cases h1; cases h3
    obtain ⟨cd, F⟩ := B.c4
    obtain ⟨o, pm, doc, e, d⟩ := F.at_
    exact ⟨isC4, ⟨⟨o, _, e, d⟩, fun A s' E' Q' c t hr k hQ => judge_c4 (B.keeps k) hr hQ⟩, due_c4⟩
  | 2 =>
    cases h1; cases h3
    obtain ⟨cd, F⟩ := B.c6
    obtain ⟨o, pm, doc, e, d⟩ := F.at_
    exact ⟨isC6, ⟨⟨o, _, e, d⟩, fun A s' E' Q' c t hr k hQ => judge_c6 (B.keeps k) hr hQ⟩, fun c _ _ => due_c6 c⟩
  | 3 =>
    cases h1; cases h3
    obtain ⟨cd, F⟩ := B.c7
    obtain ⟨o, pm, doc, e, d⟩ := F.at_
    exact ⟨isC7, ⟨⟨o, _, e, d⟩, fun A s' E' Q' c t hr k hQ => judge_c7 (B.keeps k) hr hQ⟩, fun c _ _ => due_c7 c⟩
  | 4 =>
    cases h1; cases h3
    obtain ⟨cd, F⟩ := B.c8
    obtain ⟨o, pm, doc, e, d⟩ := F.at_
    exact ⟨isC8, ⟨⟨o, _, e, d⟩, fun A s' E' Q' c t hr k hQ => judge_c8 (B.keeps k) hr hQ⟩, fun c _ _ => due_c8 c⟩
  | 5 =>
    cases h1; cases h3
    obtain ⟨cd, F⟩ := B.c9
    obtain ⟨o, pm, doc, e, d⟩ := F.at_
    exact ⟨isC9, ⟨⟨o, _, e, d⟩, fun A s' E' Q' c t hr k hQ => judge_c9 (B.keeps k) hr hQ⟩, fun c _ _ => due_c9 c⟩
  | i + 6 => cases h1
end Mine
end
section
open PySem PySem.W PySem.Calls PyProof.Rows PySem.SeqAt
set_option maxRecDepth 100000
set_option maxHeartbeats 400000
set_option linter.unusedVariables false
namespace Mine
theorem rd_split : ∃ os, pkGo allT [] = some os ∧ rdGo 12 [] os = some (allT.map endsOf) := by
  have h := rd_all
  cases e : pkGo allT [] with
  | none => rw [e] at h; cases h
  | some os => rw [e] at h; exact ⟨os, rfl, h⟩
theorem ends_len : ∀ es ∈ allT.map endsOf, es.length < 1000 := by decide +kernel
theorem tabs_len : ∀ ps ∈ allT, ps.length < 1000 := by decide +kernel
section
variable {w : World} {A : Around} {E : Value → Shared → Prop} {s : Shared}
theorem law_ok {a sa : Addr} {cd : Value} {svs : Array Value} {ns : List Int} {Q : Value → Shared → Prop} (B : Base w s.heap) (Fa : Fn s.heap a "law" (stA 20) (stB 20) (stS 20) cd) (hr : A.depth + 8 < recursionLimit) (hh : A.handled = none) (hA : A.frames = some []) (hu : A.units + 100 < cLine)
    (hs : s.heap.IsList sa svs) (hsi : IntsAre svs.toList ns) (hsz : svs.size ≤ sizeLine)
    (hQ : ∀ h' tk, Kp s.heap h' → Q (.bool true) { s with heap := h', toks := tk }) :
    wpAny (model pg w) A (call (.ref a) [.ref sa]) Q E s := by
  obtain ⟨o, pm, doc, hof, hdat⟩ := Fa.at_
  obtain ⟨hp0, g, d, tk, os⟩ := s
  dsimp only at hs hQ B Fa hof
  refine wpAny_call (call_cells_ret (binds := [("script", .ref sa)]) (by omega) hof hdat B.lim Fa.rec_ (by rfl) ?hk (fun h₁ tk₁ F₁ X₁ => ?_) (by decide +kernel) (by decide +kernel) (by decide +kernel))
  case hk => exact kindsX (by kernel_rfl) _
  dsimp only at F₁ X₁ ⊢
  generalize hm₁ : bindL _ _ _ = m₁ at F₁
  generalize hcm : bindC _ _ _ = cm at X₁
  have m1 : m₁ "script" = some (.ref sa) := by rw [← hm₁]; kernel_rfl
  clear hm₁ hcm
  have hA1 : (A.deeper (envOfC "law" (stS 20) hp0.objs.size a cd)).handled = none := hh
  have hA2 : (A.deeper (envOfC "law" (stS 20) hp0.objs.size a cd)).depth + 6 < recursionLimit := by show A.depth + 1 + 6 < _; omega
  have hA3 : (A.deeper (envOfC "law" (stS 20) hp0.objs.size a cd)).units + 64 < cLine := by
    show A.units + 3 + 64 < cLine
    omega
  have hA4 : (A.deeper (envOfC "law" (stS 20) hp0.objs.size a cd)).frames = some [wenv hp0.objs.size a cd] := Around.frames_deeper hA
  generalize A.deeper (envOfC "law" (stS 20) hp0.objs.size a cd) = A' at hA1 hA2 hA3 hA4 ⊢
  have hL0 : hp0.get? hp0.objs.size = none := none_size _
  generalize hp0.objs.size = L at *
  obtain ⟨cdr, Frg⟩ := B.rg
  obtain ⟨orr, pmr, docr, hofr, hdr⟩ := Frg.at_
  obtain ⟨cdp, Fpk⟩ := B.pk
  obtain ⟨op, pmp, docp, hofp, hdp⟩ := Fpk.at_
  obtain ⟨cdd, Frd⟩ := B.rd
  obtain ⟨od, pmd, docd, hofd, hdd⟩ := Frd.at_
  obtain ⟨out, ho1, ho2⟩ := rd_split
  show wpAny _ _ (execs [stmtOf 20 0, stmtOf 20 1, stmtOf 20 2, stmtOf 20 3, stmtOf 20 4, stmtOf 20 5] (wenv L a cd)) _ _ _
  refine wpAny_execs_cons ?_
  conv => enter [3, 1]; whnf
  refine wpAny_Assign_Name ?_ ?_
  case refine_2 => kernel_rfl
  refine Call_Name0 (nm_text (a := 117) (B.keeps F₁.keep) (by decide) ?_ rfl (by kernel_rfl) (by kernel_rfl))
  refine callWith_def_kw hdr (evalArgs_nil3 ⟨F₁.keep _ _ hofr, ?_⟩)
  refine ranges_ok (B.keeps F₁.keep) (by omega) hA1 fun h₂ tk₂ ra rvs k₂ _ p₂ q₂ => ?_
  dsimp only at k₂ ⊢
  have F₂ := Fr.kp F₁ k₂
  refine stCs F₂ (X₁.keeps k₂) (c := L + 1) (by kernel_rfl) (fun h₃ F₃ X₃ k₃ => ?_) (by kernel_rfl) (by kernel_rfl)
  dsimp only at k₃ ⊢
  have p₃ := k₃ _ _ p₂
  have q₃ := q₂.of k₃
  refine wpAny_execs_cons ?_
  conv => enter [3, 1]; whnf
  refine wpAny_Assign_Name ?_ ?_
  case refine_2 => kernel_rfl
  refine law_drawn (cm := fun _ => none) hA1 F₃ m1 (IsList.kp hs F₃.keep) hsi hsz fun h₄ tk₄ da dvs k₄ p₄ i₄ => ?_
  have F₄ := Fr.kp F₃ k₄
  refine stCs F₄ (X₃.keeps k₄) (c := L + 2) (by kernel_rfl) (fun h₅ F₅ X₅ k₅ => ?_) (by kernel_rfl) (by kernel_rfl)
  dsimp only at k₅ ⊢
  have p₅ := k₅ _ _ (PL.kp p₃ k₄)
  have q₅ := (q₃.kp k₄).of k₅
  have d₅ := k₅ _ _ p₄
  refine wpAny_execs_cons ?_
  conv => enter [3, 1]; whnf
  refine wpAny_Assign_Name ?_ ?_
  case refine_2 => kernel_rfl
  refine Call_ (nm_text (a := 136) (B.keeps F₅.keep) (by decide) ?_ rfl (by kernel_rfl) (by kernel_rfl))
  refine callWith_def hdd (args_cons (Call_ (nm_text (a := 129) (B.keeps F₅.keep) (by decide) ?_ rfl (by kernel_rfl) (by kernel_rfl))))
  refine callWith_def hdp (args_cons (ldC (c := L + 1) X₅ (by kernel_rfl) (v := .ref ra) (by rw [if_neg (by decide), if_pos rfl]) (args_nil ⟨F₅.keep _ _ hofp, ?_⟩) (by kernel_rfl) (by kernel_rfl)))
  refine packed_ok (B.keeps F₅.keep) (by omega) hA1 p₅ q₅ (fun ps h => (lens100 ps h).1) ho1 fun h₆ tk₆ oa ovs k₆ p₆ i₆ => ?_
  dsimp only at k₆ ⊢
  have F₆ := Fr.kp F₅ k₆
  refine args_nil ⟨F₆.keep _ _ hofd, ?_⟩
  refine read_ok B F₆.keep hL0 (by omega) hA1 hA4 rfl (by rw [show Scope.kind _ = .function from by kernel_rfl]; simp) F₆.ns p₆ i₆ ho2 fun h₇ tk₇ ta tvs k₇ sm₇ p₇ i₇ => ?_
  dsimp only at k₇ sm₇ ⊢
  have F₇ := Fr.own F₆ k₇ (sm₇.ns F₆.ns)
  have X₇ := (X₅.keeps k₆).extBut (fun b o hb e => k₇ b o hb e) (Nat.le_refl _)
  have kk : ∀ b its, h₆.PlainList b its → h₇.PlainList b its := fun b its p => PL.kpL p F₆.ns k₇
  have r₇ := kk _ _ (PL.kp p₅ k₆)
  have q₇ := (q₅.kp k₆).of kk
  have d₇ := kk _ _ (PL.kp d₅ k₆)
  refine stCs F₇ X₇ (c := L + 3) (by kernel_rfl) (fun h₈ F₈ X₈ k₈ => ?_) (by kernel_rfl) (by kernel_rfl)
  dsimp only at k₈ ⊢
  have r₈ := k₈ _ _ r₇
  have q₈ := q₇.of k₈
  have d₈ := k₈ _ _ d₇
  have t₈ := k₈ _ _ p₇
  have i₈ := i₇.of fun b its _ p => k₈ b its p
  refine wpAny_execs_cons ?_
  conv => enter [3, 1]; whnf
  refine wpAny_If ?_
  refine law_test hA1 (by omega) B F₈ X₈ (by rw [if_neg (by decide), if_neg (by decide), if_pos rfl]) (by rw [if_pos rfl]) t₈ i₈ r₈ q₈ lens_all ends_len tabs_len (by decide) fun h₉ tk₉ k₉ => ?_
  rw [if_neg Bool.false_ne_true]
  refine wpAny_execs_nil ?_
  have F₉ := Fr.kp F₈ k₉
  have B₉ := B.keeps F₉.keep
  refine wpAny_execs_cons ?_
  conv => enter [3, 1]; whnf
  refine wpAny_Assign_Name ?_ ?_
  case refine_2 => kernel_rfl
  refine List_ (args_cons (nm_text (a := 39) B₉ (by decide) ?_ rfl (by kernel_rfl) (by kernel_rfl)))
  refine args_cons (nm_text (a := 46) B₉ (by decide) ?_ rfl (by kernel_rfl) (by kernel_rfl))
  refine args_cons (nm_text (a := 58) B₉ (by decide) ?_ rfl (by kernel_rfl) (by kernel_rfl))
  refine args_cons (nm_text (a := 70) B₉ (by decide) ?_ rfl (by kernel_rfl) (by kernel_rfl))
  refine args_cons (nm_text (a := 94) B₉ (by decide) ?_ rfl (by kernel_rfl) (by kernel_rfl))
  refine args_cons (nm_text (a := 112) B₉ (by decide) ?_ rfl (by kernel_rfl) (by kernel_rfl))
  refine args_nil (new_list (fun h₁₀ k₁₀ p₁₀ z₁₀ => ?_) (by simp [sizeLine_eq]))
  dsimp only at k₁₀ p₁₀ ⊢
  have kk := Kp.tr k₉ k₁₀
  have F₁₀ := Fr.kp F₉ k₁₀
  refine stCs F₁₀ (X₈.keeps kk) (c := L + 4) (by kernel_rfl) (fun h₁₁ F₁₁ X₁₁ k₁₁ => ?_) (by kernel_rfl) (by kernel_rfl)
  dsimp only at k₁₁ ⊢
  refine wpAny_execs_cons ?_
  conv => enter [3, 1]; whnf
  refine wpAny_Return_some ?_
  refine law_last (jas := jAs) (by omega) hA1 hA3 B F₁₁ X₁₁ (by kernel_rfl) (by kernel_rfl) (by kernel_rfl) (by kernel_rfl) (k₁₁ _ _ (PL.kp t₈ kk)) ((i₈.kp kk).of fun b its _ p => k₁₁ b its p) (k₁₁ _ _ (PL.kp r₈ kk)) ((q₈.kp kk).of k₁₁) (k₁₁ _ _ (PL.kp d₈ kk)) i₄ (k₁₁ _ _ p₁₀)
    (all_right (B.keeps F₁₁.keep) drawnOf_mem) rfl rfl rfl (by have := drawnOf_len ns; omega) fun h₁₂ tk₁₂ k₁₂ => ?_
  exact hQ _ _ (Kp.tr F₁₁.keep k₁₂)
end
end Mine
end
section
open PySem PySem.W PySem.Calls PyProof.Rows PySem.SeqAt
set_option maxRecDepth 100000
set_option maxHeartbeats 4000000
set_option linter.unusedVariables false
namespace Mine
abbrev rwRow : RowW := PySem.Challenge.rw_pe0023_01.row.toRowW
def stPos (i : Nat) : Pos := match pg.main.body[i]? with
  | some (.FunctionDef _ _ _ _ _ _ _ _ _ p) => p
  | _ => ⟨0, 0, 0, 0⟩
def lawD : DefRec := ⟨"law", stA 20, stB 20, stS 20, stPos 20⟩
def qV : Program := { pg with main := { pg.main with body := pg.main.body.drop 20 } }
def looseV : List Str := tab.map (·.1) |>.filter (· != "law")
theorem law_def : defOf qV "law" = some (lawD, []) := by kernel_rfl
theorem law_walk (XP : (Str → Option Value) → Heap → Prop) : WalkO qV looseV XP Base rwRow lawD [] fun f vs => PySem.call f vs := by
  intro w s₀ s₁ mg mb G Y a o pm cd doc dV kV ho hd hcd hD hmg hg args vals as hpre hlay hrd hwl hlo
  wrow_args hpre hlay hrd hwl hlo
  rename IntsAre _ _ => hI
  rename Heap.IsList _ _ _ => hL
  rename ¬ _ < _ => hlen
  have e1 : dV = .none := by
    rcases hD.pos with ⟨_, e⟩ | ⟨h, _⟩
    · exact e
    · exact absurd (by kernel_rfl) h
  have e2 : kV = .none := by
    rcases hD.kw with ⟨_, e⟩ | ⟨h, _⟩
    · exact e
    · exact absurd rfl h
  subst e1 e2
  refine law_ok (cd := cd) Y ⟨⟨o, pm, doc, ho, hd⟩, hcd⟩ (by decide +kernel) rfl rfl (by decide +kernel) hL (by simpa using hI) ?_ fun h' tk k => ?_
  · have := hI.length
    simp only [List.size_toArray]
    rw [sizeLine_eq]; omega
  · refine GoodW.toG ?_
    refine ⟨.inl ⟨.bool true, .bool true, [], rfl, ?_, .bool true, ?_, unshared_nil⟩, k, rfl, hg⟩
    · exact raisesW_false (by wrow_none_raised)
    · wrow_post
end Mine
end
section
open PySem PySem.W PySem.Calls PyProof.Rows PySem.SeqAt
set_option maxRecDepth 100000
set_option maxHeartbeats 4000000
set_option linter.unusedVariables false
namespace Mine
theorem joined (Hf : Params → Heap) (left : LeftO pg qV looseV (fun _ => true) (fun s => s.heap) (fun w => Hf w.params) 13090) (hb : ∀ w, Base w (Hf w.params)) : PySem.Challenge.rw_pe0023_01.Holds := by
  o_law
  refine holds_open (q := qV) (loose := looseV) (Xt := fun _ => true) (XP := fun _ _ => True) (Yf := fun s => s.heap) (Ya := fun w => Hf w.params) (YP := Base) (d := lawD) (kwd := []) (N := 13090) left
    (fun w s e => by rw [show s.heap = _ from e]; exact hb w) (fun w h h' B k => B.keeps k) (fun _ _ => trivial) (fun _ _ _ _ _ => trivial) law_def ?hp ?hk (fun s _ => recFacts_nil rfl) ?hwr (by assumption) ?ok ?bare ?hw (law_walk _)
  case hp => kernel_rfl
  case hk => kernel_rfl
  case hwr => decide +kernel
  case ok => decide +kernel
  case bare => exact ⟨rfl, rfl, rfl, rfl, rfl, by decide +kernel⟩
  case hw => w_witness2
end Mine
end
noncomputable section
open PySem PySem.W PyProof.Rows
set_option maxRecDepth 100000
set_option maxHeartbeats 0
set_option linter.unusedVariables false
namespace Mine
def env0 : Env := { scope := pg.main.scope, locals := mainNs, globals := mainNs, cells := [], code := .ref 13, frame := some 14 }
def cd0 : Code := .body (behindTheImports pg) env0
abbrev fr0 : List Frame := [topFrame ⟨0, 0, 0, 0⟩]
abbrev segF := PySem.W.Fast.tw10295753902157049106
abbrev runF := PySem.W.Fast.tw10110043849684766642
abbrev tabF := PySem.W.Fast.tw14364793385576792824
abbrev denF := PySem.W.Fast.tw11892475500146522536
theorem seg_go_tw : @segGoT = segF := PySem.W.Fast.te10295753902157049106
theorem seg_run_tw : @segRunT = runF := PySem.W.Fast.te10110043849684766642
theorem tab_tw : treeTable = tabF := PySem.W.Fast.te14364793385576792824
def kf (l : List Frame) (i : Nat) : Result → Sem Fin := match l[i]? with
  | some (.ret k _ _ _ _ _ _) => k
  | _ => fun _ => .unsupported ""
theorem goOf {w : World} {n : Nat} {s s' : SharedT} {t t' : Thread} (h : segF tabF pg w 11 (some (Value.ref 6)) 1 n s t = some (s', t')) : segGo treeTable pg w 11 (some (Value.ref 6)) 1 n s.abs t = some (s'.abs, t') :=
  segGo_of (by rw [seg_go_tw, tab_tw]; exact h)
theorem runOf {w : World} {n : Nat} {s s' : SharedT} {t : Thread} {f : Flow} {c : Code} {q : Pos} (h : runF tabF pg w 11 (some (Value.ref 6)) 1 n s t = some (f, s', c, q)) : segRun treeTable pg w 11 (some (Value.ref 6)) 1 n s.abs t = some (f, s'.abs, c, q) :=
  segRun_of (by rw [seg_run_tw, tab_tw]; exact h)
abbrev so (w : World) : Bool := w.params.followText "set-order"
/-- the value of __loader__ at the boot -/
def ldV (P : Params) : Value := match (boot_o_3 P).data with
  | .dict es _ => ((es[3]?).map (·.val)).getD .none
  | _ => .none
def o0 (P : Params) : Obj := ⟨(Value.type "tuple"), none, Data.seq #[] 0, #[]⟩
def o1 (P : Params) : Obj := ⟨Value.none, none, Data.fields #[], #[]⟩
def o2 (P : Params) : Obj := ⟨(Value.type "code"), none, Data.fields #[(Value.str (Str.ofString "<module>") 182), (Value.str (Str.ofString "<module>") 183), (Value.str (Str.ofString "/claim/cut.py") 184), (Value.int 1 0), (Value.int 0 0), (Value.int 0 0), (Value.int 0 0), (Value.int 0 0), (Value.ref 11), (Value.bool false), (Value.int 181 0), (Value.ref 12), Value.none, Value.none, Value.none, Value.none, (Value.int 185 0), (Value.int 1 0), (Value.str (Str.ofString "/claim/cut.py") 186)], #[]⟩
def o3 (P : Params) : Obj := ⟨(Value.type "frame"), none, Data.plain, #[(some (Value.ref 13)), (some (Value.ref 3)), (some (Value.ref 3)), none, (some (Value.str (Str.ofString "__main__") 164)), none, (some (Value.ref 0))]⟩
def hpA (P : Params) : Heap := (fun b => ⟨#[boot_o_0 P, boot_o_1 P, boot_o_2 P, boot_o_3 P, boot_o_4 P, boot_o_5 P, boot_o_6 P, boot_o_7 P, boot_o_8 P, boot_o_9 P, boot_o_10 P, o0 P, o1 P, o2 P, o3 P], {}⟩) (P.followText "set-order")
theorem pcPre : ∀ (w : World) (os : OsState), topGo treeTable pg w 11 (some (Value.ref 6)) 12 ⟨boot_heap w.params, #[], boot_drawn, boot_toks, os⟩ (topStub pg) = some (⟨hpA w.params, #[], {}, 187, os⟩, ⟨denote treeTable cd0, cd0, ⟨0, 0, 0, 0⟩, fr0⟩) := by
  intro w os; kernel_rfl
def tr0 (P : Params) (b : Bool) : BT := (.node (boot_o_0 P) (.node (boot_o_1 P) (.node (boot_o_3 P) (.node (boot_o_7 P) .nil .nil) (.node (o0 P) .nil .nil)) (.node (boot_o_5 P) (.node (boot_o_9 P) .nil .nil) (.node (o2 P) .nil .nil))) (.node (boot_o_2 P) (.node (boot_o_4 P) (.node (boot_o_8 P) .nil .nil) (.node (o1 P) .nil .nil)) (.node (boot_o_6 P) (.node (boot_o_10 P) .nil .nil) (.node (o3 P) .nil .nil))))
def sT0 (w : World) (os : OsState) (b : Bool) : SharedT := ⟨tr0 w.params b, 15, {}, #[], {}, 187, os⟩
theorem pcBlock : ∀ (w : World) (os : OsState), segRun treeTable pg w 11 (some (Value.ref 6)) 1 1 ⟨hpA w.params, #[], {}, 187, os⟩ (blockOf (behindTheImports pg) env0 cd0 ⟨0, 0, 0, 0⟩ fr0) = some (.next, (sT0 w os (so w)).abs, cd0, ⟨0, 0, 0, 0⟩) := by
  intro w os; kernel_rfl
def sts0 : List Stmt := ((behindTheImports pg).drop 0).take 3
def o4 (P : Params) : Obj := ⟨(Value.type "dict"), none, Data.dict #[⟨PyData.keyHash P (Str.ofString "__name__"), (Value.str (Str.ofString "__name__") 165), (Value.str (Str.ofString "cpy313.stringprep") 198)⟩, ⟨PyData.keyHash P (Str.ofString "__doc__"), (Value.str (Str.ofString "__doc__") 166), Value.none⟩, ⟨PyData.keyHash P (Str.ofString "__package__"), (Value.str (Str.ofString "__package__") 167), Value.none⟩, ⟨PyData.keyHash P (Str.ofString "__loader__"), (Value.str (Str.ofString "__loader__") 168), (ldV P)⟩, ⟨PyData.keyHash P (Str.ofString "__spec__"), (Value.str (Str.ofString "__spec__") 169), Value.none⟩, ⟨PyData.keyHash P (Str.ofString "__annotations__"), (Value.str (Str.ofString "__annotations__") 170), (Value.ref 6)⟩, ⟨PyData.keyHash P (Str.ofString "__builtins__"), (Value.str (Str.ofString "__builtins__") 171), (Value.ref 4)⟩, ⟨PyData.keyHash P (Str.ofString "__file__"), (Value.str (Str.ofString "__file__") 173), (Value.str (Str.ofString "/claim/cut.py") 172)⟩, ⟨PyData.keyHash P (Str.ofString "__cached__"), (Value.str (Str.ofString "__cached__") 174), Value.none⟩, ⟨PyData.keyHash P (Str.ofString "_parse_varint"), (Value.str (Str.ofString "_parse_varint") 197), (Value.ref 21)⟩] 10, #[]⟩
def o5 (P : Params) : Obj := ⟨Value.none, none, Data.fields #[(Value.int 2 0), (Value.int 0 0), (Value.ref 20)], #[]⟩
def o6 (P : Params) : Obj := ⟨(Value.type "tuple"), none, Data.seq #[(Value.str (Str.ofString "iterator") 192), (Value.str (Str.ofString "b") 193), (Value.str (Str.ofString "val") 194)] 0, #[]⟩
def o7 (P : Params) : Obj := ⟨Value.none, none, Data.func ⟨(Str.ofString "_parse_varint"), (Str.ofString "_parse_varint"), stA 1, .stmts (stB 1), stS 1, 0, [], Value.none, Value.none, Value.none, Value.none, none, Value.none, Value.none, 0⟩, #[]⟩
def o8 (P : Params) : Obj := ⟨(Value.type "code"), none, Data.fields #[(Value.str (Str.ofString "_parse_varint") 189), (Value.str (Str.ofString "_parse_varint") 190), (Value.str (Str.ofString "/claim/cut.py") 191), (Value.int 2 0), (Value.int 1 0), (Value.int 0 0), (Value.int 0 0), (Value.int 3 0), (Value.ref 15), (Value.bool true), (Value.int 181 0), (Value.ref 16), Value.none, (Value.ref 17), (Value.ref 18), (Value.ref 19), (Value.int 195 0), (Value.int 2 0), (Value.str (Str.ofString "/claim/cut.py") 196)], #[]⟩
def o9 (P : Params) : Obj := ⟨(Value.type "function"), none, Data.func ⟨(Str.ofString "_parse_varint"), (Str.ofString "_parse_varint"), stA 1, .stmts (stB 1), stS 1, 3, [], Value.none, Value.none, Value.none, (Value.str (Str.ofString "cpy313.dis") 187), none, (Value.ref 20), Value.none, 0⟩, #[]⟩
def tr1 (P : Params) (b : Bool) : BT := (.node (boot_o_0 P) (.node (boot_o_1 P) (.node (o4 P) (.node (boot_o_7 P) (.node (o0 P) .nil .nil) .nil) (.node (o0 P) (.node (o7 P) .nil .nil) .nil)) (.node (boot_o_5 P) (.node (boot_o_9 P) (.node (o6 P) .nil .nil) .nil) (.node (o2 P) (.node (o9 P) .nil .nil) .nil))) (.node (boot_o_2 P) (.node (boot_o_4 P) (.node (boot_o_8 P) (.node (o1 P) .nil .nil) .nil) (.node (o5 P) (.node (o8 P) .nil .nil) .nil)) (.node (boot_o_6 P) (.node (boot_o_10 P) (.node (o0 P) .nil .nil) .nil) (.node (o3 P) .nil .nil))))
def sT1 (w : World) (os : OsState) (b : Bool) : SharedT := ⟨tr1 w.params b, 22, {}, #[], {}, 200, os⟩
theorem pc0r : ∀ (w : World) (os : OsState), runF tabF pg w 11 (some (Value.ref 6)) 1 50 (sT0 w os (so w)) (piecesOf sts0 env0 cd0 ⟨0, 0, 0, 0⟩ fr0) = some (.next, sT1 w os (so w), cd0, ⟨10, 0, 10, 8⟩) := by
  intro w os; kernel_rfl
theorem pc0 : ∀ (w : World) (os : OsState), segRun treeTable pg w 11 (some (Value.ref 6)) 1 50 (sT0 w os (so w)).abs (piecesOf sts0 env0 cd0 ⟨0, 0, 0, 0⟩ fr0) = some (.next, (sT1 w os (so w)).abs, cd0, ⟨10, 0, 10, 8⟩) := fun w os => runOf (pc0r w os)
def sts1 : List Stmt := ((behindTheImports pg).drop 3).take 1
def o10 (P : Params) : Obj := ⟨(Value.type "list"), none, Data.seq #[(Value.int 173 200), (Value.int 847 201), (Value.int 6150 202), (Value.int 6155 203), (Value.int 6156 204), (Value.int 6157 205), (Value.int 8203 206), (Value.int 8204 207), (Value.int 8205 208), (Value.int 8288 209), (Value.int 65279 210)] 0, #[]⟩
def o11 (P : Params) : Obj := ⟨(Value.type "range"), none, Data.fields #[(Value.int 65024 211), (Value.int 65040 212), (Value.int 1 213)], #[]⟩
def o12 (P : Params) : Obj := ⟨(Value.type "list"), none, Data.seq #[] 2, #[]⟩
def o13 (P : Params) : Obj := ⟨(Value.type "range_iterator"), none, Data.fields #[(Value.int 65024 0), (Value.int 16 0), (Value.int 1 0)], #[]⟩
def tr2 (P : Params) (b : Bool) : BT := (.node (boot_o_0 P) (.node (boot_o_1 P) (.node (o4 P) (.node (boot_o_7 P) (.node (o0 P) .nil .nil) (.node (o11 P) .nil .nil)) (.node (o0 P) (.node (o7 P) .nil .nil) .nil)) (.node (boot_o_5 P) (.node (boot_o_9 P) (.node (o6 P) .nil .nil) (.node (o13 P) .nil .nil)) (.node (o2 P) (.node (o9 P) .nil .nil) .nil))) (.node (boot_o_2 P) (.node (boot_o_4 P) (.node (boot_o_8 P) (.node (o1 P) .nil .nil) (.node (o12 P) .nil .nil)) (.node (o5 P) (.node (o8 P) .nil .nil) .nil)) (.node (boot_o_6 P) (.node (boot_o_10 P) (.node (o0 P) .nil .nil) .nil) (.node (o3 P) (.node (o10 P) .nil .nil) .nil))))
def sT2 (w : World) (os : OsState) (b : Bool) : SharedT := ⟨tr2 w.params b, 26, {}, #[], {}, 216, os⟩
def stk1x0 (w : World) (os : OsState) : List Frame := match segF tabF pg w 11 (some (Value.ref 6)) 1 97 (sT1 w os (so w)) (piecesOf sts1 env0 cd0 ⟨10, 0, 10, 8⟩ fr0) with | some (_, t) => t.stack | none => []
def th1x0 (w : World) (os : OsState) : Thread := ⟨denF tabF (Code.builtin "list.extend.loop" ⟨[(Value.ref 24), (Value.ref 25), Value.none], []⟩), (Code.builtin "list.extend.loop" ⟨[(Value.ref 24), (Value.ref 25), Value.none], []⟩), ⟨11, 81, 11, 106⟩, [.ret (kf (stk1x0 w os) 0) none false [(Value.ref 24), (Value.ref 24), (Value.ref 23)] (Code.builtin "type.__call__" ⟨[(Value.type "list"), (Value.ref 23)], []⟩) ⟨11, 81, 11, 106⟩ [(Value.builtin "list.__init__"), (Value.ref 24), (Value.ref 23), (Value.builtin "list.__init__"), (Value.ref 24), (Value.ref 23)], .ret (kf (stk1x0 w os) 1) none false [(Value.ref 22)] cd0 ⟨11, 81, 11, 106⟩ [(Value.type "list"), (Value.ref 23)], topFrame ⟨0, 0, 0, 0⟩]⟩
theorem pc1x0 : ∀ (w : World) (os : OsState), segF tabF pg w 11 (some (Value.ref 6)) 1 97 (sT1 w os (so w)) (piecesOf sts1 env0 cd0 ⟨10, 0, 10, 8⟩ fr0) = some (sT2 w os (so w), th1x0 w os) := by
  refine byRow2 "set-order" ?_ ?_ <;> refine byRow2 "special-get-raises" ?_ ?_ <;> intro w os <;> kernel_rfl
def o14 (P : Params) : Obj := ⟨(Value.type "list"), none, Data.seq #[(Value.int 65024 216), (Value.int 65025 217), (Value.int 65026 218), (Value.int 65027 219), (Value.int 65028 220), (Value.int 65029 221), (Value.int 65030 222), (Value.int 65031 223), (Value.int 65032 224), (Value.int 65033 225), (Value.int 65034 226), (Value.int 65035 227), (Value.int 65036 228), (Value.int 65037 229), (Value.int 65038 230), (Value.int 65039 231)] 18, #[]⟩
def o15 (P : Params) : Obj := ⟨(Value.type "range_iterator"), none, Data.fields #[(Value.int 65040 0), (Value.int 0 0), (Value.int 1 0)], #[]⟩
def tr3 (P : Params) (b : Bool) : BT := (.node (boot_o_0 P) (.node (boot_o_1 P) (.node (o4 P) (.node (boot_o_7 P) (.node (o0 P) .nil .nil) (.node (o11 P) .nil .nil)) (.node (o0 P) (.node (o7 P) .nil .nil) .nil)) (.node (boot_o_5 P) (.node (boot_o_9 P) (.node (o6 P) .nil .nil) (.node (o15 P) .nil .nil)) (.node (o2 P) (.node (o9 P) .nil .nil) .nil))) (.node (boot_o_2 P) (.node (boot_o_4 P) (.node (boot_o_8 P) (.node (o1 P) .nil .nil) (.node (o14 P) .nil .nil)) (.node (o5 P) (.node (o8 P) .nil .nil) .nil)) (.node (boot_o_6 P) (.node (boot_o_10 P) (.node (o0 P) .nil .nil) .nil) (.node (o3 P) (.node (o10 P) .nil .nil) .nil))))
def sT3 (w : World) (os : OsState) (b : Bool) : SharedT := ⟨tr3 w.params b, 26, {}, #[], {}, 232, os⟩
theorem pc1x1 : ∀ (w : World) (os : OsState), segF tabF pg w 11 (some (Value.ref 6)) 1 272 (sT2 w os (so w)) (th1x0 w os) = some (sT3 w os (so w), th1x0 w os) := by
  intro w os; kernel_rfl
def o16 (P : Params) : Obj := ⟨(Value.type "StopIteration"), none, Data.fields #[(Value.ref 26), Value.none, Value.none, Value.none, (Value.bool false), Value.none], #[]⟩
def o17 (P : Params) : Obj := ⟨(Value.type "list"), none, Data.seq #[(Value.int 173 200), (Value.int 847 201), (Value.int 6150 202), (Value.int 6155 203), (Value.int 6156 204), (Value.int 6157 205), (Value.int 8203 206), (Value.int 8204 207), (Value.int 8205 208), (Value.int 8288 209), (Value.int 65279 210), (Value.int 65024 216), (Value.int 65025 217), (Value.int 65026 218), (Value.int 65027 219), (Value.int 65028 220), (Value.int 65029 221), (Value.int 65030 222), (Value.int 65031 223), (Value.int 65032 224), (Value.int 65033 225), (Value.int 65034 226), (Value.int 65035 227), (Value.int 65036 228), (Value.int 65037 229), (Value.int 65038 230), (Value.int 65039 231)] 0, #[]⟩
def o18 (b : Bool) : Obj := ⟨(Value.type "set"), none, Data.set #[] 0 ⟨7, #[], #[], 0, (!b), 0, true⟩, #[]⟩
def o19 (P : Params) : Obj := ⟨(Value.type "list_iterator"), none, Data.fields #[(Value.ref 28), (Value.int 0 0)], #[]⟩
def tr4 (P : Params) (b : Bool) : BT := (.node (boot_o_0 P) (.node (boot_o_1 P) (.node (o4 P) (.node (boot_o_7 P) (.node (o0 P) .nil .nil) (.node (o11 P) .nil .nil)) (.node (o0 P) (.node (o7 P) .nil .nil) (.node (o16 P) .nil .nil))) (.node (boot_o_5 P) (.node (boot_o_9 P) (.node (o6 P) .nil .nil) (.node (o15 P) .nil .nil)) (.node (o2 P) (.node (o9 P) .nil .nil) (.node (o18 b) .nil .nil)))) (.node (boot_o_2 P) (.node (boot_o_4 P) (.node (boot_o_8 P) (.node (o1 P) .nil .nil) (.node (o14 P) .nil .nil)) (.node (o5 P) (.node (o8 P) .nil .nil) (.node (o17 P) .nil .nil))) (.node (boot_o_6 P) (.node (boot_o_10 P) (.node (o0 P) .nil .nil) (.node (o0 P) .nil .nil)) (.node (o3 P) (.node (o10 P) .nil .nil) (.node (o19 P) .nil .nil)))))
def sT4 (w : World) (os : OsState) (b : Bool) : SharedT := ⟨tr4 w.params b, 31, {}, #[], {}, 232, os⟩
def stk1x2 (w : World) (os : OsState) : List Frame := match segF tabF pg w 11 (some (Value.ref 6)) 1 59 (sT3 w os (so w)) (th1x0 w os) with | some (_, t) => t.stack | none => []
def th1x2 (w : World) (os : OsState) : Thread := ⟨denF tabF (Code.builtin "set.update.loop" ⟨[(Value.ref 29), (Value.ref 30)], []⟩), (Code.builtin "set.update.loop" ⟨[(Value.ref 29), (Value.ref 30)], []⟩), ⟨11, 9, 11, 107⟩, [.ret (kf (stk1x2 w os) 0) none false [] (Code.builtin "set.__init__" ⟨[(Value.ref 29), (Value.ref 28)], []⟩) ⟨11, 9, 11, 107⟩ [(Value.ref 29), (Value.ref 30)], .ret (kf (stk1x2 w os) 1) none false [(Value.ref 29), (Value.ref 29), (Value.ref 28)] (Code.builtin "type.__call__" ⟨[(Value.type "set"), (Value.ref 28)], []⟩) ⟨11, 9, 11, 107⟩ [(Value.builtin "set.__init__"), (Value.ref 29), (Value.ref 28), (Value.builtin "set.__init__"), (Value.ref 29), (Value.ref 28)], .ret (kf (stk1x2 w os) 2) none false [] cd0 ⟨11, 9, 11, 107⟩ [(Value.type "set"), (Value.ref 28)], topFrame ⟨0, 0, 0, 0⟩]⟩
theorem pc1x2 : ∀ (w : World) (os : OsState), segF tabF pg w 11 (some (Value.ref 6)) 1 59 (sT3 w os (so w)) (th1x0 w os) = some (sT4 w os (so w), th1x2 w os) := by
  refine byRow2 "set-order" ?_ ?_ <;> refine byRow2 "special-get-raises" ?_ ?_ <;> intro w os <;> kernel_rfl
def o20 (b : Bool) : Obj := ⟨(Value.type "set"), none, Data.set #[(6150, (Value.int 6150 202)), (6155, (Value.int 6155 203)), (6156, (Value.int 6156 204)), (173, (Value.int 173 200)), (6157, (Value.int 6157 205)), (847, (Value.int 847 201))] 7 ⟨31, #[6, 11, 12, 13, 14, 15], #[], 0, (!b), 1, true⟩, #[]⟩
def o21 (P : Params) : Obj := ⟨(Value.type "list_iterator"), none, Data.fields #[(Value.ref 28), (Value.int 6 0)], #[]⟩
def tr5 (P : Params) (b : Bool) : BT := (.node (boot_o_0 P) (.node (boot_o_1 P) (.node (o4 P) (.node (boot_o_7 P) (.node (o0 P) .nil .nil) (.node (o11 P) .nil .nil)) (.node (o0 P) (.node (o7 P) .nil .nil) (.node (o16 P) .nil .nil))) (.node (boot_o_5 P) (.node (boot_o_9 P) (.node (o6 P) .nil .nil) (.node (o15 P) .nil .nil)) (.node (o2 P) (.node (o9 P) .nil .nil) (.node (o20 b) .nil .nil)))) (.node (boot_o_2 P) (.node (boot_o_4 P) (.node (boot_o_8 P) (.node (o1 P) .nil .nil) (.node (o14 P) .nil .nil)) (.node (o5 P) (.node (o8 P) .nil .nil) (.node (o17 P) .nil .nil))) (.node (boot_o_6 P) (.node (boot_o_10 P) (.node (o0 P) .nil .nil) (.node (o0 P) .nil .nil)) (.node (o3 P) (.node (o10 P) .nil .nil) (.node (o21 P) .nil .nil)))))
def sT5 (w : World) (os : OsState) (b : Bool) : SharedT := ⟨tr5 w.params b, 31, {}, #[], {}, 238, os⟩
abbrev pc1x3Q (b : Bool) (w : World) : Prop := ∀ os : OsState, segF tabF pg w 11 (some (Value.ref 6)) 1 122 (sT4 w os b) (th1x2 w os) = some (sT5 w os b, th1x2 w os)
theorem pc1x3ff (w : World) : pc1x3Q false (w.withFollow "special-get-raises" false) := by
  intro os; kernel_rfl
theorem pc1x3ft (w : World) : pc1x3Q false (w.withFollow "special-get-raises" true) := by
  intro os; kernel_rfl
theorem pc1x3tf (w : World) : pc1x3Q true (w.withFollow "special-get-raises" false) := by
  intro os; kernel_rfl
theorem pc1x3tt (w : World) : pc1x3Q true (w.withFollow "special-get-raises" true) := by
  intro os; kernel_rfl
theorem pc1x3b : ∀ (b : Bool) (w : World), pc1x3Q b w
  | false, w => byRow2 "special-get-raises" (P := pc1x3Q false) pc1x3ff pc1x3ft w
  | true, w => byRow2 "special-get-raises" (P := pc1x3Q true) pc1x3tf pc1x3tt w
theorem pc1x3 : ∀ (w : World) (os : OsState), segF tabF pg w 11 (some (Value.ref 6)) 1 122 (sT4 w os (so w)) (th1x2 w os) = some (sT5 w os (so w), th1x2 w os) := fun w os => pc1x3b (so w) w os
def o22 (b : Bool) : Obj := ⟨(Value.type "set"), none, Data.set #[(8288, (Value.int 8288 209)), (6150, (Value.int 6150 202)), (6155, (Value.int 6155 203)), (6156, (Value.int 6156 204)), (173, (Value.int 173 200)), (6157, (Value.int 6157 205)), (847, (Value.int 847 201)), (8203, (Value.int 8203 206)), (8204, (Value.int 8204 207)), (8205, (Value.int 8205 208))] 11 ⟨31, #[0, 6, 11, 12, 13, 14, 15, 16, 17, 18], #[], 0, (!b), 1, true⟩, #[]⟩
def o23 (P : Params) : Obj := ⟨(Value.type "list_iterator"), none, Data.fields #[(Value.ref 28), (Value.int 10 0)], #[]⟩
def tr6 (P : Params) (b : Bool) : BT := (.node (boot_o_0 P) (.node (boot_o_1 P) (.node (o4 P) (.node (boot_o_7 P) (.node (o0 P) .nil .nil) (.node (o11 P) .nil .nil)) (.node (o0 P) (.node (o7 P) .nil .nil) (.node (o16 P) .nil .nil))) (.node (boot_o_5 P) (.node (boot_o_9 P) (.node (o6 P) .nil .nil) (.node (o15 P) .nil .nil)) (.node (o2 P) (.node (o9 P) .nil .nil) (.node (o22 b) .nil .nil)))) (.node (boot_o_2 P) (.node (boot_o_4 P) (.node (boot_o_8 P) (.node (o1 P) .nil .nil) (.node (o14 P) .nil .nil)) (.node (o5 P) (.node (o8 P) .nil .nil) (.node (o17 P) .nil .nil))) (.node (boot_o_6 P) (.node (boot_o_10 P) (.node (o0 P) .nil .nil) (.node (o0 P) .nil .nil)) (.node (o3 P) (.node (o10 P) .nil .nil) (.node (o23 P) .nil .nil)))))
def sT6 (w : World) (os : OsState) (b : Bool) : SharedT := ⟨tr6 w.params b, 31, {}, #[], {}, 242, os⟩
abbrev pc1x4Q (b : Bool) (w : World) : Prop := ∀ os : OsState, segF tabF pg w 11 (some (Value.ref 6)) 1 80 (sT5 w os b) (th1x2 w os) = some (sT6 w os b, th1x2 w os)
theorem pc1x4ff (w : World) : pc1x4Q false (w.withFollow "special-get-raises" false) := by
  intro os; kernel_rfl
theorem pc1x4ft (w : World) : pc1x4Q false (w.withFollow "special-get-raises" true) := by
  intro os; kernel_rfl
theorem pc1x4tf (w : World) : pc1x4Q true (w.withFollow "special-get-raises" false) := by
  intro os; kernel_rfl
theorem pc1x4tt (w : World) : pc1x4Q true (w.withFollow "special-get-raises" true) := by
  intro os; kernel_rfl
theorem pc1x4b : ∀ (b : Bool) (w : World), pc1x4Q b w
  | false, w => byRow2 "special-get-raises" (P := pc1x4Q false) pc1x4ff pc1x4ft w
  | true, w => byRow2 "special-get-raises" (P := pc1x4Q true) pc1x4tf pc1x4tt w
theorem pc1x4 : ∀ (w : World) (os : OsState), segF tabF pg w 11 (some (Value.ref 6)) 1 80 (sT5 w os (so w)) (th1x2 w os) = some (sT6 w os (so w), th1x2 w os) := fun w os => pc1x4b (so w) w os
def o24 (b : Bool) : Obj := ⟨(Value.type "set"), none, Data.set #[(8288, (Value.int 8288 209)), (65024, (Value.int 65024 216)), (65025, (Value.int 65025 217)), (65026, (Value.int 65026 218)), (6150, (Value.int 6150 202)), (6155, (Value.int 6155 203)), (6156, (Value.int 6156 204)), (173, (Value.int 173 200)), (6157, (Value.int 6157 205)), (847, (Value.int 847 201)), (8203, (Value.int 8203 206)), (8204, (Value.int 8204 207)), (8205, (Value.int 8205 208)), (65279, (Value.int 65279 210))] 15 ⟨31, #[0, 1, 2, 3, 6, 11, 12, 13, 14, 15, 16, 17, 18, 31], #[], 0, (!b), 1, true⟩, #[]⟩
def o25 (P : Params) : Obj := ⟨(Value.type "list_iterator"), none, Data.fields #[(Value.ref 28), (Value.int 14 0)], #[]⟩
def tr7 (P : Params) (b : Bool) : BT := (.node (boot_o_0 P) (.node (boot_o_1 P) (.node (o4 P) (.node (boot_o_7 P) (.node (o0 P) .nil .nil) (.node (o11 P) .nil .nil)) (.node (o0 P) (.node (o7 P) .nil .nil) (.node (o16 P) .nil .nil))) (.node (boot_o_5 P) (.node (boot_o_9 P) (.node (o6 P) .nil .nil) (.node (o15 P) .nil .nil)) (.node (o2 P) (.node (o9 P) .nil .nil) (.node (o24 b) .nil .nil)))) (.node (boot_o_2 P) (.node (boot_o_4 P) (.node (boot_o_8 P) (.node (o1 P) .nil .nil) (.node (o14 P) .nil .nil)) (.node (o5 P) (.node (o8 P) .nil .nil) (.node (o17 P) .nil .nil))) (.node (boot_o_6 P) (.node (boot_o_10 P) (.node (o0 P) .nil .nil) (.node (o0 P) .nil .nil)) (.node (o3 P) (.node (o10 P) .nil .nil) (.node (o25 P) .nil .nil)))))
def sT7 (w : World) (os : OsState) (b : Bool) : SharedT := ⟨tr7 w.params b, 31, {}, #[], {}, 246, os⟩
abbrev pc1x5Q (b : Bool) (w : World) : Prop := ∀ os : OsState, segF tabF pg w 11 (some (Value.ref 6)) 1 80 (sT6 w os b) (th1x2 w os) = some (sT7 w os b, th1x2 w os)
theorem pc1x5ff (w : World) : pc1x5Q false (w.withFollow "special-get-raises" false) := by
  intro os; kernel_rfl
theorem pc1x5ft (w : World) : pc1x5Q false (w.withFollow "special-get-raises" true) := by
  intro os; kernel_rfl
theorem pc1x5tf (w : World) : pc1x5Q true (w.withFollow "special-get-raises" false) := by
  intro os; kernel_rfl
theorem pc1x5tt (w : World) : pc1x5Q true (w.withFollow "special-get-raises" true) := by
  intro os; kernel_rfl
theorem pc1x5b : ∀ (b : Bool) (w : World), pc1x5Q b w
  | false, w => byRow2 "special-get-raises" (P := pc1x5Q false) pc1x5ff pc1x5ft w
  | true, w => byRow2 "special-get-raises" (P := pc1x5Q true) pc1x5tf pc1x5tt w
theorem pc1x5 : ∀ (w : World) (os : OsState), segF tabF pg w 11 (some (Value.ref 6)) 1 80 (sT6 w os (so w)) (th1x2 w os) = some (sT7 w os (so w), th1x2 w os) := fun w os => pc1x5b (so w) w os
def o26 (b : Bool) : Obj := ⟨(Value.type "set"), none, Data.set #[(8288, (Value.int 8288 209)), (65024, (Value.int 65024 216)), (65025, (Value.int 65025 217)), (65026, (Value.int 65026 218)), (65027, (Value.int 65027 219)), (65028, (Value.int 65028 220)), (6150, (Value.int 6150 202)), (65029, (Value.int 65029 221)), (65030, (Value.int 65030 222)), (6155, (Value.int 6155 203)), (6156, (Value.int 6156 204)), (173, (Value.int 173 200)), (6157, (Value.int 6157 205)), (847, (Value.int 847 201)), (8203, (Value.int 8203 206)), (8204, (Value.int 8204 207)), (8205, (Value.int 8205 208)), (65279, (Value.int 65279 210))] 19 ⟨31, #[0, 1, 2, 3, 4, 5, 6, 7, 8, 11, 12, 13, 14, 15, 16, 17, 18, 31], #[], 0, (!b), 1, true⟩, #[]⟩
def o27 (P : Params) : Obj := ⟨(Value.type "list_iterator"), none, Data.fields #[(Value.ref 28), (Value.int 18 0)], #[]⟩
def tr8 (P : Params) (b : Bool) : BT := (.node (boot_o_0 P) (.node (boot_o_1 P) (.node (o4 P) (.node (boot_o_7 P) (.node (o0 P) .nil .nil) (.node (o11 P) .nil .nil)) (.node (o0 P) (.node (o7 P) .nil .nil) (.node (o16 P) .nil .nil))) (.node (boot_o_5 P) (.node (boot_o_9 P) (.node (o6 P) .nil .nil) (.node (o15 P) .nil .nil)) (.node (o2 P) (.node (o9 P) .nil .nil) (.node (o26 b) .nil .nil)))) (.node (boot_o_2 P) (.node (boot_o_4 P) (.node (boot_o_8 P) (.node (o1 P) .nil .nil) (.node (o14 P) .nil .nil)) (.node (o5 P) (.node (o8 P) .nil .nil) (.node (o17 P) .nil .nil))) (.node (boot_o_6 P) (.node (boot_o_10 P) (.node (o0 P) .nil .nil) (.node (o0 P) .nil .nil)) (.node (o3 P) (.node (o10 P) .nil .nil) (.node (o27 P) .nil .nil)))))
def sT8 (w : World) (os : OsState) (b : Bool) : SharedT := ⟨tr8 w.params b, 31, {}, #[], {}, 250, os⟩
abbrev pc1x6Q (b : Bool) (w : World) : Prop := ∀ os : OsState, segF tabF pg w 11 (some (Value.ref 6)) 1 80 (sT7 w os b) (th1x2 w os) = some (sT8 w os b, th1x2 w os)
theorem pc1x6ff (w : World) : pc1x6Q false (w.withFollow "special-get-raises" false) := by
  intro os; kernel_rfl
theorem pc1x6ft (w : World) : pc1x6Q false (w.withFollow "special-get-raises" true) := by
  intro os; kernel_rfl
theorem pc1x6tf (w : World) : pc1x6Q true (w.withFollow "special-get-raises" false) := by
  intro os; kernel_rfl
theorem pc1x6tt (w : World) : pc1x6Q true (w.withFollow "special-get-raises" true) := by
  intro os; kernel_rfl
theorem pc1x6b : ∀ (b : Bool) (w : World), pc1x6Q b w
  | false, w => byRow2 "special-get-raises" (P := pc1x6Q false) pc1x6ff pc1x6ft w
  | true, w => byRow2 "special-get-raises" (P := pc1x6Q true) pc1x6tf pc1x6tt w
theorem pc1x6 : ∀ (w : World) (os : OsState), segF tabF pg w 11 (some (Value.ref 6)) 1 80 (sT7 w os (so w)) (th1x2 w os) = some (sT8 w os (so w), th1x2 w os) := fun w os => pc1x6b (so w) w os
def o28 (b : Bool) : Obj := ⟨(Value.type "set"), none, Data.set #[(65024, (Value.int 65024 216)), (65025, (Value.int 65025 217)), (65026, (Value.int 65026 218)), (65027, (Value.int 65027 219)), (65028, (Value.int 65028 220)), (65029, (Value.int 65029 221)), (6150, (Value.int 6150 202)), (65030, (Value.int 65030 222)), (65031, (Value.int 65031 223)), (65032, (Value.int 65032 224)), (65033, (Value.int 65033 225)), (6155, (Value.int 6155 203)), (6156, (Value.int 6156 204)), (6157, (Value.int 6157 205)), (8203, (Value.int 8203 206)), (8204, (Value.int 8204 207)), (8205, (Value.int 8205 208)), (65034, (Value.int 65034 226)), (173, (Value.int 173 200)), (847, (Value.int 847 201)), (8288, (Value.int 8288 209)), (65279, (Value.int 65279 210))] 24 ⟨127, #[0, 1, 2, 3, 4, 5, 6, 7, 8, 9, 10, 11, 12, 13, 14, 15, 16, 17, 45, 79, 96, 127], #[], 0, (!b), 2, true⟩, #[]⟩
def o29 (P : Params) : Obj := ⟨(Value.type "list_iterator"), none, Data.fields #[(Value.ref 28), (Value.int 22 0)], #[]⟩
def tr9 (P : Params) (b : Bool) : BT := (.node (boot_o_0 P) (.node (boot_o_1 P) (.node (o4 P) (.node (boot_o_7 P) (.node (o0 P) .nil .nil) (.node (o11 P) .nil .nil)) (.node (o0 P) (.node (o7 P) .nil .nil) (.node (o16 P) .nil .nil))) (.node (boot_o_5 P) (.node (boot_o_9 P) (.node (o6 P) .nil .nil) (.node (o15 P) .nil .nil)) (.node (o2 P) (.node (o9 P) .nil .nil) (.node (o28 b) .nil .nil)))) (.node (boot_o_2 P) (.node (boot_o_4 P) (.node (boot_o_8 P) (.node (o1 P) .nil .nil) (.node (o14 P) .nil .nil)) (.node (o5 P) (.node (o8 P) .nil .nil) (.node (o17 P) .nil .nil))) (.node (boot_o_6 P) (.node (boot_o_10 P) (.node (o0 P) .nil .nil) (.node (o0 P) .nil .nil)) (.node (o3 P) (.node (o10 P) .nil .nil) (.node (o29 P) .nil .nil)))))
def sT9 (w : World) (os : OsState) (b : Bool) : SharedT := ⟨tr9 w.params b, 31, {}, #[], {}, 254, os⟩
abbrev pc1x7Q (b : Bool) (w : World) : Prop := ∀ os : OsState, segF tabF pg w 11 (some (Value.ref 6)) 1 82 (sT8 w os b) (th1x2 w os) = some (sT9 w os b, th1x2 w os)
theorem pc1x7ff (w : World) : pc1x7Q false (w.withFollow "special-get-raises" false) := by
  intro os; kernel_rfl
theorem pc1x7ft (w : World) : pc1x7Q false (w.withFollow "special-get-raises" true) := by
  intro os; kernel_rfl
theorem pc1x7tf (w : World) : pc1x7Q true (w.withFollow "special-get-raises" false) := by
  intro os; kernel_rfl
theorem pc1x7tt (w : World) : pc1x7Q true (w.withFollow "special-get-raises" true) := by
  intro os; kernel_rfl
theorem pc1x7b : ∀ (b : Bool) (w : World), pc1x7Q b w
  | false, w => byRow2 "special-get-raises" (P := pc1x7Q false) pc1x7ff pc1x7ft w
  | true, w => byRow2 "special-get-raises" (P := pc1x7Q true) pc1x7tf pc1x7tt w
theorem pc1x7 : ∀ (w : World) (os : OsState), segF tabF pg w 11 (some (Value.ref 6)) 1 82 (sT8 w os (so w)) (th1x2 w os) = some (sT9 w os (so w), th1x2 w os) := fun w os => pc1x7b (so w) w os
def o30 (b : Bool) : Obj := ⟨(Value.type "set"), none, Data.set #[(65024, (Value.int 65024 216)), (65025, (Value.int 65025 217)), (65026, (Value.int 65026 218)), (65027, (Value.int 65027 219)), (65028, (Value.int 65028 220)), (65029, (Value.int 65029 221)), (6150, (Value.int 6150 202)), (65030, (Value.int 65030 222)), (65031, (Value.int 65031 223)), (65032, (Value.int 65032 224)), (65033, (Value.int 65033 225)), (6155, (Value.int 6155 203)), (6156, (Value.int 6156 204)), (6157, (Value.int 6157 205)), (8203, (Value.int 8203 206)), (8204, (Value.int 8204 207)), (8205, (Value.int 8205 208)), (65034, (Value.int 65034 226)), (65035, (Value.int 65035 227)), (65036, (Value.int 65036 228)), (65037, (Value.int 65037 229)), (65038, (Value.int 65038 230)), (173, (Value.int 173 200)), (847, (Value.int 847 201)), (8288, (Value.int 8288 209)), (65279, (Value.int 65279 210))] 28 ⟨127, #[0, 1, 2, 3, 4, 5, 6, 7, 8, 9, 10, 11, 12, 13, 14, 15, 16, 17, 18, 19, 20, 21, 45, 79, 96, 127], #[], 0, (!b), 2, true⟩, #[]⟩
def o31 (P : Params) : Obj := ⟨(Value.type "list_iterator"), none, Data.fields #[(Value.ref 28), (Value.int 26 0)], #[]⟩
def tr10 (P : Params) (b : Bool) : BT := (.node (boot_o_0 P) (.node (boot_o_1 P) (.node (o4 P) (.node (boot_o_7 P) (.node (o0 P) .nil .nil) (.node (o11 P) .nil .nil)) (.node (o0 P) (.node (o7 P) .nil .nil) (.node (o16 P) .nil .nil))) (.node (boot_o_5 P) (.node (boot_o_9 P) (.node (o6 P) .nil .nil) (.node (o15 P) .nil .nil)) (.node (o2 P) (.node (o9 P) .nil .nil) (.node (o30 b) .nil .nil)))) (.node (boot_o_2 P) (.node (boot_o_4 P) (.node (boot_o_8 P) (.node (o1 P) .nil .nil) (.node (o14 P) .nil .nil)) (.node (o5 P) (.node (o8 P) .nil .nil) (.node (o17 P) .nil .nil))) (.node (boot_o_6 P) (.node (boot_o_10 P) (.node (o0 P) .nil .nil) (.node (o0 P) .nil .nil)) (.node (o3 P) (.node (o10 P) .nil .nil) (.node (o31 P) .nil .nil)))))
def sT10 (w : World) (os : OsState) (b : Bool) : SharedT := ⟨tr10 w.params b, 31, {}, #[], {}, 258, os⟩
abbrev pc1x8Q (b : Bool) (w : World) : Prop := ∀ os : OsState, segF tabF pg w 11 (some (Value.ref 6)) 1 80 (sT9 w os b) (th1x2 w os) = some (sT10 w os b, th1x2 w os)
theorem pc1x8ff (w : World) : pc1x8Q false (w.withFollow "special-get-raises" false) := by
  intro os; kernel_rfl
theorem pc1x8ft (w : World) : pc1x8Q false (w.withFollow "special-get-raises" true) := by
  intro os; kernel_rfl
theorem pc1x8tf (w : World) : pc1x8Q true (w.withFollow "special-get-raises" false) := by
  intro os; kernel_rfl
theorem pc1x8tt (w : World) : pc1x8Q true (w.withFollow "special-get-raises" true) := by
  intro os; kernel_rfl
theorem pc1x8b : ∀ (b : Bool) (w : World), pc1x8Q b w
  | false, w => byRow2 "special-get-raises" (P := pc1x8Q false) pc1x8ff pc1x8ft w
  | true, w => byRow2 "special-get-raises" (P := pc1x8Q true) pc1x8tf pc1x8tt w
theorem pc1x8 : ∀ (w : World) (os : OsState), segF tabF pg w 11 (some (Value.ref 6)) 1 80 (sT9 w os (so w)) (th1x2 w os) = some (sT10 w os (so w), th1x2 w os) := fun w os => pc1x8b (so w) w os
def o32 (b : Bool) : Obj := ⟨(Value.type "set"), none, Data.set #[(65024, (Value.int 65024 216)), (65025, (Value.int 65025 217)), (65026, (Value.int 65026 218)), (65027, (Value.int 65027 219)), (65028, (Value.int 65028 220)), (65029, (Value.int 65029 221)), (6150, (Value.int 6150 202)), (65030, (Value.int 65030 222)), (65031, (Value.int 65031 223)), (65032, (Value.int 65032 224)), (65033, (Value.int 65033 225)), (6155, (Value.int 6155 203)), (6156, (Value.int 6156 204)), (6157, (Value.int 6157 205)), (8203, (Value.int 8203 206)), (8204, (Value.int 8204 207)), (8205, (Value.int 8205 208)), (65034, (Value.int 65034 226)), (65035, (Value.int 65035 227)), (65036, (Value.int 65036 228)), (65037, (Value.int 65037 229)), (65038, (Value.int 65038 230)), (65039, (Value.int 65039 231)), (173, (Value.int 173 200)), (847, (Value.int 847 201)), (8288, (Value.int 8288 209)), (65279, (Value.int 65279 210))] 29 ⟨127, #[0, 1, 2, 3, 4, 5, 6, 7, 8, 9, 10, 11, 12, 13, 14, 15, 16, 17, 18, 19, 20, 21, 22, 45, 79, 96, 127], #[], 0, (!b), 2, true⟩, #[]⟩
def o33 (P : Params) : Obj := ⟨(Value.type "list_iterator"), none, Data.fields #[(Value.ref 28), (Value.int 27 0)], #[]⟩
def tr11 (P : Params) (b : Bool) : BT := (.node (boot_o_0 P) (.node (boot_o_1 P) (.node (o4 P) (.node (boot_o_7 P) (.node (o0 P) .nil .nil) (.node (o11 P) .nil .nil)) (.node (o0 P) (.node (o7 P) .nil .nil) (.node (o16 P) .nil .nil))) (.node (boot_o_5 P) (.node (boot_o_9 P) (.node (o6 P) .nil .nil) (.node (o15 P) .nil .nil)) (.node (o2 P) (.node (o9 P) .nil .nil) (.node (o32 b) .nil .nil)))) (.node (boot_o_2 P) (.node (boot_o_4 P) (.node (boot_o_8 P) (.node (o1 P) .nil .nil) (.node (o14 P) .nil .nil)) (.node (o5 P) (.node (o8 P) .nil .nil) (.node (o17 P) .nil .nil))) (.node (boot_o_6 P) (.node (boot_o_10 P) (.node (o0 P) .nil .nil) (.node (o0 P) .nil .nil)) (.node (o3 P) (.node (o10 P) .nil .nil) (.node (o33 P) .nil .nil)))))
def sT11 (w : World) (os : OsState) (b : Bool) : SharedT := ⟨tr11 w.params b, 31, {}, #[], {}, 259, os⟩
abbrev pc1x9Q (b : Bool) (w : World) : Prop := ∀ os : OsState, segF tabF pg w 11 (some (Value.ref 6)) 1 20 (sT10 w os b) (th1x2 w os) = some (sT11 w os b, th1x2 w os)
theorem pc1x9ff (w : World) : pc1x9Q false (w.withFollow "special-get-raises" false) := by
  intro os; kernel_rfl
theorem pc1x9ft (w : World) : pc1x9Q false (w.withFollow "special-get-raises" true) := by
  intro os; kernel_rfl
theorem pc1x9tf (w : World) : pc1x9Q true (w.withFollow "special-get-raises" false) := by
  intro os; kernel_rfl
theorem pc1x9tt (w : World) : pc1x9Q true (w.withFollow "special-get-raises" true) := by
  intro os; kernel_rfl
theorem pc1x9b : ∀ (b : Bool) (w : World), pc1x9Q b w
  | false, w => byRow2 "special-get-raises" (P := pc1x9Q false) pc1x9ff pc1x9ft w
  | true, w => byRow2 "special-get-raises" (P := pc1x9Q true) pc1x9tf pc1x9tt w
theorem pc1x9 : ∀ (w : World) (os : OsState), segF tabF pg w 11 (some (Value.ref 6)) 1 20 (sT10 w os (so w)) (th1x2 w os) = some (sT11 w os (so w), th1x2 w os) := fun w os => pc1x9b (so w) w os
def o34 (P : Params) : Obj := ⟨(Value.type "dict"), none, Data.dict #[⟨PyData.keyHash P (Str.ofString "__name__"), (Value.str (Str.ofString "__name__") 165), (Value.str (Str.ofString "cpy313.stringprep") 198)⟩, ⟨PyData.keyHash P (Str.ofString "__doc__"), (Value.str (Str.ofString "__doc__") 166), Value.none⟩, ⟨PyData.keyHash P (Str.ofString "__package__"), (Value.str (Str.ofString "__package__") 167), Value.none⟩, ⟨PyData.keyHash P (Str.ofString "__loader__"), (Value.str (Str.ofString "__loader__") 168), (ldV P)⟩, ⟨PyData.keyHash P (Str.ofString "__spec__"), (Value.str (Str.ofString "__spec__") 169), Value.none⟩, ⟨PyData.keyHash P (Str.ofString "__annotations__"), (Value.str (Str.ofString "__annotations__") 170), (Value.ref 6)⟩, ⟨PyData.keyHash P (Str.ofString "__builtins__"), (Value.str (Str.ofString "__builtins__") 171), (Value.ref 4)⟩, ⟨PyData.keyHash P (Str.ofString "__file__"), (Value.str (Str.ofString "__file__") 173), (Value.str (Str.ofString "/claim/cut.py") 172)⟩, ⟨PyData.keyHash P (Str.ofString "__cached__"), (Value.str (Str.ofString "__cached__") 174), Value.none⟩, ⟨PyData.keyHash P (Str.ofString "_parse_varint"), (Value.str (Str.ofString "_parse_varint") 197), (Value.ref 21)⟩, ⟨PyData.keyHash P (Str.ofString "b1_set"), (Value.str (Str.ofString "b1_set") 259), (Value.ref 29)⟩] 11, #[]⟩
def o35 (P : Params) : Obj := ⟨(Value.type "list_iterator"), none, Data.fields #[Value.none, (Value.int 27 0)], #[]⟩
def o36 (P : Params) : Obj := ⟨(Value.type "StopIteration"), none, Data.fields #[(Value.ref 31), Value.none, Value.none, Value.none, (Value.bool false), Value.none], #[]⟩
def tr12 (P : Params) (b : Bool) : BT := (.node (boot_o_0 P) (.node (boot_o_1 P) (.node (o34 P) (.node (boot_o_7 P) (.node (o0 P) (.node (o0 P) .nil .nil) .nil) (.node (o11 P) .nil .nil)) (.node (o0 P) (.node (o7 P) .nil .nil) (.node (o16 P) .nil .nil))) (.node (boot_o_5 P) (.node (boot_o_9 P) (.node (o6 P) .nil .nil) (.node (o15 P) .nil .nil)) (.node (o2 P) (.node (o9 P) .nil .nil) (.node (o32 b) .nil .nil)))) (.node (boot_o_2 P) (.node (boot_o_4 P) (.node (boot_o_8 P) (.node (o1 P) (.node (o36 P) .nil .nil) .nil) (.node (o14 P) .nil .nil)) (.node (o5 P) (.node (o8 P) .nil .nil) (.node (o17 P) .nil .nil))) (.node (boot_o_6 P) (.node (boot_o_10 P) (.node (o0 P) .nil .nil) (.node (o0 P) .nil .nil)) (.node (o3 P) (.node (o10 P) .nil .nil) (.node (o35 P) .nil .nil)))))
def sT12 (w : World) (os : OsState) (b : Bool) : SharedT := ⟨tr12 w.params b, 33, {}, #[], {}, 260, os⟩
theorem pc1e : ∀ (w : World) (os : OsState), runF tabF pg w 11 (some (Value.ref 6)) 1 27 (sT11 w os (so w)) (th1x2 w os) = some (.next, sT12 w os (so w), cd0, ⟨11, 0, 11, 6⟩) := by
  refine byRow2 "set-order" ?_ ?_ <;> refine byRow2 "special-get-raises" ?_ ?_ <;> intro w os <;> kernel_rfl
theorem pc1 : ∀ (w : World) (os : OsState), segRun treeTable pg w 11 (some (Value.ref 6)) 1 (97 + (272 + (59 + (122 + (80 + (80 + (80 + (82 + (80 + (20 + 27)))))))))) (sT1 w os (so w)).abs (piecesOf sts1 env0 cd0 ⟨10, 0, 10, 8⟩ fr0) = some (.next, (sT12 w os (so w)).abs, cd0, ⟨11, 0, 11, 6⟩) := fun w os => (seg_go (goOf (pc1x0 w os)) (seg_go (goOf (pc1x1 w os)) (seg_go (goOf (pc1x2 w os)) (seg_go (goOf (pc1x3 w os)) (seg_go (goOf (pc1x4 w os)) (seg_go (goOf (pc1x5 w os)) (seg_go (goOf (pc1x6 w os)) (seg_go (goOf (pc1x7 w os)) (seg_go (goOf (pc1x8 w os)) (seg_go (goOf (pc1x9 w os)) (runOf (pc1e w os))))))))))))
def sts2 : List Stmt := ((behindTheImports pg).drop 4).take 2
def o37 (P : Params) : Obj := ⟨(Value.type "dict"), none, Data.dict #[⟨PyData.keyHash P (Str.ofString "__name__"), (Value.str (Str.ofString "__name__") 165), (Value.str (Str.ofString "cpy313.stringprep") 198)⟩, ⟨PyData.keyHash P (Str.ofString "__doc__"), (Value.str (Str.ofString "__doc__") 166), Value.none⟩, ⟨PyData.keyHash P (Str.ofString "__package__"), (Value.str (Str.ofString "__package__") 167), Value.none⟩, ⟨PyData.keyHash P (Str.ofString "__loader__"), (Value.str (Str.ofString "__loader__") 168), (ldV P)⟩, ⟨PyData.keyHash P (Str.ofString "__spec__"), (Value.str (Str.ofString "__spec__") 169), Value.none⟩, ⟨PyData.keyHash P (Str.ofString "__annotations__"), (Value.str (Str.ofString "__annotations__") 170), (Value.ref 6)⟩, ⟨PyData.keyHash P (Str.ofString "__builtins__"), (Value.str (Str.ofString "__builtins__") 171), (Value.ref 4)⟩, ⟨PyData.keyHash P (Str.ofString "__file__"), (Value.str (Str.ofString "__file__") 173), (Value.str (Str.ofString "/claim/cut.py") 172)⟩, ⟨PyData.keyHash P (Str.ofString "__cached__"), (Value.str (Str.ofString "__cached__") 174), Value.none⟩, ⟨PyData.keyHash P (Str.ofString "_parse_varint"), (Value.str (Str.ofString "_parse_varint") 197), (Value.ref 21)⟩, ⟨PyData.keyHash P (Str.ofString "b1_set"), (Value.str (Str.ofString "b1_set") 259), (Value.ref 29)⟩, ⟨PyData.keyHash P (Str.ofString "in_table_b1"), (Value.str (Str.ofString "in_table_b1") 266), (Value.ref 39)⟩, ⟨PyData.keyHash P (Str.ofString "in_table_c4"), (Value.str (Str.ofString "in_table_c4") 274), (Value.ref 46)⟩] 13, #[]⟩
def o38 (P : Params) : Obj := ⟨Value.none, none, Data.fields #[(Value.int 2 0), (Value.int 0 0), (Value.ref 20), (Value.int 12 0), (Value.int 0 0), (Value.ref 38), (Value.int 14 0), (Value.int 0 0), (Value.ref 45)], #[]⟩
def o39 (P : Params) : Obj := ⟨(Value.type "tuple"), none, Data.seq #[(Value.str (Str.ofString "code") 263)] 0, #[]⟩
def o40 (P : Params) : Obj := ⟨Value.none, none, Data.func ⟨(Str.ofString "in_table_b1"), (Str.ofString "in_table_b1"), stA 4, .stmts (stB 4), stS 4, 0, [], Value.none, Value.none, Value.none, Value.none, none, Value.none, Value.none, 0⟩, #[]⟩
def o41 (P : Params) : Obj := ⟨(Value.type "code"), none, Data.fields #[(Value.str (Str.ofString "in_table_b1") 260), (Value.str (Str.ofString "in_table_b1") 261), (Value.str (Str.ofString "/claim/cut.py") 262), (Value.int 12 0), (Value.int 1 0), (Value.int 0 0), (Value.int 0 0), (Value.int 3 0), (Value.ref 33), (Value.bool true), (Value.int 181 0), (Value.ref 34), Value.none, (Value.ref 35), (Value.ref 36), (Value.ref 37), (Value.int 264 0), (Value.int 12 0), (Value.str (Str.ofString "/claim/cut.py") 265)], #[]⟩
def o42 (P : Params) : Obj := ⟨(Value.type "function"), none, Data.func ⟨(Str.ofString "in_table_b1"), (Str.ofString "in_table_b1"), stA 4, .stmts (stB 4), stS 4, 3, [], Value.none, Value.none, Value.none, (Value.str (Str.ofString "cpy313.stringprep") 198), none, (Value.ref 38), Value.none, 0⟩, #[]⟩
def o43 (P : Params) : Obj := ⟨(Value.type "tuple"), none, Data.seq #[(Value.str (Str.ofString "code") 270), (Value.str (Str.ofString "c") 271)] 0, #[]⟩
def o44 (P : Params) : Obj := ⟨Value.none, none, Data.func ⟨(Str.ofString "in_table_c4"), (Str.ofString "in_table_c4"), stA 5, .stmts (stB 5), stS 5, 0, [], Value.none, Value.none, Value.none, Value.none, none, Value.none, Value.none, 0⟩, #[]⟩
def o45 (P : Params) : Obj := ⟨(Value.type "code"), none, Data.fields #[(Value.str (Str.ofString "in_table_c4") 267), (Value.str (Str.ofString "in_table_c4") 268), (Value.str (Str.ofString "/claim/cut.py") 269), (Value.int 14 0), (Value.int 1 0), (Value.int 0 0), (Value.int 0 0), (Value.int 3 0), (Value.ref 40), (Value.bool true), (Value.int 181 0), (Value.ref 41), Value.none, (Value.ref 42), (Value.ref 43), (Value.ref 44), (Value.int 272 0), (Value.int 14 0), (Value.str (Str.ofString "/claim/cut.py") 273)], #[]⟩
def o46 (P : Params) : Obj := ⟨(Value.type "function"), none, Data.func ⟨(Str.ofString "in_table_c4"), (Str.ofString "in_table_c4"), stA 5, .stmts (stB 5), stS 5, 3, [], Value.none, Value.none, Value.none, (Value.str (Str.ofString "cpy313.stringprep") 198), none, (Value.ref 45), Value.none, 0⟩, #[]⟩
def tr13 (P : Params) (b : Bool) : BT := (.node (boot_o_0 P) (.node (boot_o_1 P) (.node (o37 P) (.node (boot_o_7 P) (.node (o0 P) (.node (o0 P) .nil .nil) .nil) (.node (o11 P) (.node (o42 P) .nil .nil) .nil)) (.node (o0 P) (.node (o7 P) (.node (o39 P) .nil .nil) .nil) (.node (o16 P) (.node (o0 P) .nil .nil) .nil))) (.node (boot_o_5 P) (.node (boot_o_9 P) (.node (o6 P) (.node (o0 P) .nil .nil) .nil) (.node (o15 P) (.node (o1 P) .nil .nil) .nil)) (.node (o2 P) (.node (o9 P) (.node (o40 P) .nil .nil) .nil) (.node (o32 b) (.node (o45 P) .nil .nil) .nil)))) (.node (boot_o_2 P) (.node (boot_o_4 P) (.node (boot_o_8 P) (.node (o1 P) (.node (o36 P) .nil .nil) .nil) (.node (o14 P) (.node (o0 P) .nil .nil) .nil)) (.node (o38 P) (.node (o8 P) (.node (o0 P) .nil .nil) .nil) (.node (o17 P) (.node (o44 P) .nil .nil) .nil))) (.node (boot_o_6 P) (.node (boot_o_10 P) (.node (o0 P) (.node (o1 P) .nil .nil) .nil) (.node (o0 P) (.node (o43 P) .nil .nil) .nil)) (.node (o3 P) (.node (o10 P) (.node (o41 P) .nil .nil) .nil) (.node (o35 P) (.node (o46 P) .nil .nil) .nil)))))
def sT13 (w : World) (os : OsState) (b : Bool) : SharedT := ⟨tr13 w.params b, 47, {}, #[], {}, 275, os⟩
theorem pc2r : ∀ (w : World) (os : OsState), runF tabF pg w 11 (some (Value.ref 6)) 1 60 (sT12 w os (so w)) (piecesOf sts2 env0 cd0 ⟨11, 0, 11, 6⟩ fr0) = some (.next, sT13 w os (so w), cd0, ⟨14, 0, 20, 46⟩) := by
  intro w os; kernel_rfl
theorem pc2 : ∀ (w : World) (os : OsState), segRun treeTable pg w 11 (some (Value.ref 6)) 1 60 (sT12 w os (so w)).abs (piecesOf sts2 env0 cd0 ⟨11, 0, 11, 6⟩ fr0) = some (.next, (sT13 w os (so w)).abs, cd0, ⟨14, 0, 20, 46⟩) := fun w os => runOf (pc2r w os)
def sts3 : List Stmt := ((behindTheImports pg).drop 6).take 1
def o47 (P : Params) : Obj := ⟨(Value.type "range"), none, Data.fields #[(Value.int 65529 275), (Value.int 65534 276), (Value.int 1 277)], #[]⟩
def o48 (P : Params) : Obj := ⟨(Value.type "range_iterator"), none, Data.fields #[(Value.int 65529 0), (Value.int 5 0), (Value.int 1 0)], #[]⟩
def tr14 (P : Params) (b : Bool) : BT := (.node (boot_o_0 P) (.node (boot_o_1 P) (.node (o37 P) (.node (boot_o_7 P) (.node (o0 P) (.node (o0 P) .nil .nil) (.node (o47 P) .nil .nil)) (.node (o11 P) (.node (o42 P) .nil .nil) .nil)) (.node (o0 P) (.node (o7 P) (.node (o39 P) .nil .nil) .nil) (.node (o16 P) (.node (o0 P) .nil .nil) .nil))) (.node (boot_o_5 P) (.node (boot_o_9 P) (.node (o6 P) (.node (o0 P) .nil .nil) (.node (o48 P) .nil .nil)) (.node (o15 P) (.node (o1 P) .nil .nil) .nil)) (.node (o2 P) (.node (o9 P) (.node (o40 P) .nil .nil) .nil) (.node (o32 b) (.node (o45 P) .nil .nil) .nil)))) (.node (boot_o_2 P) (.node (boot_o_4 P) (.node (boot_o_8 P) (.node (o1 P) (.node (o36 P) .nil .nil) (.node (o18 b) .nil .nil)) (.node (o14 P) (.node (o0 P) .nil .nil) .nil)) (.node (o38 P) (.node (o8 P) (.node (o0 P) .nil .nil) .nil) (.node (o17 P) (.node (o44 P) .nil .nil) .nil))) (.node (boot_o_6 P) (.node (boot_o_10 P) (.node (o0 P) (.node (o1 P) .nil .nil) .nil) (.node (o0 P) (.node (o43 P) .nil .nil) .nil)) (.node (o3 P) (.node (o10 P) (.node (o41 P) .nil .nil) .nil) (.node (o35 P) (.node (o46 P) .nil .nil) .nil)))))
def sT14 (w : World) (os : OsState) (b : Bool) : SharedT := ⟨tr14 w.params b, 50, {}, #[], {}, 278, os⟩
def stk3x0 (w : World) (os : OsState) : List Frame := match segF tabF pg w 11 (some (Value.ref 6)) 1 58 (sT13 w os (so w)) (piecesOf sts3 env0 cd0 ⟨14, 0, 20, 46⟩ fr0) with | some (_, t) => t.stack | none => []
def th3x0 (w : World) (os : OsState) : Thread := ⟨denF tabF (Code.builtin "set.update.loop" ⟨[(Value.ref 48), (Value.ref 49)], []⟩), (Code.builtin "set.update.loop" ⟨[(Value.ref 48), (Value.ref 49)], []⟩), ⟨21, 9, 21, 33⟩, [.ret (kf (stk3x0 w os) 0) none false [] (Code.builtin "set.__init__" ⟨[(Value.ref 48), (Value.ref 47)], []⟩) ⟨21, 9, 21, 33⟩ [(Value.ref 48), (Value.ref 49)], .ret (kf (stk3x0 w os) 1) none false [(Value.ref 48), (Value.ref 48), (Value.ref 47)] (Code.builtin "type.__call__" ⟨[(Value.type "set"), (Value.ref 47)], []⟩) ⟨21, 9, 21, 33⟩ [(Value.builtin "set.__init__"), (Value.ref 48), (Value.ref 47), (Value.builtin "set.__init__"), (Value.ref 48), (Value.ref 47)], .ret (kf (stk3x0 w os) 2) none false [] cd0 ⟨21, 9, 21, 33⟩ [(Value.type "set"), (Value.ref 47)], topFrame ⟨0, 0, 0, 0⟩]⟩
theorem pc3x0 : ∀ (w : World) (os : OsState), segF tabF pg w 11 (some (Value.ref 6)) 1 58 (sT13 w os (so w)) (piecesOf sts3 env0 cd0 ⟨14, 0, 20, 46⟩ fr0) = some (sT14 w os (so w), th3x0 w os) := by
  refine byRow2 "set-order" ?_ ?_ <;> refine byRow2 "special-get-raises" ?_ ?_ <;> intro w os <;> kernel_rfl
def o49 (b : Bool) : Obj := ⟨(Value.type "set"), none, Data.set #[(65529, (Value.int 65529 278)), (65530, (Value.int 65530 280)), (65531, (Value.int 65531 282)), (65532, (Value.int 65532 284)), (65533, (Value.int 65533 286))] 6 ⟨31, #[25, 26, 27, 28, 29], #[], 0, (!b), 1, true⟩, #[]⟩
def o50 (P : Params) : Obj := ⟨(Value.type "range_iterator"), none, Data.fields #[(Value.int 65534 0), (Value.int 0 0), (Value.int 1 0)], #[]⟩
def tr15 (P : Params) (b : Bool) : BT := (.node (boot_o_0 P) (.node (boot_o_1 P) (.node (o37 P) (.node (boot_o_7 P) (.node (o0 P) (.node (o0 P) .nil .nil) (.node (o47 P) .nil .nil)) (.node (o11 P) (.node (o42 P) .nil .nil) .nil)) (.node (o0 P) (.node (o7 P) (.node (o39 P) .nil .nil) .nil) (.node (o16 P) (.node (o0 P) .nil .nil) .nil))) (.node (boot_o_5 P) (.node (boot_o_9 P) (.node (o6 P) (.node (o0 P) .nil .nil) (.node (o50 P) .nil .nil)) (.node (o15 P) (.node (o1 P) .nil .nil) .nil)) (.node (o2 P) (.node (o9 P) (.node (o40 P) .nil .nil) .nil) (.node (o32 b) (.node (o45 P) .nil .nil) .nil)))) (.node (boot_o_2 P) (.node (boot_o_4 P) (.node (boot_o_8 P) (.node (o1 P) (.node (o36 P) .nil .nil) (.node (o49 b) .nil .nil)) (.node (o14 P) (.node (o0 P) .nil .nil) .nil)) (.node (o38 P) (.node (o8 P) (.node (o0 P) .nil .nil) .nil) (.node (o17 P) (.node (o44 P) .nil .nil) .nil))) (.node (boot_o_6 P) (.node (boot_o_10 P) (.node (o0 P) (.node (o1 P) .nil .nil) .nil) (.node (o0 P) (.node (o43 P) .nil .nil) .nil)) (.node (o3 P) (.node (o10 P) (.node (o41 P) .nil .nil) .nil) (.node (o35 P) (.node (o46 P) .nil .nil) .nil)))))
def sT15 (w : World) (os : OsState) (b : Bool) : SharedT := ⟨tr15 w.params b, 50, {}, #[], {}, 288, os⟩
abbrev pc3x1Q (b : Bool) (w : World) : Prop := ∀ os : OsState, segF tabF pg w 11 (some (Value.ref 6)) 1 117 (sT14 w os b) (th3x0 w os) = some (sT15 w os b, th3x0 w os)
theorem pc3x1ff (w : World) : pc3x1Q false (w.withFollow "special-get-raises" false) := by
  intro os; kernel_rfl
theorem pc3x1ft (w : World) : pc3x1Q false (w.withFollow "special-get-raises" true) := by
  intro os; kernel_rfl
theorem pc3x1tf (w : World) : pc3x1Q true (w.withFollow "special-get-raises" false) := by
  intro os; kernel_rfl
theorem pc3x1tt (w : World) : pc3x1Q true (w.withFollow "special-get-raises" true) := by
  intro os; kernel_rfl
theorem pc3x1b : ∀ (b : Bool) (w : World), pc3x1Q b w
  | false, w => byRow2 "special-get-raises" (P := pc3x1Q false) pc3x1ff pc3x1ft w
  | true, w => byRow2 "special-get-raises" (P := pc3x1Q true) pc3x1tf pc3x1tt w
theorem pc3x1 : ∀ (w : World) (os : OsState), segF tabF pg w 11 (some (Value.ref 6)) 1 117 (sT14 w os (so w)) (th3x0 w os) = some (sT15 w os (so w), th3x0 w os) := fun w os => pc3x1b (so w) w os
def o51 (P : Params) : Obj := ⟨(Value.type "dict"), none, Data.dict #[⟨PyData.keyHash P (Str.ofString "__name__"), (Value.str (Str.ofString "__name__") 165), (Value.str (Str.ofString "cpy313.stringprep") 198)⟩, ⟨PyData.keyHash P (Str.ofString "__doc__"), (Value.str (Str.ofString "__doc__") 166), Value.none⟩, ⟨PyData.keyHash P (Str.ofString "__package__"), (Value.str (Str.ofString "__package__") 167), Value.none⟩, ⟨PyData.keyHash P (Str.ofString "__loader__"), (Value.str (Str.ofString "__loader__") 168), (ldV P)⟩, ⟨PyData.keyHash P (Str.ofString "__spec__"), (Value.str (Str.ofString "__spec__") 169), Value.none⟩, ⟨PyData.keyHash P (Str.ofString "__annotations__"), (Value.str (Str.ofString "__annotations__") 170), (Value.ref 6)⟩, ⟨PyData.keyHash P (Str.ofString "__builtins__"), (Value.str (Str.ofString "__builtins__") 171), (Value.ref 4)⟩, ⟨PyData.keyHash P (Str.ofString "__file__"), (Value.str (Str.ofString "__file__") 173), (Value.str (Str.ofString "/claim/cut.py") 172)⟩, ⟨PyData.keyHash P (Str.ofString "__cached__"), (Value.str (Str.ofString "__cached__") 174), Value.none⟩, ⟨PyData.keyHash P (Str.ofString "_parse_varint"), (Value.str (Str.ofString "_parse_varint") 197), (Value.ref 21)⟩, ⟨PyData.keyHash P (Str.ofString "b1_set"), (Value.str (Str.ofString "b1_set") 259), (Value.ref 29)⟩, ⟨PyData.keyHash P (Str.ofString "in_table_b1"), (Value.str (Str.ofString "in_table_b1") 266), (Value.ref 39)⟩, ⟨PyData.keyHash P (Str.ofString "in_table_c4"), (Value.str (Str.ofString "in_table_c4") 274), (Value.ref 46)⟩, ⟨PyData.keyHash P (Str.ofString "c6_set"), (Value.str (Str.ofString "c6_set") 288), (Value.ref 48)⟩] 14, #[]⟩
def o52 (P : Params) : Obj := ⟨(Value.type "StopIteration"), none, Data.fields #[(Value.ref 50), Value.none, Value.none, Value.none, (Value.bool false), Value.none], #[]⟩
def tr16 (P : Params) (b : Bool) : BT := (.node (boot_o_0 P) (.node (boot_o_1 P) (.node (o51 P) (.node (boot_o_7 P) (.node (o0 P) (.node (o0 P) .nil .nil) (.node (o47 P) .nil .nil)) (.node (o11 P) (.node (o42 P) .nil .nil) .nil)) (.node (o0 P) (.node (o7 P) (.node (o39 P) .nil .nil) (.node (o52 P) .nil .nil)) (.node (o16 P) (.node (o0 P) .nil .nil) .nil))) (.node (boot_o_5 P) (.node (boot_o_9 P) (.node (o6 P) (.node (o0 P) .nil .nil) (.node (o50 P) .nil .nil)) (.node (o15 P) (.node (o1 P) .nil .nil) .nil)) (.node (o2 P) (.node (o9 P) (.node (o40 P) .nil .nil) .nil) (.node (o32 b) (.node (o45 P) .nil .nil) .nil)))) (.node (boot_o_2 P) (.node (boot_o_4 P) (.node (boot_o_8 P) (.node (o1 P) (.node (o36 P) .nil .nil) (.node (o49 b) .nil .nil)) (.node (o14 P) (.node (o0 P) .nil .nil) .nil)) (.node (o38 P) (.node (o8 P) (.node (o0 P) .nil .nil) .nil) (.node (o17 P) (.node (o44 P) .nil .nil) .nil))) (.node (boot_o_6 P) (.node (boot_o_10 P) (.node (o0 P) (.node (o1 P) .nil .nil) (.node (o0 P) .nil .nil)) (.node (o0 P) (.node (o43 P) .nil .nil) .nil)) (.node (o3 P) (.node (o10 P) (.node (o41 P) .nil .nil) .nil) (.node (o35 P) (.node (o46 P) .nil .nil) .nil)))))
def sT16 (w : World) (os : OsState) (b : Bool) : SharedT := ⟨tr16 w.params b, 52, {}, #[], {}, 289, os⟩
theorem pc3e : ∀ (w : World) (os : OsState), runF tabF pg w 11 (some (Value.ref 6)) 1 25 (sT15 w os (so w)) (th3x0 w os) = some (.next, sT16 w os (so w), cd0, ⟨21, 0, 21, 6⟩) := by
  refine byRow2 "set-order" ?_ ?_ <;> refine byRow2 "special-get-raises" ?_ ?_ <;> intro w os <;> kernel_rfl
theorem pc3 : ∀ (w : World) (os : OsState), segRun treeTable pg w 11 (some (Value.ref 6)) 1 (58 + (117 + 25)) (sT13 w os (so w)).abs (piecesOf sts3 env0 cd0 ⟨14, 0, 20, 46⟩ fr0) = some (.next, (sT16 w os (so w)).abs, cd0, ⟨21, 0, 21, 6⟩) := fun w os => (seg_go (goOf (pc3x0 w os)) (seg_go (goOf (pc3x1 w os)) (runOf (pc3e w os))))
def sts4 : List Stmt := ((behindTheImports pg).drop 7).take 1
def o53 (P : Params) : Obj := ⟨(Value.type "dict"), none, Data.dict #[⟨PyData.keyHash P (Str.ofString "__name__"), (Value.str (Str.ofString "__name__") 165), (Value.str (Str.ofString "cpy313.stringprep") 198)⟩, ⟨PyData.keyHash P (Str.ofString "__doc__"), (Value.str (Str.ofString "__doc__") 166), Value.none⟩, ⟨PyData.keyHash P (Str.ofString "__package__"), (Value.str (Str.ofString "__package__") 167), Value.none⟩, ⟨PyData.keyHash P (Str.ofString "__loader__"), (Value.str (Str.ofString "__loader__") 168), (ldV P)⟩, ⟨PyData.keyHash P (Str.ofString "__spec__"), (Value.str (Str.ofString "__spec__") 169), Value.none⟩, ⟨PyData.keyHash P (Str.ofString "__annotations__"), (Value.str (Str.ofString "__annotations__") 170), (Value.ref 6)⟩, ⟨PyData.keyHash P (Str.ofString "__builtins__"), (Value.str (Str.ofString "__builtins__") 171), (Value.ref 4)⟩, ⟨PyData.keyHash P (Str.ofString "__file__"), (Value.str (Str.ofString "__file__") 173), (Value.str (Str.ofString "/claim/cut.py") 172)⟩, ⟨PyData.keyHash P (Str.ofString "__cached__"), (Value.str (Str.ofString "__cached__") 174), Value.none⟩, ⟨PyData.keyHash P (Str.ofString "_parse_varint"), (Value.str (Str.ofString "_parse_varint") 197), (Value.ref 21)⟩, ⟨PyData.keyHash P (Str.ofString "b1_set"), (Value.str (Str.ofString "b1_set") 259), (Value.ref 29)⟩, ⟨PyData.keyHash P (Str.ofString "in_table_b1"), (Value.str (Str.ofString "in_table_b1") 266), (Value.ref 39)⟩, ⟨PyData.keyHash P (Str.ofString "in_table_c4"), (Value.str (Str.ofString "in_table_c4") 274), (Value.ref 46)⟩, ⟨PyData.keyHash P (Str.ofString "c6_set"), (Value.str (Str.ofString "c6_set") 288), (Value.ref 48)⟩, ⟨PyData.keyHash P (Str.ofString "in_table_c6"), (Value.str (Str.ofString "in_table_c6") 295), (Value.ref 58)⟩] 15, #[]⟩
def o54 (P : Params) : Obj := ⟨Value.none, none, Data.fields #[(Value.int 2 0), (Value.int 0 0), (Value.ref 20), (Value.int 12 0), (Value.int 0 0), (Value.ref 38), (Value.int 14 0), (Value.int 0 0), (Value.ref 45), (Value.int 22 0), (Value.int 0 0), (Value.ref 57)], #[]⟩
def o55 (P : Params) : Obj := ⟨(Value.type "tuple"), none, Data.seq #[(Value.str (Str.ofString "code") 292)] 0, #[]⟩
def o56 (P : Params) : Obj := ⟨Value.none, none, Data.func ⟨(Str.ofString "in_table_c6"), (Str.ofString "in_table_c6"), stA 7, .stmts (stB 7), stS 7, 0, [], Value.none, Value.none, Value.none, Value.none, none, Value.none, Value.none, 0⟩, #[]⟩
def o57 (P : Params) : Obj := ⟨(Value.type "code"), none, Data.fields #[(Value.str (Str.ofString "in_table_c6") 289), (Value.str (Str.ofString "in_table_c6") 290), (Value.str (Str.ofString "/claim/cut.py") 291), (Value.int 22 0), (Value.int 1 0), (Value.int 0 0), (Value.int 0 0), (Value.int 3 0), (Value.ref 52), (Value.bool true), (Value.int 181 0), (Value.ref 53), Value.none, (Value.ref 54), (Value.ref 55), (Value.ref 56), (Value.int 293 0), (Value.int 22 0), (Value.str (Str.ofString "/claim/cut.py") 294)], #[]⟩
def o58 (P : Params) : Obj := ⟨(Value.type "function"), none, Data.func ⟨(Str.ofString "in_table_c6"), (Str.ofString "in_table_c6"), stA 7, .stmts (stB 7), stS 7, 3, [], Value.none, Value.none, Value.none, (Value.str (Str.ofString "cpy313.stringprep") 198), none, (Value.ref 57), Value.none, 0⟩, #[]⟩
def tr17 (P : Params) (b : Bool) : BT := (.node (boot_o_0 P) (.node (boot_o_1 P) (.node (o53 P) (.node (boot_o_7 P) (.node (o0 P) (.node (o0 P) .nil .nil) (.node (o47 P) .nil .nil)) (.node (o11 P) (.node (o42 P) .nil .nil) (.node (o0 P) .nil .nil))) (.node (o0 P) (.node (o7 P) (.node (o39 P) .nil .nil) (.node (o52 P) .nil .nil)) (.node (o16 P) (.node (o0 P) .nil .nil) .nil))) (.node (boot_o_5 P) (.node (boot_o_9 P) (.node (o6 P) (.node (o0 P) .nil .nil) (.node (o50 P) .nil .nil)) (.node (o15 P) (.node (o1 P) .nil .nil) (.node (o57 P) .nil .nil))) (.node (o2 P) (.node (o9 P) (.node (o40 P) .nil .nil) (.node (o1 P) .nil .nil)) (.node (o32 b) (.node (o45 P) .nil .nil) .nil)))) (.node (boot_o_2 P) (.node (boot_o_4 P) (.node (boot_o_8 P) (.node (o1 P) (.node (o36 P) .nil .nil) (.node (o49 b) .nil .nil)) (.node (o14 P) (.node (o0 P) .nil .nil) (.node (o56 P) .nil .nil))) (.node (o54 P) (.node (o8 P) (.node (o0 P) .nil .nil) (.node (o0 P) .nil .nil)) (.node (o17 P) (.node (o44 P) .nil .nil) .nil))) (.node (boot_o_6 P) (.node (boot_o_10 P) (.node (o0 P) (.node (o1 P) .nil .nil) (.node (o0 P) .nil .nil)) (.node (o0 P) (.node (o43 P) .nil .nil) (.node (o58 P) .nil .nil))) (.node (o3 P) (.node (o10 P) (.node (o41 P) .nil .nil) (.node (o55 P) .nil .nil)) (.node (o35 P) (.node (o46 P) .nil .nil) .nil)))))
def sT17 (w : World) (os : OsState) (b : Bool) : SharedT := ⟨tr17 w.params b, 59, {}, #[], {}, 296, os⟩
theorem pc4r : ∀ (w : World) (os : OsState), runF tabF pg w 11 (some (Value.ref 6)) 1 30 (sT16 w os (so w)) (piecesOf sts4 env0 cd0 ⟨21, 0, 21, 6⟩ fr0) = some (.next, sT17 w os (so w), cd0, ⟨22, 0, 23, 30⟩) := by
  intro w os; kernel_rfl
theorem pc4 : ∀ (w : World) (os : OsState), segRun treeTable pg w 11 (some (Value.ref 6)) 1 30 (sT16 w os (so w)).abs (piecesOf sts4 env0 cd0 ⟨21, 0, 21, 6⟩ fr0) = some (.next, (sT17 w os (so w)).abs, cd0, ⟨22, 0, 23, 30⟩) := fun w os => runOf (pc4r w os)
def sts5 : List Stmt := ((behindTheImports pg).drop 8).take 1
def o59 (P : Params) : Obj := ⟨(Value.type "range"), none, Data.fields #[(Value.int 12272 296), (Value.int 12284 297), (Value.int 1 298)], #[]⟩
def o60 (P : Params) : Obj := ⟨(Value.type "range_iterator"), none, Data.fields #[(Value.int 12272 0), (Value.int 12 0), (Value.int 1 0)], #[]⟩
def tr18 (P : Params) (b : Bool) : BT := (.node (boot_o_0 P) (.node (boot_o_1 P) (.node (o53 P) (.node (boot_o_7 P) (.node (o0 P) (.node (o0 P) .nil .nil) (.node (o47 P) .nil .nil)) (.node (o11 P) (.node (o42 P) .nil .nil) (.node (o0 P) .nil .nil))) (.node (o0 P) (.node (o7 P) (.node (o39 P) .nil .nil) (.node (o52 P) .nil .nil)) (.node (o16 P) (.node (o0 P) .nil .nil) (.node (o59 P) .nil .nil)))) (.node (boot_o_5 P) (.node (boot_o_9 P) (.node (o6 P) (.node (o0 P) .nil .nil) (.node (o50 P) .nil .nil)) (.node (o15 P) (.node (o1 P) .nil .nil) (.node (o57 P) .nil .nil))) (.node (o2 P) (.node (o9 P) (.node (o40 P) .nil .nil) (.node (o1 P) .nil .nil)) (.node (o32 b) (.node (o45 P) .nil .nil) (.node (o60 P) .nil .nil))))) (.node (boot_o_2 P) (.node (boot_o_4 P) (.node (boot_o_8 P) (.node (o1 P) (.node (o36 P) .nil .nil) (.node (o49 b) .nil .nil)) (.node (o14 P) (.node (o0 P) .nil .nil) (.node (o56 P) .nil .nil))) (.node (o54 P) (.node (o8 P) (.node (o0 P) .nil .nil) (.node (o0 P) .nil .nil)) (.node (o17 P) (.node (o44 P) .nil .nil) (.node (o18 b) .nil .nil)))) (.node (boot_o_6 P) (.node (boot_o_10 P) (.node (o0 P) (.node (o1 P) .nil .nil) (.node (o0 P) .nil .nil)) (.node (o0 P) (.node (o43 P) .nil .nil) (.node (o58 P) .nil .nil))) (.node (o3 P) (.node (o10 P) (.node (o41 P) .nil .nil) (.node (o55 P) .nil .nil)) (.node (o35 P) (.node (o46 P) .nil .nil) .nil)))))
def sT18 (w : World) (os : OsState) (b : Bool) : SharedT := ⟨tr18 w.params b, 62, {}, #[], {}, 299, os⟩
def stk5x0 (w : World) (os : OsState) : List Frame := match segF tabF pg w 11 (some (Value.ref 6)) 1 58 (sT17 w os (so w)) (piecesOf sts5 env0 cd0 ⟨22, 0, 23, 30⟩ fr0) with | some (_, t) => t.stack | none => []
def th5x0 (w : World) (os : OsState) : Thread := ⟨denF tabF (Code.builtin "set.update.loop" ⟨[(Value.ref 60), (Value.ref 61)], []⟩), (Code.builtin "set.update.loop" ⟨[(Value.ref 60), (Value.ref 61)], []⟩), ⟨24, 9, 24, 33⟩, [.ret (kf (stk5x0 w os) 0) none false [] (Code.builtin "set.__init__" ⟨[(Value.ref 60), (Value.ref 59)], []⟩) ⟨24, 9, 24, 33⟩ [(Value.ref 60), (Value.ref 61)], .ret (kf (stk5x0 w os) 1) none false [(Value.ref 60), (Value.ref 60), (Value.ref 59)] (Code.builtin "type.__call__" ⟨[(Value.type "set"), (Value.ref 59)], []⟩) ⟨24, 9, 24, 33⟩ [(Value.builtin "set.__init__"), (Value.ref 60), (Value.ref 59), (Value.builtin "set.__init__"), (Value.ref 60), (Value.ref 59)], .ret (kf (stk5x0 w os) 2) none false [] cd0 ⟨24, 9, 24, 33⟩ [(Value.type "set"), (Value.ref 59)], topFrame ⟨0, 0, 0, 0⟩]⟩
theorem pc5x0 : ∀ (w : World) (os : OsState), segF tabF pg w 11 (some (Value.ref 6)) 1 58 (sT17 w os (so w)) (piecesOf sts5 env0 cd0 ⟨22, 0, 23, 30⟩ fr0) = some (sT18 w os (so w), th5x0 w os) := by
  refine byRow2 "set-order" ?_ ?_ <;> refine byRow2 "special-get-raises" ?_ ?_ <;> intro w os <;> kernel_rfl
def o61 (b : Bool) : Obj := ⟨(Value.type "set"), none, Data.set #[(12272, (Value.int 12272 299)), (12273, (Value.int 12273 301)), (12274, (Value.int 12274 303)), (12275, (Value.int 12275 305)), (12276, (Value.int 12276 307)), (12277, (Value.int 12277 309))] 7 ⟨31, #[16, 17, 18, 19, 20, 21], #[], 0, (!b), 1, true⟩, #[]⟩
def o62 (P : Params) : Obj := ⟨(Value.type "range_iterator"), none, Data.fields #[(Value.int 12278 0), (Value.int 6 0), (Value.int 1 0)], #[]⟩
def tr19 (P : Params) (b : Bool) : BT := (.node (boot_o_0 P) (.node (boot_o_1 P) (.node (o53 P) (.node (boot_o_7 P) (.node (o0 P) (.node (o0 P) .nil .nil) (.node (o47 P) .nil .nil)) (.node (o11 P) (.node (o42 P) .nil .nil) (.node (o0 P) .nil .nil))) (.node (o0 P) (.node (o7 P) (.node (o39 P) .nil .nil) (.node (o52 P) .nil .nil)) (.node (o16 P) (.node (o0 P) .nil .nil) (.node (o59 P) .nil .nil)))) (.node (boot_o_5 P) (.node (boot_o_9 P) (.node (o6 P) (.node (o0 P) .nil .nil) (.node (o50 P) .nil .nil)) (.node (o15 P) (.node (o1 P) .nil .nil) (.node (o57 P) .nil .nil))) (.node (o2 P) (.node (o9 P) (.node (o40 P) .nil .nil) (.node (o1 P) .nil .nil)) (.node (o32 b) (.node (o45 P) .nil .nil) (.node (o62 P) .nil .nil))))) (.node (boot_o_2 P) (.node (boot_o_4 P) (.node (boot_o_8 P) (.node (o1 P) (.node (o36 P) .nil .nil) (.node (o49 b) .nil .nil)) (.node (o14 P) (.node (o0 P) .nil .nil) (.node (o56 P) .nil .nil))) (.node (o54 P) (.node (o8 P) (.node (o0 P) .nil .nil) (.node (o0 P) .nil .nil)) (.node (o17 P) (.node (o44 P) .nil .nil) (.node (o61 b) .nil .nil)))) (.node (boot_o_6 P) (.node (boot_o_10 P) (.node (o0 P) (.node (o1 P) .nil .nil) (.node (o0 P) .nil .nil)) (.node (o0 P) (.node (o43 P) .nil .nil) (.node (o58 P) .nil .nil))) (.node (o3 P) (.node (o10 P) (.node (o41 P) .nil .nil) (.node (o55 P) .nil .nil)) (.node (o35 P) (.node (o46 P) .nil .nil) .nil)))))
def sT19 (w : World) (os : OsState) (b : Bool) : SharedT := ⟨tr19 w.params b, 62, {}, #[], {}, 311, os⟩
abbrev pc5x1Q (b : Bool) (w : World) : Prop := ∀ os : OsState, segF tabF pg w 11 (some (Value.ref 6)) 1 140 (sT18 w os b) (th5x0 w os) = some (sT19 w os b, th5x0 w os)
theorem pc5x1ff (w : World) : pc5x1Q false (w.withFollow "special-get-raises" false) := by
  intro os; kernel_rfl
theorem pc5x1ft (w : World) : pc5x1Q false (w.withFollow "special-get-raises" true) := by
  intro os; kernel_rfl
theorem pc5x1tf (w : World) : pc5x1Q true (w.withFollow "special-get-raises" false) := by
  intro os; kernel_rfl
theorem pc5x1tt (w : World) : pc5x1Q true (w.withFollow "special-get-raises" true) := by
  intro os; kernel_rfl
theorem pc5x1b : ∀ (b : Bool) (w : World), pc5x1Q b w
  | false, w => byRow2 "special-get-raises" (P := pc5x1Q false) pc5x1ff pc5x1ft w
  | true, w => byRow2 "special-get-raises" (P := pc5x1Q true) pc5x1tf pc5x1tt w
theorem pc5x1 : ∀ (w : World) (os : OsState), segF tabF pg w 11 (some (Value.ref 6)) 1 140 (sT18 w os (so w)) (th5x0 w os) = some (sT19 w os (so w), th5x0 w os) := fun w os => pc5x1b (so w) w os
def o63 (b : Bool) : Obj := ⟨(Value.type "set"), none, Data.set #[(12272, (Value.int 12272 299)), (12273, (Value.int 12273 301)), (12274, (Value.int 12274 303)), (12275, (Value.int 12275 305)), (12276, (Value.int 12276 307)), (12277, (Value.int 12277 309)), (12278, (Value.int 12278 311)), (12279, (Value.int 12279 313)), (12280, (Value.int 12280 315)), (12281, (Value.int 12281 317))] 11 ⟨31, #[16, 17, 18, 19, 20, 21, 22, 23, 24, 25], #[], 0, (!b), 1, true⟩, #[]⟩
def o64 (P : Params) : Obj := ⟨(Value.type "range_iterator"), none, Data.fields #[(Value.int 12282 0), (Value.int 2 0), (Value.int 1 0)], #[]⟩
def tr20 (P : Params) (b : Bool) : BT := (.node (boot_o_0 P) (.node (boot_o_1 P) (.node (o53 P) (.node (boot_o_7 P) (.node (o0 P) (.node (o0 P) .nil .nil) (.node (o47 P) .nil .nil)) (.node (o11 P) (.node (o42 P) .nil .nil) (.node (o0 P) .nil .nil))) (.node (o0 P) (.node (o7 P) (.node (o39 P) .nil .nil) (.node (o52 P) .nil .nil)) (.node (o16 P) (.node (o0 P) .nil .nil) (.node (o59 P) .nil .nil)))) (.node (boot_o_5 P) (.node (boot_o_9 P) (.node (o6 P) (.node (o0 P) .nil .nil) (.node (o50 P) .nil .nil)) (.node (o15 P) (.node (o1 P) .nil .nil) (.node (o57 P) .nil .nil))) (.node (o2 P) (.node (o9 P) (.node (o40 P) .nil .nil) (.node (o1 P) .nil .nil)) (.node (o32 b) (.node (o45 P) .nil .nil) (.node (o64 P) .nil .nil))))) (.node (boot_o_2 P) (.node (boot_o_4 P) (.node (boot_o_8 P) (.node (o1 P) (.node (o36 P) .nil .nil) (.node (o49 b) .nil .nil)) (.node (o14 P) (.node (o0 P) .nil .nil) (.node (o56 P) .nil .nil))) (.node (o54 P) (.node (o8 P) (.node (o0 P) .nil .nil) (.node (o0 P) .nil .nil)) (.node (o17 P) (.node (o44 P) .nil .nil) (.node (o63 b) .nil .nil)))) (.node (boot_o_6 P) (.node (boot_o_10 P) (.node (o0 P) (.node (o1 P) .nil .nil) (.node (o0 P) .nil .nil)) (.node (o0 P) (.node (o43 P) .nil .nil) (.node (o58 P) .nil .nil))) (.node (o3 P) (.node (o10 P) (.node (o41 P) .nil .nil) (.node (o55 P) .nil .nil)) (.node (o35 P) (.node (o46 P) .nil .nil) .nil)))))
def sT20 (w : World) (os : OsState) (b : Bool) : SharedT := ⟨tr20 w.params b, 62, {}, #[], {}, 319, os⟩
abbrev pc5x2Q (b : Bool) (w : World) : Prop := ∀ os : OsState, segF tabF pg w 11 (some (Value.ref 6)) 1 92 (sT19 w os b) (th5x0 w os) = some (sT20 w os b, th5x0 w os)
theorem pc5x2ff (w : World) : pc5x2Q false (w.withFollow "special-get-raises" false) := by
  intro os; kernel_rfl
theorem pc5x2ft (w : World) : pc5x2Q false (w.withFollow "special-get-raises" true) := by
  intro os; kernel_rfl
theorem pc5x2tf (w : World) : pc5x2Q true (w.withFollow "special-get-raises" false) := by
  intro os; kernel_rfl
theorem pc5x2tt (w : World) : pc5x2Q true (w.withFollow "special-get-raises" true) := by
  intro os; kernel_rfl
theorem pc5x2b : ∀ (b : Bool) (w : World), pc5x2Q b w
  | false, w => byRow2 "special-get-raises" (P := pc5x2Q false) pc5x2ff pc5x2ft w
  | true, w => byRow2 "special-get-raises" (P := pc5x2Q true) pc5x2tf pc5x2tt w
theorem pc5x2 : ∀ (w : World) (os : OsState), segF tabF pg w 11 (some (Value.ref 6)) 1 92 (sT19 w os (so w)) (th5x0 w os) = some (sT20 w os (so w), th5x0 w os) := fun w os => pc5x2b (so w) w os
def o65 (b : Bool) : Obj := ⟨(Value.type "set"), none, Data.set #[(12272, (Value.int 12272 299)), (12273, (Value.int 12273 301)), (12274, (Value.int 12274 303)), (12275, (Value.int 12275 305)), (12276, (Value.int 12276 307)), (12277, (Value.int 12277 309)), (12278, (Value.int 12278 311)), (12279, (Value.int 12279 313)), (12280, (Value.int 12280 315)), (12281, (Value.int 12281 317)), (12282, (Value.int 12282 319)), (12283, (Value.int 12283 321))] 13 ⟨31, #[16, 17, 18, 19, 20, 21, 22, 23, 24, 25, 26, 27], #[], 0, (!b), 1, true⟩, #[]⟩
def o66 (P : Params) : Obj := ⟨(Value.type "range_iterator"), none, Data.fields #[(Value.int 12284 0), (Value.int 0 0), (Value.int 1 0)], #[]⟩
def tr21 (P : Params) (b : Bool) : BT := (.node (boot_o_0 P) (.node (boot_o_1 P) (.node (o53 P) (.node (boot_o_7 P) (.node (o0 P) (.node (o0 P) .nil .nil) (.node (o47 P) .nil .nil)) (.node (o11 P) (.node (o42 P) .nil .nil) (.node (o0 P) .nil .nil))) (.node (o0 P) (.node (o7 P) (.node (o39 P) .nil .nil) (.node (o52 P) .nil .nil)) (.node (o16 P) (.node (o0 P) .nil .nil) (.node (o59 P) .nil .nil)))) (.node (boot_o_5 P) (.node (boot_o_9 P) (.node (o6 P) (.node (o0 P) .nil .nil) (.node (o50 P) .nil .nil)) (.node (o15 P) (.node (o1 P) .nil .nil) (.node (o57 P) .nil .nil))) (.node (o2 P) (.node (o9 P) (.node (o40 P) .nil .nil) (.node (o1 P) .nil .nil)) (.node (o32 b) (.node (o45 P) .nil .nil) (.node (o66 P) .nil .nil))))) (.node (boot_o_2 P) (.node (boot_o_4 P) (.node (boot_o_8 P) (.node (o1 P) (.node (o36 P) .nil .nil) (.node (o49 b) .nil .nil)) (.node (o14 P) (.node (o0 P) .nil .nil) (.node (o56 P) .nil .nil))) (.node (o54 P) (.node (o8 P) (.node (o0 P) .nil .nil) (.node (o0 P) .nil .nil)) (.node (o17 P) (.node (o44 P) .nil .nil) (.node (o65 b) .nil .nil)))) (.node (boot_o_6 P) (.node (boot_o_10 P) (.node (o0 P) (.node (o1 P) .nil .nil) (.node (o0 P) .nil .nil)) (.node (o0 P) (.node (o43 P) .nil .nil) (.node (o58 P) .nil .nil))) (.node (o3 P) (.node (o10 P) (.node (o41 P) .nil .nil) (.node (o55 P) .nil .nil)) (.node (o35 P) (.node (o46 P) .nil .nil) .nil)))))
def sT21 (w : World) (os : OsState) (b : Bool) : SharedT := ⟨tr21 w.params b, 62, {}, #[], {}, 323, os⟩
abbrev pc5x3Q (b : Bool) (w : World) : Prop := ∀ os : OsState, segF tabF pg w 11 (some (Value.ref 6)) 1 46 (sT20 w os b) (th5x0 w os) = some (sT21 w os b, th5x0 w os)
theorem pc5x3ff (w : World) : pc5x3Q false (w.withFollow "special-get-raises" false) := by
  intro os; kernel_rfl
theorem pc5x3ft (w : World) : pc5x3Q false (w.withFollow "special-get-raises" true) := by
  intro os; kernel_rfl
theorem pc5x3tf (w : World) : pc5x3Q true (w.withFollow "special-get-raises" false) := by
  intro os; kernel_rfl
theorem pc5x3tt (w : World) : pc5x3Q true (w.withFollow "special-get-raises" true) := by
  intro os; kernel_rfl
theorem pc5x3b : ∀ (b : Bool) (w : World), pc5x3Q b w
  | false, w => byRow2 "special-get-raises" (P := pc5x3Q false) pc5x3ff pc5x3ft w
  | true, w => byRow2 "special-get-raises" (P := pc5x3Q true) pc5x3tf pc5x3tt w
theorem pc5x3 : ∀ (w : World) (os : OsState), segF tabF pg w 11 (some (Value.ref 6)) 1 46 (sT20 w os (so w)) (th5x0 w os) = some (sT21 w os (so w), th5x0 w os) := fun w os => pc5x3b (so w) w os
def o67 (P : Params) : Obj := ⟨(Value.type "dict"), none, Data.dict #[⟨PyData.keyHash P (Str.ofString "__name__"), (Value.str (Str.ofString "__name__") 165), (Value.str (Str.ofString "cpy313.stringprep") 198)⟩, ⟨PyData.keyHash P (Str.ofString "__doc__"), (Value.str (Str.ofString "__doc__") 166), Value.none⟩, ⟨PyData.keyHash P (Str.ofString "__package__"), (Value.str (Str.ofString "__package__") 167), Value.none⟩, ⟨PyData.keyHash P (Str.ofString "__loader__"), (Value.str (Str.ofString "__loader__") 168), (ldV P)⟩, ⟨PyData.keyHash P (Str.ofString "__spec__"), (Value.str (Str.ofString "__spec__") 169), Value.none⟩, ⟨PyData.keyHash P (Str.ofString "__annotations__"), (Value.str (Str.ofString "__annotations__") 170), (Value.ref 6)⟩, ⟨PyData.keyHash P (Str.ofString "__builtins__"), (Value.str (Str.ofString "__builtins__") 171), (Value.ref 4)⟩, ⟨PyData.keyHash P (Str.ofString "__file__"), (Value.str (Str.ofString "__file__") 173), (Value.str (Str.ofString "/claim/cut.py") 172)⟩, ⟨PyData.keyHash P (Str.ofString "__cached__"), (Value.str (Str.ofString "__cached__") 174), Value.none⟩, ⟨PyData.keyHash P (Str.ofString "_parse_varint"), (Value.str (Str.ofString "_parse_varint") 197), (Value.ref 21)⟩, ⟨PyData.keyHash P (Str.ofString "b1_set"), (Value.str (Str.ofString "b1_set") 259), (Value.ref 29)⟩, ⟨PyData.keyHash P (Str.ofString "in_table_b1"), (Value.str (Str.ofString "in_table_b1") 266), (Value.ref 39)⟩, ⟨PyData.keyHash P (Str.ofString "in_table_c4"), (Value.str (Str.ofString "in_table_c4") 274), (Value.ref 46)⟩, ⟨PyData.keyHash P (Str.ofString "c6_set"), (Value.str (Str.ofString "c6_set") 288), (Value.ref 48)⟩, ⟨PyData.keyHash P (Str.ofString "in_table_c6"), (Value.str (Str.ofString "in_table_c6") 295), (Value.ref 58)⟩, ⟨PyData.keyHash P (Str.ofString "c7_set"), (Value.str (Str.ofString "c7_set") 323), (Value.ref 60)⟩] 16, #[]⟩
def o68 (P : Params) : Obj := ⟨(Value.type "StopIteration"), none, Data.fields #[(Value.ref 62), Value.none, Value.none, Value.none, (Value.bool false), Value.none], #[]⟩
def tr22 (P : Params) (b : Bool) : BT := (.node (boot_o_0 P) (.node (boot_o_1 P) (.node (o67 P) (.node (boot_o_7 P) (.node (o0 P) (.node (o0 P) (.node (o68 P) .nil .nil) .nil) (.node (o47 P) .nil .nil)) (.node (o11 P) (.node (o42 P) .nil .nil) (.node (o0 P) .nil .nil))) (.node (o0 P) (.node (o7 P) (.node (o39 P) .nil .nil) (.node (o52 P) .nil .nil)) (.node (o16 P) (.node (o0 P) .nil .nil) (.node (o59 P) .nil .nil)))) (.node (boot_o_5 P) (.node (boot_o_9 P) (.node (o6 P) (.node (o0 P) .nil .nil) (.node (o50 P) .nil .nil)) (.node (o15 P) (.node (o1 P) .nil .nil) (.node (o57 P) .nil .nil))) (.node (o2 P) (.node (o9 P) (.node (o40 P) .nil .nil) (.node (o1 P) .nil .nil)) (.node (o32 b) (.node (o45 P) .nil .nil) (.node (o66 P) .nil .nil))))) (.node (boot_o_2 P) (.node (boot_o_4 P) (.node (boot_o_8 P) (.node (o1 P) (.node (o36 P) .nil .nil) (.node (o49 b) .nil .nil)) (.node (o14 P) (.node (o0 P) .nil .nil) (.node (o56 P) .nil .nil))) (.node (o54 P) (.node (o8 P) (.node (o0 P) .nil .nil) (.node (o0 P) .nil .nil)) (.node (o17 P) (.node (o44 P) .nil .nil) (.node (o65 b) .nil .nil)))) (.node (boot_o_6 P) (.node (boot_o_10 P) (.node (o0 P) (.node (o1 P) .nil .nil) (.node (o0 P) .nil .nil)) (.node (o0 P) (.node (o43 P) .nil .nil) (.node (o58 P) .nil .nil))) (.node (o3 P) (.node (o10 P) (.node (o41 P) .nil .nil) (.node (o55 P) .nil .nil)) (.node (o35 P) (.node (o46 P) .nil .nil) (.node (o0 P) .nil .nil))))))
def sT22 (w : World) (os : OsState) (b : Bool) : SharedT := ⟨tr22 w.params b, 64, {}, #[], {}, 324, os⟩
theorem pc5e : ∀ (w : World) (os : OsState), runF tabF pg w 11 (some (Value.ref 6)) 1 25 (sT21 w os (so w)) (th5x0 w os) = some (.next, sT22 w os (so w), cd0, ⟨24, 0, 24, 6⟩) := by
  refine byRow2 "set-order" ?_ ?_ <;> refine byRow2 "special-get-raises" ?_ ?_ <;> intro w os <;> kernel_rfl
theorem pc5 : ∀ (w : World) (os : OsState), segRun treeTable pg w 11 (some (Value.ref 6)) 1 (58 + (140 + (92 + (46 + 25)))) (sT17 w os (so w)).abs (piecesOf sts5 env0 cd0 ⟨22, 0, 23, 30⟩ fr0) = some (.next, (sT22 w os (so w)).abs, cd0, ⟨24, 0, 24, 6⟩) := fun w os => (seg_go (goOf (pc5x0 w os)) (seg_go (goOf (pc5x1 w os)) (seg_go (goOf (pc5x2 w os)) (seg_go (goOf (pc5x3 w os)) (runOf (pc5e w os))))))
def sts6 : List Stmt := ((behindTheImports pg).drop 9).take 1
def o69 (P : Params) : Obj := ⟨(Value.type "dict"), none, Data.dict #[⟨PyData.keyHash P (Str.ofString "__name__"), (Value.str (Str.ofString "__name__") 165), (Value.str (Str.ofString "cpy313.stringprep") 198)⟩, ⟨PyData.keyHash P (Str.ofString "__doc__"), (Value.str (Str.ofString "__doc__") 166), Value.none⟩, ⟨PyData.keyHash P (Str.ofString "__package__"), (Value.str (Str.ofString "__package__") 167), Value.none⟩, ⟨PyData.keyHash P (Str.ofString "__loader__"), (Value.str (Str.ofString "__loader__") 168), (ldV P)⟩, ⟨PyData.keyHash P (Str.ofString "__spec__"), (Value.str (Str.ofString "__spec__") 169), Value.none⟩, ⟨PyData.keyHash P (Str.ofString "__annotations__"), (Value.str (Str.ofString "__annotations__") 170), (Value.ref 6)⟩, ⟨PyData.keyHash P (Str.ofString "__builtins__"), (Value.str (Str.ofString "__builtins__") 171), (Value.ref 4)⟩, ⟨PyData.keyHash P (Str.ofString "__file__"), (Value.str (Str.ofString "__file__") 173), (Value.str (Str.ofString "/claim/cut.py") 172)⟩, ⟨PyData.keyHash P (Str.ofString "__cached__"), (Value.str (Str.ofString "__cached__") 174), Value.none⟩, ⟨PyData.keyHash P (Str.ofString "_parse_varint"), (Value.str (Str.ofString "_parse_varint") 197), (Value.ref 21)⟩, ⟨PyData.keyHash P (Str.ofString "b1_set"), (Value.str (Str.ofString "b1_set") 259), (Value.ref 29)⟩, ⟨PyData.keyHash P (Str.ofString "in_table_b1"), (Value.str (Str.ofString "in_table_b1") 266), (Value.ref 39)⟩, ⟨PyData.keyHash P (Str.ofString "in_table_c4"), (Value.str (Str.ofString "in_table_c4") 274), (Value.ref 46)⟩, ⟨PyData.keyHash P (Str.ofString "c6_set"), (Value.str (Str.ofString "c6_set") 288), (Value.ref 48)⟩, ⟨PyData.keyHash P (Str.ofString "in_table_c6"), (Value.str (Str.ofString "in_table_c6") 295), (Value.ref 58)⟩, ⟨PyData.keyHash P (Str.ofString "c7_set"), (Value.str (Str.ofString "c7_set") 323), (Value.ref 60)⟩, ⟨PyData.keyHash P (Str.ofString "in_table_c7"), (Value.str (Str.ofString "in_table_c7") 330), (Value.ref 70)⟩] 17, #[]⟩
def o70 (P : Params) : Obj := ⟨Value.none, none, Data.fields #[(Value.int 2 0), (Value.int 0 0), (Value.ref 20), (Value.int 12 0), (Value.int 0 0), (Value.ref 38), (Value.int 14 0), (Value.int 0 0), (Value.ref 45), (Value.int 22 0), (Value.int 0 0), (Value.ref 57), (Value.int 25 0), (Value.int 0 0), (Value.ref 69)], #[]⟩
def o71 (P : Params) : Obj := ⟨(Value.type "tuple"), none, Data.seq #[(Value.str (Str.ofString "code") 327)] 0, #[]⟩
def o72 (P : Params) : Obj := ⟨Value.none, none, Data.func ⟨(Str.ofString "in_table_c7"), (Str.ofString "in_table_c7"), stA 9, .stmts (stB 9), stS 9, 0, [], Value.none, Value.none, Value.none, Value.none, none, Value.none, Value.none, 0⟩, #[]⟩
def o73 (P : Params) : Obj := ⟨(Value.type "code"), none, Data.fields #[(Value.str (Str.ofString "in_table_c7") 324), (Value.str (Str.ofString "in_table_c7") 325), (Value.str (Str.ofString "/claim/cut.py") 326), (Value.int 25 0), (Value.int 1 0), (Value.int 0 0), (Value.int 0 0), (Value.int 3 0), (Value.ref 64), (Value.bool true), (Value.int 181 0), (Value.ref 65), Value.none, (Value.ref 66), (Value.ref 67), (Value.ref 68), (Value.int 328 0), (Value.int 25 0), (Value.str (Str.ofString "/claim/cut.py") 329)], #[]⟩
def o74 (P : Params) : Obj := ⟨(Value.type "function"), none, Data.func ⟨(Str.ofString "in_table_c7"), (Str.ofString "in_table_c7"), stA 9, .stmts (stB 9), stS 9, 3, [], Value.none, Value.none, Value.none, (Value.str (Str.ofString "cpy313.stringprep") 198), none, (Value.ref 69), Value.none, 0⟩, #[]⟩
def tr23 (P : Params) (b : Bool) : BT := (.node (boot_o_0 P) (.node (boot_o_1 P) (.node (o69 P) (.node (boot_o_7 P) (.node (o0 P) (.node (o0 P) (.node (o68 P) .nil .nil) .nil) (.node (o47 P) .nil .nil)) (.node (o11 P) (.node (o42 P) .nil .nil) (.node (o0 P) .nil .nil))) (.node (o0 P) (.node (o7 P) (.node (o39 P) (.node (o0 P) .nil .nil) .nil) (.node (o52 P) .nil .nil)) (.node (o16 P) (.node (o0 P) .nil .nil) (.node (o59 P) .nil .nil)))) (.node (boot_o_5 P) (.node (boot_o_9 P) (.node (o6 P) (.node (o0 P) (.node (o1 P) .nil .nil) .nil) (.node (o50 P) .nil .nil)) (.node (o15 P) (.node (o1 P) .nil .nil) (.node (o57 P) .nil .nil))) (.node (o2 P) (.node (o9 P) (.node (o40 P) (.node (o73 P) .nil .nil) .nil) (.node (o1 P) .nil .nil)) (.node (o32 b) (.node (o45 P) .nil .nil) (.node (o66 P) .nil .nil))))) (.node (boot_o_2 P) (.node (boot_o_4 P) (.node (boot_o_8 P) (.node (o1 P) (.node (o36 P) (.node (o0 P) .nil .nil) .nil) (.node (o49 b) .nil .nil)) (.node (o14 P) (.node (o0 P) .nil .nil) (.node (o56 P) .nil .nil))) (.node (o70 P) (.node (o8 P) (.node (o0 P) (.node (o72 P) .nil .nil) .nil) (.node (o0 P) .nil .nil)) (.node (o17 P) (.node (o44 P) .nil .nil) (.node (o65 b) .nil .nil)))) (.node (boot_o_6 P) (.node (boot_o_10 P) (.node (o0 P) (.node (o1 P) (.node (o71 P) .nil .nil) .nil) (.node (o0 P) .nil .nil)) (.node (o0 P) (.node (o43 P) .nil .nil) (.node (o58 P) .nil .nil))) (.node (o3 P) (.node (o10 P) (.node (o41 P) (.node (o74 P) .nil .nil) .nil) (.node (o55 P) .nil .nil)) (.node (o35 P) (.node (o46 P) .nil .nil) (.node (o0 P) .nil .nil))))))
def sT23 (w : World) (os : OsState) (b : Bool) : SharedT := ⟨tr23 w.params b, 71, {}, #[], {}, 331, os⟩
theorem pc6r : ∀ (w : World) (os : OsState), runF tabF pg w 11 (some (Value.ref 6)) 1 30 (sT22 w os (so w)) (piecesOf sts6 env0 cd0 ⟨24, 0, 24, 6⟩ fr0) = some (.next, sT23 w os (so w), cd0, ⟨25, 0, 26, 30⟩) := by
  intro w os; kernel_rfl
theorem pc6 : ∀ (w : World) (os : OsState), segRun treeTable pg w 11 (some (Value.ref 6)) 1 30 (sT22 w os (so w)).abs (piecesOf sts6 env0 cd0 ⟨24, 0, 24, 6⟩ fr0) = some (.next, (sT23 w os (so w)).abs, cd0, ⟨25, 0, 26, 30⟩) := fun w os => runOf (pc6r w os)
def sts7 : List Stmt := ((behindTheImports pg).drop 10).take 1
def o75 (P : Params) : Obj := ⟨(Value.type "list"), none, Data.seq #[(Value.int 832 331), (Value.int 833 332), (Value.int 8206 333), (Value.int 8207 334)] 0, #[]⟩
def o76 (P : Params) : Obj := ⟨(Value.type "range"), none, Data.fields #[(Value.int 8234 335), (Value.int 8239 336), (Value.int 1 337)], #[]⟩
def o77 (P : Params) : Obj := ⟨(Value.type "range_iterator"), none, Data.fields #[(Value.int 8234 0), (Value.int 5 0), (Value.int 1 0)], #[]⟩
def tr24 (P : Params) (b : Bool) : BT := (.node (boot_o_0 P) (.node (boot_o_1 P) (.node (o69 P) (.node (boot_o_7 P) (.node (o0 P) (.node (o0 P) (.node (o68 P) .nil .nil) .nil) (.node (o47 P) .nil .nil)) (.node (o11 P) (.node (o42 P) (.node (o75 P) .nil .nil) .nil) (.node (o0 P) .nil .nil))) (.node (o0 P) (.node (o7 P) (.node (o39 P) (.node (o0 P) .nil .nil) .nil) (.node (o52 P) .nil .nil)) (.node (o16 P) (.node (o0 P) .nil .nil) (.node (o59 P) .nil .nil)))) (.node (boot_o_5 P) (.node (boot_o_9 P) (.node (o6 P) (.node (o0 P) (.node (o1 P) .nil .nil) .nil) (.node (o50 P) .nil .nil)) (.node (o15 P) (.node (o1 P) (.node (o12 P) .nil .nil) .nil) (.node (o57 P) .nil .nil))) (.node (o2 P) (.node (o9 P) (.node (o40 P) (.node (o73 P) .nil .nil) .nil) (.node (o1 P) .nil .nil)) (.node (o32 b) (.node (o45 P) .nil .nil) (.node (o66 P) .nil .nil))))) (.node (boot_o_2 P) (.node (boot_o_4 P) (.node (boot_o_8 P) (.node (o1 P) (.node (o36 P) (.node (o0 P) .nil .nil) .nil) (.node (o49 b) .nil .nil)) (.node (o14 P) (.node (o0 P) (.node (o76 P) .nil .nil) .nil) (.node (o56 P) .nil .nil))) (.node (o70 P) (.node (o8 P) (.node (o0 P) (.node (o72 P) .nil .nil) .nil) (.node (o0 P) .nil .nil)) (.node (o17 P) (.node (o44 P) .nil .nil) (.node (o65 b) .nil .nil)))) (.node (boot_o_6 P) (.node (boot_o_10 P) (.node (o0 P) (.node (o1 P) (.node (o71 P) .nil .nil) .nil) (.node (o0 P) .nil .nil)) (.node (o0 P) (.node (o43 P) (.node (o77 P) .nil .nil) .nil) (.node (o58 P) .nil .nil))) (.node (o3 P) (.node (o10 P) (.node (o41 P) (.node (o74 P) .nil .nil) .nil) (.node (o55 P) .nil .nil)) (.node (o35 P) (.node (o46 P) .nil .nil) (.node (o0 P) .nil .nil))))))
def sT24 (w : World) (os : OsState) (b : Bool) : SharedT := ⟨tr24 w.params b, 75, {}, #[], {}, 340, os⟩
def stk7x0 (w : World) (os : OsState) : List Frame := match segF tabF pg w 11 (some (Value.ref 6)) 1 90 (sT23 w os (so w)) (piecesOf sts7 env0 cd0 ⟨25, 0, 26, 30⟩ fr0) with | some (_, t) => t.stack | none => []
def th7x0 (w : World) (os : OsState) : Thread := ⟨denF tabF (Code.builtin "list.extend.loop" ⟨[(Value.ref 73), (Value.ref 74), Value.none], []⟩), (Code.builtin "list.extend.loop" ⟨[(Value.ref 73), (Value.ref 74), Value.none], []⟩), ⟨27, 38, 27, 61⟩, [.ret (kf (stk7x0 w os) 0) none false [(Value.ref 73), (Value.ref 73), (Value.ref 72)] (Code.builtin "type.__call__" ⟨[(Value.type "list"), (Value.ref 72)], []⟩) ⟨27, 38, 27, 61⟩ [(Value.builtin "list.__init__"), (Value.ref 73), (Value.ref 72), (Value.builtin "list.__init__"), (Value.ref 73), (Value.ref 72)], .ret (kf (stk7x0 w os) 1) none false [(Value.ref 71)] cd0 ⟨27, 38, 27, 61⟩ [(Value.type "list"), (Value.ref 72)], topFrame ⟨0, 0, 0, 0⟩]⟩
theorem pc7x0 : ∀ (w : World) (os : OsState), segF tabF pg w 11 (some (Value.ref 6)) 1 90 (sT23 w os (so w)) (piecesOf sts7 env0 cd0 ⟨25, 0, 26, 30⟩ fr0) = some (sT24 w os (so w), th7x0 w os) := by
  refine byRow2 "set-order" ?_ ?_ <;> refine byRow2 "special-get-raises" ?_ ?_ <;> intro w os <;> kernel_rfl
def o78 (P : Params) : Obj := ⟨(Value.type "list"), none, Data.seq #[(Value.int 8234 340), (Value.int 8235 341), (Value.int 8236 342), (Value.int 8237 343), (Value.int 8238 344)] 7, #[]⟩
def o79 (P : Params) : Obj := ⟨(Value.type "range_iterator"), none, Data.fields #[(Value.int 8239 0), (Value.int 0 0), (Value.int 1 0)], #[]⟩
def tr25 (P : Params) (b : Bool) : BT := (.node (boot_o_0 P) (.node (boot_o_1 P) (.node (o69 P) (.node (boot_o_7 P) (.node (o0 P) (.node (o0 P) (.node (o68 P) .nil .nil) .nil) (.node (o47 P) .nil .nil)) (.node (o11 P) (.node (o42 P) (.node (o75 P) .nil .nil) .nil) (.node (o0 P) .nil .nil))) (.node (o0 P) (.node (o7 P) (.node (o39 P) (.node (o0 P) .nil .nil) .nil) (.node (o52 P) .nil .nil)) (.node (o16 P) (.node (o0 P) .nil .nil) (.node (o59 P) .nil .nil)))) (.node (boot_o_5 P) (.node (boot_o_9 P) (.node (o6 P) (.node (o0 P) (.node (o1 P) .nil .nil) .nil) (.node (o50 P) .nil .nil)) (.node (o15 P) (.node (o1 P) (.node (o78 P) .nil .nil) .nil) (.node (o57 P) .nil .nil))) (.node (o2 P) (.node (o9 P) (.node (o40 P) (.node (o73 P) .nil .nil) .nil) (.node (o1 P) .nil .nil)) (.node (o32 b) (.node (o45 P) .nil .nil) (.node (o66 P) .nil .nil))))) (.node (boot_o_2 P) (.node (boot_o_4 P) (.node (boot_o_8 P) (.node (o1 P) (.node (o36 P) (.node (o0 P) .nil .nil) .nil) (.node (o49 b) .nil .nil)) (.node (o14 P) (.node (o0 P) (.node (o76 P) .nil .nil) .nil) (.node (o56 P) .nil .nil))) (.node (o70 P) (.node (o8 P) (.node (o0 P) (.node (o72 P) .nil .nil) .nil) (.node (o0 P) .nil .nil)) (.node (o17 P) (.node (o44 P) .nil .nil) (.node (o65 b) .nil .nil)))) (.node (boot_o_6 P) (.node (boot_o_10 P) (.node (o0 P) (.node (o1 P) (.node (o71 P) .nil .nil) .nil) (.node (o0 P) .nil .nil)) (.node (o0 P) (.node (o43 P) (.node (o79 P) .nil .nil) .nil) (.node (o58 P) .nil .nil))) (.node (o3 P) (.node (o10 P) (.node (o41 P) (.node (o74 P) .nil .nil) .nil) (.node (o55 P) .nil .nil)) (.node (o35 P) (.node (o46 P) .nil .nil) (.node (o0 P) .nil .nil))))))
def sT25 (w : World) (os : OsState) (b : Bool) : SharedT := ⟨tr25 w.params b, 75, {}, #[], {}, 345, os⟩
theorem pc7x1 : ∀ (w : World) (os : OsState), segF tabF pg w 11 (some (Value.ref 6)) 1 85 (sT24 w os (so w)) (th7x0 w os) = some (sT25 w os (so w), th7x0 w os) := by
  intro w os; kernel_rfl
def o80 (P : Params) : Obj := ⟨(Value.type "StopIteration"), none, Data.fields #[(Value.ref 75), Value.none, Value.none, Value.none, (Value.bool false), Value.none], #[]⟩
def o81 (P : Params) : Obj := ⟨(Value.type "list"), none, Data.seq #[(Value.int 832 331), (Value.int 833 332), (Value.int 8206 333), (Value.int 8207 334), (Value.int 8234 340), (Value.int 8235 341), (Value.int 8236 342), (Value.int 8237 343), (Value.int 8238 344)] 0, #[]⟩
def o82 (P : Params) : Obj := ⟨(Value.type "range"), none, Data.fields #[(Value.int 8298 345), (Value.int 8304 346), (Value.int 1 347)], #[]⟩
def o83 (P : Params) : Obj := ⟨(Value.type "range_iterator"), none, Data.fields #[(Value.int 8298 0), (Value.int 6 0), (Value.int 1 0)], #[]⟩
def tr26 (P : Params) (b : Bool) : BT := (.node (boot_o_0 P) (.node (boot_o_1 P) (.node (o69 P) (.node (boot_o_7 P) (.node (o0 P) (.node (o0 P) (.node (o68 P) .nil .nil) .nil) (.node (o47 P) (.node (o12 P) .nil .nil) .nil)) (.node (o11 P) (.node (o42 P) (.node (o75 P) .nil .nil) .nil) (.node (o0 P) .nil .nil))) (.node (o0 P) (.node (o7 P) (.node (o39 P) (.node (o0 P) .nil .nil) .nil) (.node (o52 P) .nil .nil)) (.node (o16 P) (.node (o0 P) (.node (o0 P) .nil .nil) .nil) (.node (o59 P) .nil .nil)))) (.node (boot_o_5 P) (.node (boot_o_9 P) (.node (o6 P) (.node (o0 P) (.node (o1 P) .nil .nil) .nil) (.node (o50 P) .nil .nil)) (.node (o15 P) (.node (o1 P) (.node (o78 P) .nil .nil) .nil) (.node (o57 P) .nil .nil))) (.node (o2 P) (.node (o9 P) (.node (o40 P) (.node (o73 P) .nil .nil) .nil) (.node (o1 P) .nil .nil)) (.node (o32 b) (.node (o45 P) (.node (o81 P) .nil .nil) .nil) (.node (o66 P) .nil .nil))))) (.node (boot_o_2 P) (.node (boot_o_4 P) (.node (boot_o_8 P) (.node (o1 P) (.node (o36 P) (.node (o0 P) .nil .nil) .nil) (.node (o49 b) (.node (o83 P) .nil .nil) .nil)) (.node (o14 P) (.node (o0 P) (.node (o76 P) .nil .nil) .nil) (.node (o56 P) .nil .nil))) (.node (o70 P) (.node (o8 P) (.node (o0 P) (.node (o72 P) .nil .nil) .nil) (.node (o0 P) .nil .nil)) (.node (o17 P) (.node (o44 P) (.node (o80 P) .nil .nil) .nil) (.node (o65 b) .nil .nil)))) (.node (boot_o_6 P) (.node (boot_o_10 P) (.node (o0 P) (.node (o1 P) (.node (o71 P) .nil .nil) .nil) (.node (o0 P) .nil .nil)) (.node (o0 P) (.node (o43 P) (.node (o79 P) .nil .nil) .nil) (.node (o58 P) .nil .nil))) (.node (o3 P) (.node (o10 P) (.node (o41 P) (.node (o74 P) .nil .nil) .nil) (.node (o55 P) .nil .nil)) (.node (o35 P) (.node (o46 P) (.node (o82 P) .nil .nil) .nil) (.node (o0 P) .nil .nil))))))
def sT26 (w : World) (os : OsState) (b : Bool) : SharedT := ⟨tr26 w.params b, 81, {}, #[], {}, 350, os⟩
def stk7x2 (w : World) (os : OsState) : List Frame := match segF tabF pg w 11 (some (Value.ref 6)) 1 110 (sT25 w os (so w)) (th7x0 w os) with | some (_, t) => t.stack | none => []
def th7x2 (w : World) (os : OsState) : Thread := ⟨denF tabF (Code.builtin "list.extend.loop" ⟨[(Value.ref 79), (Value.ref 80), Value.none], []⟩), (Code.builtin "list.extend.loop" ⟨[(Value.ref 79), (Value.ref 80), Value.none], []⟩), ⟨27, 64, 27, 87⟩, [.ret (kf (stk7x2 w os) 0) none false [(Value.ref 79), (Value.ref 79), (Value.ref 78)] (Code.builtin "type.__call__" ⟨[(Value.type "list"), (Value.ref 78)], []⟩) ⟨27, 64, 27, 87⟩ [(Value.builtin "list.__init__"), (Value.ref 79), (Value.ref 78), (Value.builtin "list.__init__"), (Value.ref 79), (Value.ref 78)], .ret (kf (stk7x2 w os) 1) none false [(Value.ref 77)] cd0 ⟨27, 64, 27, 87⟩ [(Value.type "list"), (Value.ref 78)], topFrame ⟨0, 0, 0, 0⟩]⟩
theorem pc7x2 : ∀ (w : World) (os : OsState), segF tabF pg w 11 (some (Value.ref 6)) 1 110 (sT25 w os (so w)) (th7x0 w os) = some (sT26 w os (so w), th7x2 w os) := by
  refine byRow2 "set-order" ?_ ?_ <;> refine byRow2 "special-get-raises" ?_ ?_ <;> intro w os <;> kernel_rfl
def o84 (P : Params) : Obj := ⟨(Value.type "list"), none, Data.seq #[(Value.int 8298 350), (Value.int 8299 351), (Value.int 8300 352), (Value.int 8301 353), (Value.int 8302 354), (Value.int 8303 355)] 8, #[]⟩
def o85 (P : Params) : Obj := ⟨(Value.type "range_iterator"), none, Data.fields #[(Value.int 8304 0), (Value.int 0 0), (Value.int 1 0)], #[]⟩
def tr27 (P : Params) (b : Bool) : BT := (.node (boot_o_0 P) (.node (boot_o_1 P) (.node (o69 P) (.node (boot_o_7 P) (.node (o0 P) (.node (o0 P) (.node (o68 P) .nil .nil) .nil) (.node (o47 P) (.node (o84 P) .nil .nil) .nil)) (.node (o11 P) (.node (o42 P) (.node (o75 P) .nil .nil) .nil) (.node (o0 P) .nil .nil))) (.node (o0 P) (.node (o7 P) (.node (o39 P) (.node (o0 P) .nil .nil) .nil) (.node (o52 P) .nil .nil)) (.node (o16 P) (.node (o0 P) (.node (o0 P) .nil .nil) .nil) (.node (o59 P) .nil .nil)))) (.node (boot_o_5 P) (.node (boot_o_9 P) (.node (o6 P) (.node (o0 P) (.node (o1 P) .nil .nil) .nil) (.node (o50 P) .nil .nil)) (.node (o15 P) (.node (o1 P) (.node (o78 P) .nil .nil) .nil) (.node (o57 P) .nil .nil))) (.node (o2 P) (.node (o9 P) (.node (o40 P) (.node (o73 P) .nil .nil) .nil) (.node (o1 P) .nil .nil)) (.node (o32 b) (.node (o45 P) (.node (o81 P) .nil .nil) .nil) (.node (o66 P) .nil .nil))))) (.node (boot_o_2 P) (.node (boot_o_4 P) (.node (boot_o_8 P) (.node (o1 P) (.node (o36 P) (.node (o0 P) .nil .nil) .nil) (.node (o49 b) (.node (o85 P) .nil .nil) .nil)) (.node (o14 P) (.node (o0 P) (.node (o76 P) .nil .nil) .nil) (.node (o56 P) .nil .nil))) (.node (o70 P) (.node (o8 P) (.node (o0 P) (.node (o72 P) .nil .nil) .nil) (.node (o0 P) .nil .nil)) (.node (o17 P) (.node (o44 P) (.node (o80 P) .nil .nil) .nil) (.node (o65 b) .nil .nil)))) (.node (boot_o_6 P) (.node (boot_o_10 P) (.node (o0 P) (.node (o1 P) (.node (o71 P) .nil .nil) .nil) (.node (o0 P) .nil .nil)) (.node (o0 P) (.node (o43 P) (.node (o79 P) .nil .nil) .nil) (.node (o58 P) .nil .nil))) (.node (o3 P) (.node (o10 P) (.node (o41 P) (.node (o74 P) .nil .nil) .nil) (.node (o55 P) .nil .nil)) (.node (o35 P) (.node (o46 P) (.node (o82 P) .nil .nil) .nil) (.node (o0 P) .nil .nil))))))
def sT27 (w : World) (os : OsState) (b : Bool) : SharedT := ⟨tr27 w.params b, 81, {}, #[], {}, 356, os⟩
theorem pc7x3 : ∀ (w : World) (os : OsState), segF tabF pg w 11 (some (Value.ref 6)) 1 102 (sT26 w os (so w)) (th7x2 w os) = some (sT27 w os (so w), th7x2 w os) := by
  intro w os; kernel_rfl
def o86 (P : Params) : Obj := ⟨(Value.type "StopIteration"), none, Data.fields #[(Value.ref 81), Value.none, Value.none, Value.none, (Value.bool false), Value.none], #[]⟩
def o87 (P : Params) : Obj := ⟨(Value.type "list"), none, Data.seq #[(Value.int 832 331), (Value.int 833 332), (Value.int 8206 333), (Value.int 8207 334), (Value.int 8234 340), (Value.int 8235 341), (Value.int 8236 342), (Value.int 8237 343), (Value.int 8238 344), (Value.int 8298 350), (Value.int 8299 351), (Value.int 8300 352), (Value.int 8301 353), (Value.int 8302 354), (Value.int 8303 355)] 0, #[]⟩
def o88 (P : Params) : Obj := ⟨(Value.type "list_iterator"), none, Data.fields #[(Value.ref 83), (Value.int 0 0)], #[]⟩
def tr28 (P : Params) (b : Bool) : BT := (.node (boot_o_0 P) (.node (boot_o_1 P) (.node (o69 P) (.node (boot_o_7 P) (.node (o0 P) (.node (o0 P) (.node (o68 P) .nil .nil) .nil) (.node (o47 P) (.node (o84 P) .nil .nil) .nil)) (.node (o11 P) (.node (o42 P) (.node (o75 P) .nil .nil) .nil) (.node (o0 P) .nil .nil))) (.node (o0 P) (.node (o7 P) (.node (o39 P) (.node (o0 P) .nil .nil) .nil) (.node (o52 P) (.node (o87 P) .nil .nil) .nil)) (.node (o16 P) (.node (o0 P) (.node (o0 P) .nil .nil) .nil) (.node (o59 P) .nil .nil)))) (.node (boot_o_5 P) (.node (boot_o_9 P) (.node (o6 P) (.node (o0 P) (.node (o1 P) .nil .nil) .nil) (.node (o50 P) (.node (o0 P) .nil .nil) .nil)) (.node (o15 P) (.node (o1 P) (.node (o78 P) .nil .nil) .nil) (.node (o57 P) .nil .nil))) (.node (o2 P) (.node (o9 P) (.node (o40 P) (.node (o73 P) .nil .nil) .nil) (.node (o1 P) (.node (o88 P) .nil .nil) .nil)) (.node (o32 b) (.node (o45 P) (.node (o81 P) .nil .nil) .nil) (.node (o66 P) .nil .nil))))) (.node (boot_o_2 P) (.node (boot_o_4 P) (.node (boot_o_8 P) (.node (o1 P) (.node (o36 P) (.node (o0 P) .nil .nil) .nil) (.node (o49 b) (.node (o85 P) .nil .nil) .nil)) (.node (o14 P) (.node (o0 P) (.node (o76 P) .nil .nil) .nil) (.node (o56 P) .nil .nil))) (.node (o70 P) (.node (o8 P) (.node (o0 P) (.node (o72 P) .nil .nil) .nil) (.node (o0 P) (.node (o18 b) .nil .nil) .nil)) (.node (o17 P) (.node (o44 P) (.node (o80 P) .nil .nil) .nil) (.node (o65 b) .nil .nil)))) (.node (boot_o_6 P) (.node (boot_o_10 P) (.node (o0 P) (.node (o1 P) (.node (o71 P) .nil .nil) .nil) (.node (o0 P) (.node (o86 P) .nil .nil) .nil)) (.node (o0 P) (.node (o43 P) (.node (o79 P) .nil .nil) .nil) (.node (o58 P) .nil .nil))) (.node (o3 P) (.node (o10 P) (.node (o41 P) (.node (o74 P) .nil .nil) .nil) (.node (o55 P) .nil .nil)) (.node (o35 P) (.node (o46 P) (.node (o82 P) .nil .nil) .nil) (.node (o0 P) .nil .nil))))))
def sT28 (w : World) (os : OsState) (b : Bool) : SharedT := ⟨tr28 w.params b, 86, {}, #[], {}, 356, os⟩
def stk7x4 (w : World) (os : OsState) : List Frame := match segF tabF pg w 11 (some (Value.ref 6)) 1 59 (sT27 w os (so w)) (th7x2 w os) with | some (_, t) => t.stack | none => []
def th7x4 (w : World) (os : OsState) : Thread := ⟨denF tabF (Code.builtin "set.update.loop" ⟨[(Value.ref 84), (Value.ref 85)], []⟩), (Code.builtin "set.update.loop" ⟨[(Value.ref 84), (Value.ref 85)], []⟩), ⟨27, 9, 27, 88⟩, [.ret (kf (stk7x4 w os) 0) none false [] (Code.builtin "set.__init__" ⟨[(Value.ref 84), (Value.ref 83)], []⟩) ⟨27, 9, 27, 88⟩ [(Value.ref 84), (Value.ref 85)], .ret (kf (stk7x4 w os) 1) none false [(Value.ref 84), (Value.ref 84), (Value.ref 83)] (Code.builtin "type.__call__" ⟨[(Value.type "set"), (Value.ref 83)], []⟩) ⟨27, 9, 27, 88⟩ [(Value.builtin "set.__init__"), (Value.ref 84), (Value.ref 83), (Value.builtin "set.__init__"), (Value.ref 84), (Value.ref 83)], .ret (kf (stk7x4 w os) 2) none false [] cd0 ⟨27, 9, 27, 88⟩ [(Value.type "set"), (Value.ref 83)], topFrame ⟨0, 0, 0, 0⟩]⟩
theorem pc7x4 : ∀ (w : World) (os : OsState), segF tabF pg w 11 (some (Value.ref 6)) 1 59 (sT27 w os (so w)) (th7x2 w os) = some (sT28 w os (so w), th7x4 w os) := by
  refine byRow2 "set-order" ?_ ?_ <;> refine byRow2 "special-get-raises" ?_ ?_ <;> intro w os <;> kernel_rfl
def o89 (b : Bool) : Obj := ⟨(Value.type "set"), none, Data.set #[(832, (Value.int 832 331)), (833, (Value.int 833 332)), (8234, (Value.int 8234 340)), (8235, (Value.int 8235 341)), (8206, (Value.int 8206 333)), (8207, (Value.int 8207 334))] 7 ⟨31, #[0, 1, 10, 11, 14, 15], #[], 0, (!b), 1, true⟩, #[]⟩
def o90 (P : Params) : Obj := ⟨(Value.type "list_iterator"), none, Data.fields #[(Value.ref 83), (Value.int 6 0)], #[]⟩
def tr29 (P : Params) (b : Bool) : BT := (.node (boot_o_0 P) (.node (boot_o_1 P) (.node (o69 P) (.node (boot_o_7 P) (.node (o0 P) (.node (o0 P) (.node (o68 P) .nil .nil) .nil) (.node (o47 P) (.node (o84 P) .nil .nil) .nil)) (.node (o11 P) (.node (o42 P) (.node (o75 P) .nil .nil) .nil) (.node (o0 P) .nil .nil))) (.node (o0 P) (.node (o7 P) (.node (o39 P) (.node (o0 P) .nil .nil) .nil) (.node (o52 P) (.node (o87 P) .nil .nil) .nil)) (.node (o16 P) (.node (o0 P) (.node (o0 P) .nil .nil) .nil) (.node (o59 P) .nil .nil)))) (.node (boot_o_5 P) (.node (boot_o_9 P) (.node (o6 P) (.node (o0 P) (.node (o1 P) .nil .nil) .nil) (.node (o50 P) (.node (o0 P) .nil .nil) .nil)) (.node (o15 P) (.node (o1 P) (.node (o78 P) .nil .nil) .nil) (.node (o57 P) .nil .nil))) (.node (o2 P) (.node (o9 P) (.node (o40 P) (.node (o73 P) .nil .nil) .nil) (.node (o1 P) (.node (o90 P) .nil .nil) .nil)) (.node (o32 b) (.node (o45 P) (.node (o81 P) .nil .nil) .nil) (.node (o66 P) .nil .nil))))) (.node (boot_o_2 P) (.node (boot_o_4 P) (.node (boot_o_8 P) (.node (o1 P) (.node (o36 P) (.node (o0 P) .nil .nil) .nil) (.node (o49 b) (.node (o85 P) .nil .nil) .nil)) (.node (o14 P) (.node (o0 P) (.node (o76 P) .nil .nil) .nil) (.node (o56 P) .nil .nil))) (.node (o70 P) (.node (o8 P) (.node (o0 P) (.node (o72 P) .nil .nil) .nil) (.node (o0 P) (.node (o89 b) .nil .nil) .nil)) (.node (o17 P) (.node (o44 P) (.node (o80 P) .nil .nil) .nil) (.node (o65 b) .nil .nil)))) (.node (boot_o_6 P) (.node (boot_o_10 P) (.node (o0 P) (.node (o1 P) (.node (o71 P) .nil .nil) .nil) (.node (o0 P) (.node (o86 P) .nil .nil) .nil)) (.node (o0 P) (.node (o43 P) (.node (o79 P) .nil .nil) .nil) (.node (o58 P) .nil .nil))) (.node (o3 P) (.node (o10 P) (.node (o41 P) (.node (o74 P) .nil .nil) .nil) (.node (o55 P) .nil .nil)) (.node (o35 P) (.node (o46 P) (.node (o82 P) .nil .nil) .nil) (.node (o0 P) .nil .nil))))))
def sT29 (w : World) (os : OsState) (b : Bool) : SharedT := ⟨tr29 w.params b, 86, {}, #[], {}, 362, os⟩
abbrev pc7x5Q (b : Bool) (w : World) : Prop := ∀ os : OsState, segF tabF pg w 11 (some (Value.ref 6)) 1 122 (sT28 w os b) (th7x4 w os) = some (sT29 w os b, th7x4 w os)
theorem pc7x5ff (w : World) : pc7x5Q false (w.withFollow "special-get-raises" false) := by
  intro os; kernel_rfl
theorem pc7x5ft (w : World) : pc7x5Q false (w.withFollow "special-get-raises" true) := by
  intro os; kernel_rfl
theorem pc7x5tf (w : World) : pc7x5Q true (w.withFollow "special-get-raises" false) := by
  intro os; kernel_rfl
theorem pc7x5tt (w : World) : pc7x5Q true (w.withFollow "special-get-raises" true) := by
  intro os; kernel_rfl
theorem pc7x5b : ∀ (b : Bool) (w : World), pc7x5Q b w
  | false, w => byRow2 "special-get-raises" (P := pc7x5Q false) pc7x5ff pc7x5ft w
  | true, w => byRow2 "special-get-raises" (P := pc7x5Q true) pc7x5tf pc7x5tt w
theorem pc7x5 : ∀ (w : World) (os : OsState), segF tabF pg w 11 (some (Value.ref 6)) 1 122 (sT28 w os (so w)) (th7x4 w os) = some (sT29 w os (so w), th7x4 w os) := fun w os => pc7x5b (so w) w os
def o91 (b : Bool) : Obj := ⟨(Value.type "set"), none, Data.set #[(832, (Value.int 832 331)), (833, (Value.int 833 332)), (8234, (Value.int 8234 340)), (8235, (Value.int 8235 341)), (8236, (Value.int 8236 342)), (8237, (Value.int 8237 343)), (8206, (Value.int 8206 333)), (8207, (Value.int 8207 334)), (8238, (Value.int 8238 344)), (8298, (Value.int 8298 350))] 11 ⟨31, #[0, 1, 10, 11, 12, 13, 14, 15, 16, 17], #[], 0, (!b), 1, true⟩, #[]⟩
def o92 (P : Params) : Obj := ⟨(Value.type "list_iterator"), none, Data.fields #[(Value.ref 83), (Value.int 10 0)], #[]⟩
def tr30 (P : Params) (b : Bool) : BT := (.node (boot_o_0 P) (.node (boot_o_1 P) (.node (o69 P) (.node (boot_o_7 P) (.node (o0 P) (.node (o0 P) (.node (o68 P) .nil .nil) .nil) (.node (o47 P) (.node (o84 P) .nil .nil) .nil)) (.node (o11 P) (.node (o42 P) (.node (o75 P) .nil .nil) .nil) (.node (o0 P) .nil .nil))) (.node (o0 P) (.node (o7 P) (.node (o39 P) (.node (o0 P) .nil .nil) .nil) (.node (o52 P) (.node (o87 P) .nil .nil) .nil)) (.node (o16 P) (.node (o0 P) (.node (o0 P) .nil .nil) .nil) (.node (o59 P) .nil .nil)))) (.node (boot_o_5 P) (.node (boot_o_9 P) (.node (o6 P) (.node (o0 P) (.node (o1 P) .nil .nil) .nil) (.node (o50 P) (.node (o0 P) .nil .nil) .nil)) (.node (o15 P) (.node (o1 P) (.node (o78 P) .nil .nil) .nil) (.node (o57 P) .nil .nil))) (.node (o2 P) (.node (o9 P) (.node (o40 P) (.node (o73 P) .nil .nil) .nil) (.node (o1 P) (.node (o92 P) .nil .nil) .nil)) (.node (o32 b) (.node (o45 P) (.node (o81 P) .nil .nil) .nil) (.node (o66 P) .nil .nil))))) (.node (boot_o_2 P) (.node (boot_o_4 P) (.node (boot_o_8 P) (.node (o1 P) (.node (o36 P) (.node (o0 P) .nil .nil) .nil) (.node (o49 b) (.node (o85 P) .nil .nil) .nil)) (.node (o14 P) (.node (o0 P) (.node (o76 P) .nil .nil) .nil) (.node (o56 P) .nil .nil))) (.node (o70 P) (.node (o8 P) (.node (o0 P) (.node (o72 P) .nil .nil) .nil) (.node (o0 P) (.node (o91 b) .nil .nil) .nil)) (.node (o17 P) (.node (o44 P) (.node (o80 P) .nil .nil) .nil) (.node (o65 b) .nil .nil)))) (.node (boot_o_6 P) (.node (boot_o_10 P) (.node (o0 P) (.node (o1 P) (.node (o71 P) .nil .nil) .nil) (.node (o0 P) (.node (o86 P) .nil .nil) .nil)) (.node (o0 P) (.node (o43 P) (.node (o79 P) .nil .nil) .nil) (.node (o58 P) .nil .nil))) (.node (o3 P) (.node (o10 P) (.node (o41 P) (.node (o74 P) .nil .nil) .nil) (.node (o55 P) .nil .nil)) (.node (o35 P) (.node (o46 P) (.node (o82 P) .nil .nil) .nil) (.node (o0 P) .nil .nil))))))
def sT30 (w : World) (os : OsState) (b : Bool) : SharedT := ⟨tr30 w.params b, 86, {}, #[], {}, 366, os⟩
abbrev pc7x6Q (b : Bool) (w : World) : Prop := ∀ os : OsState, segF tabF pg w 11 (some (Value.ref 6)) 1 80 (sT29 w os b) (th7x4 w os) = some (sT30 w os b, th7x4 w os)
theorem pc7x6ff (w : World) : pc7x6Q false (w.withFollow "special-get-raises" false) := by
  intro os; kernel_rfl
theorem pc7x6ft (w : World) : pc7x6Q false (w.withFollow "special-get-raises" true) := by
  intro os; kernel_rfl
theorem pc7x6tf (w : World) : pc7x6Q true (w.withFollow "special-get-raises" false) := by
  intro os; kernel_rfl
theorem pc7x6tt (w : World) : pc7x6Q true (w.withFollow "special-get-raises" true) := by
  intro os; kernel_rfl
theorem pc7x6b : ∀ (b : Bool) (w : World), pc7x6Q b w
  | false, w => byRow2 "special-get-raises" (P := pc7x6Q false) pc7x6ff pc7x6ft w
  | true, w => byRow2 "special-get-raises" (P := pc7x6Q true) pc7x6tf pc7x6tt w
theorem pc7x6 : ∀ (w : World) (os : OsState), segF tabF pg w 11 (some (Value.ref 6)) 1 80 (sT29 w os (so w)) (th7x4 w os) = some (sT30 w os (so w), th7x4 w os) := fun w os => pc7x6b (so w) w os
def o93 (b : Bool) : Obj := ⟨(Value.type "set"), none, Data.set #[(832, (Value.int 832 331)), (833, (Value.int 833 332)), (8234, (Value.int 8234 340)), (8235, (Value.int 8235 341)), (8236, (Value.int 8236 342)), (8237, (Value.int 8237 343)), (8206, (Value.int 8206 333)), (8207, (Value.int 8207 334)), (8238, (Value.int 8238 344)), (8298, (Value.int 8298 350)), (8299, (Value.int 8299 351)), (8300, (Value.int 8300 352)), (8301, (Value.int 8301 353)), (8302, (Value.int 8302 354))] 15 ⟨31, #[0, 1, 10, 11, 12, 13, 14, 15, 16, 17, 18, 19, 20, 21], #[], 0, (!b), 1, true⟩, #[]⟩
def o94 (P : Params) : Obj := ⟨(Value.type "list_iterator"), none, Data.fields #[(Value.ref 83), (Value.int 14 0)], #[]⟩
def tr31 (P : Params) (b : Bool) : BT := (.node (boot_o_0 P) (.node (boot_o_1 P) (.node (o69 P) (.node (boot_o_7 P) (.node (o0 P) (.node (o0 P) (.node (o68 P) .nil .nil) .nil) (.node (o47 P) (.node (o84 P) .nil .nil) .nil)) (.node (o11 P) (.node (o42 P) (.node (o75 P) .nil .nil) .nil) (.node (o0 P) .nil .nil))) (.node (o0 P) (.node (o7 P) (.node (o39 P) (.node (o0 P) .nil .nil) .nil) (.node (o52 P) (.node (o87 P) .nil .nil) .nil)) (.node (o16 P) (.node (o0 P) (.node (o0 P) .nil .nil) .nil) (.node (o59 P) .nil .nil)))) (.node (boot_o_5 P) (.node (boot_o_9 P) (.node (o6 P) (.node (o0 P) (.node (o1 P) .nil .nil) .nil) (.node (o50 P) (.node (o0 P) .nil .nil) .nil)) (.node (o15 P) (.node (o1 P) (.node (o78 P) .nil .nil) .nil) (.node (o57 P) .nil .nil))) (.node (o2 P) (.node (o9 P) (.node (o40 P) (.node (o73 P) .nil .nil) .nil) (.node (o1 P) (.node (o94 P) .nil .nil) .nil)) (.node (o32 b) (.node (o45 P) (.node (o81 P) .nil .nil) .nil) (.node (o66 P) .nil .nil))))) (.node (boot_o_2 P) (.node (boot_o_4 P) (.node (boot_o_8 P) (.node (o1 P) (.node (o36 P) (.node (o0 P) .nil .nil) .nil) (.node (o49 b) (.node (o85 P) .nil .nil) .nil)) (.node (o14 P) (.node (o0 P) (.node (o76 P) .nil .nil) .nil) (.node (o56 P) .nil .nil))) (.node (o70 P) (.node (o8 P) (.node (o0 P) (.node (o72 P) .nil .nil) .nil) (.node (o0 P) (.node (o93 b) .nil .nil) .nil)) (.node (o17 P) (.node (o44 P) (.node (o80 P) .nil .nil) .nil) (.node (o65 b) .nil .nil)))) (.node (boot_o_6 P) (.node (boot_o_10 P) (.node (o0 P) (.node (o1 P) (.node (o71 P) .nil .nil) .nil) (.node (o0 P) (.node (o86 P) .nil .nil) .nil)) (.node (o0 P) (.node (o43 P) (.node (o79 P) .nil .nil) .nil) (.node (o58 P) .nil .nil))) (.node (o3 P) (.node (o10 P) (.node (o41 P) (.node (o74 P) .nil .nil) .nil) (.node (o55 P) .nil .nil)) (.node (o35 P) (.node (o46 P) (.node (o82 P) .nil .nil) .nil) (.node (o0 P) .nil .nil))))))
def sT31 (w : World) (os : OsState) (b : Bool) : SharedT := ⟨tr31 w.params b, 86, {}, #[], {}, 370, os⟩
abbrev pc7x7Q (b : Bool) (w : World) : Prop := ∀ os : OsState, segF tabF pg w 11 (some (Value.ref 6)) 1 80 (sT30 w os b) (th7x4 w os) = some (sT31 w os b, th7x4 w os)
theorem pc7x7ff (w : World) : pc7x7Q false (w.withFollow "special-get-raises" false) := by
  intro os; kernel_rfl
theorem pc7x7ft (w : World) : pc7x7Q false (w.withFollow "special-get-raises" true) := by
  intro os; kernel_rfl
theorem pc7x7tf (w : World) : pc7x7Q true (w.withFollow "special-get-raises" false) := by
  intro os; kernel_rfl
theorem pc7x7tt (w : World) : pc7x7Q true (w.withFollow "special-get-raises" true) := by
  intro os; kernel_rfl
theorem pc7x7b : ∀ (b : Bool) (w : World), pc7x7Q b w
  | false, w => byRow2 "special-get-raises" (P := pc7x7Q false) pc7x7ff pc7x7ft w
  | true, w => byRow2 "special-get-raises" (P := pc7x7Q true) pc7x7tf pc7x7tt w
theorem pc7x7 : ∀ (w : World) (os : OsState), segF tabF pg w 11 (some (Value.ref 6)) 1 80 (sT30 w os (so w)) (th7x4 w os) = some (sT31 w os (so w), th7x4 w os) := fun w os => pc7x7b (so w) w os
def o95 (b : Bool) : Obj := ⟨(Value.type "set"), none, Data.set #[(832, (Value.int 832 331)), (833, (Value.int 833 332)), (8234, (Value.int 8234 340)), (8235, (Value.int 8235 341)), (8236, (Value.int 8236 342)), (8237, (Value.int 8237 343)), (8206, (Value.int 8206 333)), (8207, (Value.int 8207 334)), (8238, (Value.int 8238 344)), (8298, (Value.int 8298 350)), (8299, (Value.int 8299 351)), (8300, (Value.int 8300 352)), (8301, (Value.int 8301 353)), (8302, (Value.int 8302 354)), (8303, (Value.int 8303 355))] 16 ⟨31, #[0, 1, 10, 11, 12, 13, 14, 15, 16, 17, 18, 19, 20, 21, 22], #[], 0, (!b), 1, true⟩, #[]⟩
def o96 (P : Params) : Obj := ⟨(Value.type "list_iterator"), none, Data.fields #[(Value.ref 83), (Value.int 15 0)], #[]⟩
def tr32 (P : Params) (b : Bool) : BT := (.node (boot_o_0 P) (.node (boot_o_1 P) (.node (o69 P) (.node (boot_o_7 P) (.node (o0 P) (.node (o0 P) (.node (o68 P) .nil .nil) .nil) (.node (o47 P) (.node (o84 P) .nil .nil) .nil)) (.node (o11 P) (.node (o42 P) (.node (o75 P) .nil .nil) .nil) (.node (o0 P) .nil .nil))) (.node (o0 P) (.node (o7 P) (.node (o39 P) (.node (o0 P) .nil .nil) .nil) (.node (o52 P) (.node (o87 P) .nil .nil) .nil)) (.node (o16 P) (.node (o0 P) (.node (o0 P) .nil .nil) .nil) (.node (o59 P) .nil .nil)))) (.node (boot_o_5 P) (.node (boot_o_9 P) (.node (o6 P) (.node (o0 P) (.node (o1 P) .nil .nil) .nil) (.node (o50 P) (.node (o0 P) .nil .nil) .nil)) (.node (o15 P) (.node (o1 P) (.node (o78 P) .nil .nil) .nil) (.node (o57 P) .nil .nil))) (.node (o2 P) (.node (o9 P) (.node (o40 P) (.node (o73 P) .nil .nil) .nil) (.node (o1 P) (.node (o96 P) .nil .nil) .nil)) (.node (o32 b) (.node (o45 P) (.node (o81 P) .nil .nil) .nil) (.node (o66 P) .nil .nil))))) (.node (boot_o_2 P) (.node (boot_o_4 P) (.node (boot_o_8 P) (.node (o1 P) (.node (o36 P) (.node (o0 P) .nil .nil) .nil) (.node (o49 b) (.node (o85 P) .nil .nil) .nil)) (.node (o14 P) (.node (o0 P) (.node (o76 P) .nil .nil) .nil) (.node (o56 P) .nil .nil))) (.node (o70 P) (.node (o8 P) (.node (o0 P) (.node (o72 P) .nil .nil) .nil) (.node (o0 P) (.node (o95 b) .nil .nil) .nil)) (.node (o17 P) (.node (o44 P) (.node (o80 P) .nil .nil) .nil) (.node (o65 b) .nil .nil)))) (.node (boot_o_6 P) (.node (boot_o_10 P) (.node (o0 P) (.node (o1 P) (.node (o71 P) .nil .nil) .nil) (.node (o0 P) (.node (o86 P) .nil .nil) .nil)) (.node (o0 P) (.node (o43 P) (.node (o79 P) .nil .nil) .nil) (.node (o58 P) .nil .nil))) (.node (o3 P) (.node (o10 P) (.node (o41 P) (.node (o74 P) .nil .nil) .nil) (.node (o55 P) .nil .nil)) (.node (o35 P) (.node (o46 P) (.node (o82 P) .nil .nil) .nil) (.node (o0 P) .nil .nil))))))
def sT32 (w : World) (os : OsState) (b : Bool) : SharedT := ⟨tr32 w.params b, 86, {}, #[], {}, 371, os⟩
abbrev pc7x8Q (b : Bool) (w : World) : Prop := ∀ os : OsState, segF tabF pg w 11 (some (Value.ref 6)) 1 20 (sT31 w os b) (th7x4 w os) = some (sT32 w os b, th7x4 w os)
theorem pc7x8ff (w : World) : pc7x8Q false (w.withFollow "special-get-raises" false) := by
  intro os; kernel_rfl
theorem pc7x8ft (w : World) : pc7x8Q false (w.withFollow "special-get-raises" true) := by
  intro os; kernel_rfl
theorem pc7x8tf (w : World) : pc7x8Q true (w.withFollow "special-get-raises" false) := by
  intro os; kernel_rfl
theorem pc7x8tt (w : World) : pc7x8Q true (w.withFollow "special-get-raises" true) := by
  intro os; kernel_rfl
theorem pc7x8b : ∀ (b : Bool) (w : World), pc7x8Q b w
  | false, w => byRow2 "special-get-raises" (P := pc7x8Q false) pc7x8ff pc7x8ft w
  | true, w => byRow2 "special-get-raises" (P := pc7x8Q true) pc7x8tf pc7x8tt w
theorem pc7x8 : ∀ (w : World) (os : OsState), segF tabF pg w 11 (some (Value.ref 6)) 1 20 (sT31 w os (so w)) (th7x4 w os) = some (sT32 w os (so w), th7x4 w os) := fun w os => pc7x8b (so w) w os
def o97 (P : Params) : Obj := ⟨(Value.type "dict"), none, Data.dict #[⟨PyData.keyHash P (Str.ofString "__name__"), (Value.str (Str.ofString "__name__") 165), (Value.str (Str.ofString "cpy313.stringprep") 198)⟩, ⟨PyData.keyHash P (Str.ofString "__doc__"), (Value.str (Str.ofString "__doc__") 166), Value.none⟩, ⟨PyData.keyHash P (Str.ofString "__package__"), (Value.str (Str.ofString "__package__") 167), Value.none⟩, ⟨PyData.keyHash P (Str.ofString "__loader__"), (Value.str (Str.ofString "__loader__") 168), (ldV P)⟩, ⟨PyData.keyHash P (Str.ofString "__spec__"), (Value.str (Str.ofString "__spec__") 169), Value.none⟩, ⟨PyData.keyHash P (Str.ofString "__annotations__"), (Value.str (Str.ofString "__annotations__") 170), (Value.ref 6)⟩, ⟨PyData.keyHash P (Str.ofString "__builtins__"), (Value.str (Str.ofString "__builtins__") 171), (Value.ref 4)⟩, ⟨PyData.keyHash P (Str.ofString "__file__"), (Value.str (Str.ofString "__file__") 173), (Value.str (Str.ofString "/claim/cut.py") 172)⟩, ⟨PyData.keyHash P (Str.ofString "__cached__"), (Value.str (Str.ofString "__cached__") 174), Value.none⟩, ⟨PyData.keyHash P (Str.ofString "_parse_varint"), (Value.str (Str.ofString "_parse_varint") 197), (Value.ref 21)⟩, ⟨PyData.keyHash P (Str.ofString "b1_set"), (Value.str (Str.ofString "b1_set") 259), (Value.ref 29)⟩, ⟨PyData.keyHash P (Str.ofString "in_table_b1"), (Value.str (Str.ofString "in_table_b1") 266), (Value.ref 39)⟩, ⟨PyData.keyHash P (Str.ofString "in_table_c4"), (Value.str (Str.ofString "in_table_c4") 274), (Value.ref 46)⟩, ⟨PyData.keyHash P (Str.ofString "c6_set"), (Value.str (Str.ofString "c6_set") 288), (Value.ref 48)⟩, ⟨PyData.keyHash P (Str.ofString "in_table_c6"), (Value.str (Str.ofString "in_table_c6") 295), (Value.ref 58)⟩, ⟨PyData.keyHash P (Str.ofString "c7_set"), (Value.str (Str.ofString "c7_set") 323), (Value.ref 60)⟩, ⟨PyData.keyHash P (Str.ofString "in_table_c7"), (Value.str (Str.ofString "in_table_c7") 330), (Value.ref 70)⟩, ⟨PyData.keyHash P (Str.ofString "c8_set"), (Value.str (Str.ofString "c8_set") 371), (Value.ref 84)⟩] 18, #[]⟩
def o98 (P : Params) : Obj := ⟨(Value.type "list_iterator"), none, Data.fields #[Value.none, (Value.int 15 0)], #[]⟩
def o99 (P : Params) : Obj := ⟨(Value.type "StopIteration"), none, Data.fields #[(Value.ref 86), Value.none, Value.none, Value.none, (Value.bool false), Value.none], #[]⟩
def tr33 (P : Params) (b : Bool) : BT := (.node (boot_o_0 P) (.node (boot_o_1 P) (.node (o97 P) (.node (boot_o_7 P) (.node (o0 P) (.node (o0 P) (.node (o68 P) .nil .nil) .nil) (.node (o47 P) (.node (o84 P) .nil .nil) .nil)) (.node (o11 P) (.node (o42 P) (.node (o75 P) .nil .nil) .nil) (.node (o0 P) (.node (o99 P) .nil .nil) .nil))) (.node (o0 P) (.node (o7 P) (.node (o39 P) (.node (o0 P) .nil .nil) .nil) (.node (o52 P) (.node (o87 P) .nil .nil) .nil)) (.node (o16 P) (.node (o0 P) (.node (o0 P) .nil .nil) .nil) (.node (o59 P) .nil .nil)))) (.node (boot_o_5 P) (.node (boot_o_9 P) (.node (o6 P) (.node (o0 P) (.node (o1 P) .nil .nil) .nil) (.node (o50 P) (.node (o0 P) .nil .nil) .nil)) (.node (o15 P) (.node (o1 P) (.node (o78 P) .nil .nil) .nil) (.node (o57 P) .nil .nil))) (.node (o2 P) (.node (o9 P) (.node (o40 P) (.node (o73 P) .nil .nil) .nil) (.node (o1 P) (.node (o98 P) .nil .nil) .nil)) (.node (o32 b) (.node (o45 P) (.node (o81 P) .nil .nil) .nil) (.node (o66 P) .nil .nil))))) (.node (boot_o_2 P) (.node (boot_o_4 P) (.node (boot_o_8 P) (.node (o1 P) (.node (o36 P) (.node (o0 P) .nil .nil) .nil) (.node (o49 b) (.node (o85 P) .nil .nil) .nil)) (.node (o14 P) (.node (o0 P) (.node (o76 P) .nil .nil) .nil) (.node (o56 P) .nil .nil))) (.node (o70 P) (.node (o8 P) (.node (o0 P) (.node (o72 P) .nil .nil) .nil) (.node (o0 P) (.node (o95 b) .nil .nil) .nil)) (.node (o17 P) (.node (o44 P) (.node (o80 P) .nil .nil) .nil) (.node (o65 b) .nil .nil)))) (.node (boot_o_6 P) (.node (boot_o_10 P) (.node (o0 P) (.node (o1 P) (.node (o71 P) .nil .nil) .nil) (.node (o0 P) (.node (o86 P) .nil .nil) .nil)) (.node (o0 P) (.node (o43 P) (.node (o79 P) .nil .nil) .nil) (.node (o58 P) .nil .nil))) (.node (o3 P) (.node (o10 P) (.node (o41 P) (.node (o74 P) .nil .nil) .nil) (.node (o55 P) (.node (o0 P) .nil .nil) .nil)) (.node (o35 P) (.node (o46 P) (.node (o82 P) .nil .nil) .nil) (.node (o0 P) .nil .nil))))))
def sT33 (w : World) (os : OsState) (b : Bool) : SharedT := ⟨tr33 w.params b, 88, {}, #[], {}, 372, os⟩
theorem pc7e : ∀ (w : World) (os : OsState), runF tabF pg w 11 (some (Value.ref 6)) 1 27 (sT32 w os (so w)) (th7x4 w os) = some (.next, sT33 w os (so w), cd0, ⟨27, 0, 27, 6⟩) := by
  refine byRow2 "set-order" ?_ ?_ <;> refine byRow2 "special-get-raises" ?_ ?_ <;> intro w os <;> kernel_rfl
theorem pc7 : ∀ (w : World) (os : OsState), segRun treeTable pg w 11 (some (Value.ref 6)) 1 (90 + (85 + (110 + (102 + (59 + (122 + (80 + (80 + (20 + 27))))))))) (sT23 w os (so w)).abs (piecesOf sts7 env0 cd0 ⟨25, 0, 26, 30⟩ fr0) = some (.next, (sT33 w os (so w)).abs, cd0, ⟨27, 0, 27, 6⟩) := fun w os => (seg_go (goOf (pc7x0 w os)) (seg_go (goOf (pc7x1 w os)) (seg_go (goOf (pc7x2 w os)) (seg_go (goOf (pc7x3 w os)) (seg_go (goOf (pc7x4 w os)) (seg_go (goOf (pc7x5 w os)) (seg_go (goOf (pc7x6 w os)) (seg_go (goOf (pc7x7 w os)) (seg_go (goOf (pc7x8 w os)) (runOf (pc7e w os)))))))))))
def sts8 : List Stmt := ((behindTheImports pg).drop 11).take 1
def o100 (P : Params) : Obj := ⟨(Value.type "dict"), none, Data.dict #[⟨PyData.keyHash P (Str.ofString "__name__"), (Value.str (Str.ofString "__name__") 165), (Value.str (Str.ofString "cpy313.stringprep") 198)⟩, ⟨PyData.keyHash P (Str.ofString "__doc__"), (Value.str (Str.ofString "__doc__") 166), Value.none⟩, ⟨PyData.keyHash P (Str.ofString "__package__"), (Value.str (Str.ofString "__package__") 167), Value.none⟩, ⟨PyData.keyHash P (Str.ofString "__loader__"), (Value.str (Str.ofString "__loader__") 168), (ldV P)⟩, ⟨PyData.keyHash P (Str.ofString "__spec__"), (Value.str (Str.ofString "__spec__") 169), Value.none⟩, ⟨PyData.keyHash P (Str.ofString "__annotations__"), (Value.str (Str.ofString "__annotations__") 170), (Value.ref 6)⟩, ⟨PyData.keyHash P (Str.ofString "__builtins__"), (Value.str (Str.ofString "__builtins__") 171), (Value.ref 4)⟩, ⟨PyData.keyHash P (Str.ofString "__file__"), (Value.str (Str.ofString "__file__") 173), (Value.str (Str.ofString "/claim/cut.py") 172)⟩, ⟨PyData.keyHash P (Str.ofString "__cached__"), (Value.str (Str.ofString "__cached__") 174), Value.none⟩, ⟨PyData.keyHash P (Str.ofString "_parse_varint"), (Value.str (Str.ofString "_parse_varint") 197), (Value.ref 21)⟩, ⟨PyData.keyHash P (Str.ofString "b1_set"), (Value.str (Str.ofString "b1_set") 259), (Value.ref 29)⟩, ⟨PyData.keyHash P (Str.ofString "in_table_b1"), (Value.str (Str.ofString "in_table_b1") 266), (Value.ref 39)⟩, ⟨PyData.keyHash P (Str.ofString "in_table_c4"), (Value.str (Str.ofString "in_table_c4") 274), (Value.ref 46)⟩, ⟨PyData.keyHash P (Str.ofString "c6_set"), (Value.str (Str.ofString "c6_set") 288), (Value.ref 48)⟩, ⟨PyData.keyHash P (Str.ofString "in_table_c6"), (Value.str (Str.ofString "in_table_c6") 295), (Value.ref 58)⟩, ⟨PyData.keyHash P (Str.ofString "c7_set"), (Value.str (Str.ofString "c7_set") 323), (Value.ref 60)⟩, ⟨PyData.keyHash P (Str.ofString "in_table_c7"), (Value.str (Str.ofString "in_table_c7") 330), (Value.ref 70)⟩, ⟨PyData.keyHash P (Str.ofString "c8_set"), (Value.str (Str.ofString "c8_set") 371), (Value.ref 84)⟩, ⟨PyData.keyHash P (Str.ofString "in_table_c8"), (Value.str (Str.ofString "in_table_c8") 378), (Value.ref 94)⟩] 19, #[]⟩
def o101 (P : Params) : Obj := ⟨Value.none, none, Data.fields #[(Value.int 2 0), (Value.int 0 0), (Value.ref 20), (Value.int 12 0), (Value.int 0 0), (Value.ref 38), (Value.int 14 0), (Value.int 0 0), (Value.ref 45), (Value.int 22 0), (Value.int 0 0), (Value.ref 57), (Value.int 25 0), (Value.int 0 0), (Value.ref 69), (Value.int 28 0), (Value.int 0 0), (Value.ref 93)], #[]⟩
def o102 (P : Params) : Obj := ⟨(Value.type "tuple"), none, Data.seq #[(Value.str (Str.ofString "code") 375)] 0, #[]⟩
def o103 (P : Params) : Obj := ⟨Value.none, none, Data.func ⟨(Str.ofString "in_table_c8"), (Str.ofString "in_table_c8"), stA 11, .stmts (stB 11), stS 11, 0, [], Value.none, Value.none, Value.none, Value.none, none, Value.none, Value.none, 0⟩, #[]⟩
def o104 (P : Params) : Obj := ⟨(Value.type "code"), none, Data.fields #[(Value.str (Str.ofString "in_table_c8") 372), (Value.str (Str.ofString "in_table_c8") 373), (Value.str (Str.ofString "/claim/cut.py") 374), (Value.int 28 0), (Value.int 1 0), (Value.int 0 0), (Value.int 0 0), (Value.int 3 0), (Value.ref 88), (Value.bool true), (Value.int 181 0), (Value.ref 89), Value.none, (Value.ref 90), (Value.ref 91), (Value.ref 92), (Value.int 376 0), (Value.int 28 0), (Value.str (Str.ofString "/claim/cut.py") 377)], #[]⟩
def o105 (P : Params) : Obj := ⟨(Value.type "function"), none, Data.func ⟨(Str.ofString "in_table_c8"), (Str.ofString "in_table_c8"), stA 11, .stmts (stB 11), stS 11, 3, [], Value.none, Value.none, Value.none, (Value.str (Str.ofString "cpy313.stringprep") 198), none, (Value.ref 93), Value.none, 0⟩, #[]⟩
def tr34 (P : Params) (b : Bool) : BT := (.node (boot_o_0 P) (.node (boot_o_1 P) (.node (o100 P) (.node (boot_o_7 P) (.node (o0 P) (.node (o0 P) (.node (o68 P) .nil .nil) .nil) (.node (o47 P) (.node (o84 P) .nil .nil) .nil)) (.node (o11 P) (.node (o42 P) (.node (o75 P) .nil .nil) .nil) (.node (o0 P) (.node (o99 P) .nil .nil) .nil))) (.node (o0 P) (.node (o7 P) (.node (o39 P) (.node (o0 P) .nil .nil) .nil) (.node (o52 P) (.node (o87 P) .nil .nil) .nil)) (.node (o16 P) (.node (o0 P) (.node (o0 P) .nil .nil) .nil) (.node (o59 P) (.node (o0 P) .nil .nil) .nil)))) (.node (boot_o_5 P) (.node (boot_o_9 P) (.node (o6 P) (.node (o0 P) (.node (o1 P) .nil .nil) .nil) (.node (o50 P) (.node (o0 P) .nil .nil) .nil)) (.node (o15 P) (.node (o1 P) (.node (o78 P) .nil .nil) .nil) (.node (o57 P) (.node (o1 P) .nil .nil) .nil))) (.node (o2 P) (.node (o9 P) (.node (o40 P) (.node (o73 P) .nil .nil) .nil) (.node (o1 P) (.node (o98 P) .nil .nil) .nil)) (.node (o32 b) (.node (o45 P) (.node (o81 P) .nil .nil) .nil) (.node (o66 P) (.node (o104 P) .nil .nil) .nil))))) (.node (boot_o_2 P) (.node (boot_o_4 P) (.node (boot_o_8 P) (.node (o1 P) (.node (o36 P) (.node (o0 P) .nil .nil) .nil) (.node (o49 b) (.node (o85 P) .nil .nil) .nil)) (.node (o14 P) (.node (o0 P) (.node (o76 P) .nil .nil) .nil) (.node (o56 P) (.node (o0 P) .nil .nil) .nil))) (.node (o101 P) (.node (o8 P) (.node (o0 P) (.node (o72 P) .nil .nil) .nil) (.node (o0 P) (.node (o95 b) .nil .nil) .nil)) (.node (o17 P) (.node (o44 P) (.node (o80 P) .nil .nil) .nil) (.node (o65 b) (.node (o103 P) .nil .nil) .nil)))) (.node (boot_o_6 P) (.node (boot_o_10 P) (.node (o0 P) (.node (o1 P) (.node (o71 P) .nil .nil) .nil) (.node (o0 P) (.node (o86 P) .nil .nil) .nil)) (.node (o0 P) (.node (o43 P) (.node (o79 P) .nil .nil) .nil) (.node (o58 P) (.node (o102 P) .nil .nil) .nil))) (.node (o3 P) (.node (o10 P) (.node (o41 P) (.node (o74 P) .nil .nil) .nil) (.node (o55 P) (.node (o0 P) .nil .nil) .nil)) (.node (o35 P) (.node (o46 P) (.node (o82 P) .nil .nil) .nil) (.node (o0 P) (.node (o105 P) .nil .nil) .nil))))))
def sT34 (w : World) (os : OsState) (b : Bool) : SharedT := ⟨tr34 w.params b, 95, {}, #[], {}, 379, os⟩
theorem pc8r : ∀ (w : World) (os : OsState), runF tabF pg w 11 (some (Value.ref 6)) 1 30 (sT33 w os (so w)) (piecesOf sts8 env0 cd0 ⟨27, 0, 27, 6⟩ fr0) = some (.next, sT34 w os (so w), cd0, ⟨28, 0, 29, 30⟩) := by
  intro w os; kernel_rfl
theorem pc8 : ∀ (w : World) (os : OsState), segRun treeTable pg w 11 (some (Value.ref 6)) 1 30 (sT33 w os (so w)).abs (piecesOf sts8 env0 cd0 ⟨27, 0, 27, 6⟩ fr0) = some (.next, (sT34 w os (so w)).abs, cd0, ⟨28, 0, 29, 30⟩) := fun w os => runOf (pc8r w os)
def sts9 : List Stmt := ((behindTheImports pg).drop 12).take 1
def o106 (P : Params) : Obj := ⟨(Value.type "list"), none, Data.seq #[(Value.int 917505 379)] 0, #[]⟩
def o107 (P : Params) : Obj := ⟨(Value.type "range"), none, Data.fields #[(Value.int 917536 380), (Value.int 917632 381), (Value.int 1 382)], #[]⟩
def o108 (P : Params) : Obj := ⟨(Value.type "range_iterator"), none, Data.fields #[(Value.int 917536 0), (Value.int 96 0), (Value.int 1 0)], #[]⟩
def tr35 (P : Params) (b : Bool) : BT := (.node (boot_o_0 P) (.node (boot_o_1 P) (.node (o100 P) (.node (boot_o_7 P) (.node (o0 P) (.node (o0 P) (.node (o68 P) .nil .nil) (.node (o106 P) .nil .nil)) (.node (o47 P) (.node (o84 P) .nil .nil) .nil)) (.node (o11 P) (.node (o42 P) (.node (o75 P) .nil .nil) .nil) (.node (o0 P) (.node (o99 P) .nil .nil) .nil))) (.node (o0 P) (.node (o7 P) (.node (o39 P) (.node (o0 P) .nil .nil) .nil) (.node (o52 P) (.node (o87 P) .nil .nil) .nil)) (.node (o16 P) (.node (o0 P) (.node (o0 P) .nil .nil) .nil) (.node (o59 P) (.node (o0 P) .nil .nil) .nil)))) (.node (boot_o_5 P) (.node (boot_o_9 P) (.node (o6 P) (.node (o0 P) (.node (o1 P) .nil .nil) (.node (o12 P) .nil .nil)) (.node (o50 P) (.node (o0 P) .nil .nil) .nil)) (.node (o15 P) (.node (o1 P) (.node (o78 P) .nil .nil) .nil) (.node (o57 P) (.node (o1 P) .nil .nil) .nil))) (.node (o2 P) (.node (o9 P) (.node (o40 P) (.node (o73 P) .nil .nil) .nil) (.node (o1 P) (.node (o98 P) .nil .nil) .nil)) (.node (o32 b) (.node (o45 P) (.node (o81 P) .nil .nil) .nil) (.node (o66 P) (.node (o104 P) .nil .nil) .nil))))) (.node (boot_o_2 P) (.node (boot_o_4 P) (.node (boot_o_8 P) (.node (o1 P) (.node (o36 P) (.node (o0 P) .nil .nil) (.node (o107 P) .nil .nil)) (.node (o49 b) (.node (o85 P) .nil .nil) .nil)) (.node (o14 P) (.node (o0 P) (.node (o76 P) .nil .nil) .nil) (.node (o56 P) (.node (o0 P) .nil .nil) .nil))) (.node (o101 P) (.node (o8 P) (.node (o0 P) (.node (o72 P) .nil .nil) .nil) (.node (o0 P) (.node (o95 b) .nil .nil) .nil)) (.node (o17 P) (.node (o44 P) (.node (o80 P) .nil .nil) .nil) (.node (o65 b) (.node (o103 P) .nil .nil) .nil)))) (.node (boot_o_6 P) (.node (boot_o_10 P) (.node (o0 P) (.node (o1 P) (.node (o71 P) .nil .nil) (.node (o108 P) .nil .nil)) (.node (o0 P) (.node (o86 P) .nil .nil) .nil)) (.node (o0 P) (.node (o43 P) (.node (o79 P) .nil .nil) .nil) (.node (o58 P) (.node (o102 P) .nil .nil) .nil))) (.node (o3 P) (.node (o10 P) (.node (o41 P) (.node (o74 P) .nil .nil) .nil) (.node (o55 P) (.node (o0 P) .nil .nil) .nil)) (.node (o35 P) (.node (o46 P) (.node (o82 P) .nil .nil) .nil) (.node (o0 P) (.node (o105 P) .nil .nil) .nil))))))
def sT35 (w : World) (os : OsState) (b : Bool) : SharedT := ⟨tr35 w.params b, 99, {}, #[], {}, 385, os⟩
def stk9x0 (w : World) (os : OsState) : List Frame := match segF tabF pg w 11 (some (Value.ref 6)) 1 87 (sT34 w os (so w)) (piecesOf sts9 env0 cd0 ⟨28, 0, 29, 30⟩ fr0) with | some (_, t) => t.stack | none => []
def th9x0 (w : World) (os : OsState) : Thread := ⟨denF tabF (Code.builtin "list.extend.loop" ⟨[(Value.ref 97), (Value.ref 98), Value.none], []⟩), (Code.builtin "list.extend.loop" ⟨[(Value.ref 97), (Value.ref 98), Value.none], []⟩), ⟨30, 24, 30, 51⟩, [.ret (kf (stk9x0 w os) 0) none false [(Value.ref 97), (Value.ref 97), (Value.ref 96)] (Code.builtin "type.__call__" ⟨[(Value.type "list"), (Value.ref 96)], []⟩) ⟨30, 24, 30, 51⟩ [(Value.builtin "list.__init__"), (Value.ref 97), (Value.ref 96), (Value.builtin "list.__init__"), (Value.ref 97), (Value.ref 96)], .ret (kf (stk9x0 w os) 1) none false [(Value.ref 95)] cd0 ⟨30, 24, 30, 51⟩ [(Value.type "list"), (Value.ref 96)], topFrame ⟨0, 0, 0, 0⟩]⟩
theorem pc9x0 : ∀ (w : World) (os : OsState), segF tabF pg w 11 (some (Value.ref 6)) 1 87 (sT34 w os (so w)) (piecesOf sts9 env0 cd0 ⟨28, 0, 29, 30⟩ fr0) = some (sT35 w os (so w), th9x0 w os) := by
  refine byRow2 "set-order" ?_ ?_ <;> refine byRow2 "special-get-raises" ?_ ?_ <;> intro w os <;> kernel_rfl
def o109 (P : Params) : Obj := ⟨(Value.type "list"), none, Data.seq #[(Value.int 917536 385), (Value.int 917537 386), (Value.int 917538 387), (Value.int 917539 388), (Value.int 917540 389), (Value.int 917541 390), (Value.int 917542 391), (Value.int 917543 392), (Value.int 917544 393), (Value.int 917545 394), (Value.int 917546 395), (Value.int 917547 396), (Value.int 917548 397), (Value.int 917549 398), (Value.int 917550 399), (Value.int 917551 400), (Value.int 917552 401), (Value.int 917553 402), (Value.int 917554 403), (Value.int 917555 404), (Value.int 917556 405), (Value.int 917557 406), (Value.int 917558 407), (Value.int 917559 408), (Value.int 917560 409), (Value.int 917561 410)] 28, #[]⟩
def o110 (P : Params) : Obj := ⟨(Value.type "range_iterator"), none, Data.fields #[(Value.int 917562 0), (Value.int 70 0), (Value.int 1 0)], #[]⟩
def tr36 (P : Params) (b : Bool) : BT := (.node (boot_o_0 P) (.node (boot_o_1 P) (.node (o100 P) (.node (boot_o_7 P) (.node (o0 P) (.node (o0 P) (.node (o68 P) .nil .nil) (.node (o106 P) .nil .nil)) (.node (o47 P) (.node (o84 P) .nil .nil) .nil)) (.node (o11 P) (.node (o42 P) (.node (o75 P) .nil .nil) .nil) (.node (o0 P) (.node (o99 P) .nil .nil) .nil))) (.node (o0 P) (.node (o7 P) (.node (o39 P) (.node (o0 P) .nil .nil) .nil) (.node (o52 P) (.node (o87 P) .nil .nil) .nil)) (.node (o16 P) (.node (o0 P) (.node (o0 P) .nil .nil) .nil) (.node (o59 P) (.node (o0 P) .nil .nil) .nil)))) (.node (boot_o_5 P) (.node (boot_o_9 P) (.node (o6 P) (.node (o0 P) (.node (o1 P) .nil .nil) (.node (o109 P) .nil .nil)) (.node (o50 P) (.node (o0 P) .nil .nil) .nil)) (.node (o15 P) (.node (o1 P) (.node (o78 P) .nil .nil) .nil) (.node (o57 P) (.node (o1 P) .nil .nil) .nil))) (.node (o2 P) (.node (o9 P) (.node (o40 P) (.node (o73 P) .nil .nil) .nil) (.node (o1 P) (.node (o98 P) .nil .nil) .nil)) (.node (o32 b) (.node (o45 P) (.node (o81 P) .nil .nil) .nil) (.node (o66 P) (.node (o104 P) .nil .nil) .nil))))) (.node (boot_o_2 P) (.node (boot_o_4 P) (.node (boot_o_8 P) (.node (o1 P) (.node (o36 P) (.node (o0 P) .nil .nil) (.node (o107 P) .nil .nil)) (.node (o49 b) (.node (o85 P) .nil .nil) .nil)) (.node (o14 P) (.node (o0 P) (.node (o76 P) .nil .nil) .nil) (.node (o56 P) (.node (o0 P) .nil .nil) .nil))) (.node (o101 P) (.node (o8 P) (.node (o0 P) (.node (o72 P) .nil .nil) .nil) (.node (o0 P) (.node (o95 b) .nil .nil) .nil)) (.node (o17 P) (.node (o44 P) (.node (o80 P) .nil .nil) .nil) (.node (o65 b) (.node (o103 P) .nil .nil) .nil)))) (.node (boot_o_6 P) (.node (boot_o_10 P) (.node (o0 P) (.node (o1 P) (.node (o71 P) .nil .nil) (.node (o110 P) .nil .nil)) (.node (o0 P) (.node (o86 P) .nil .nil) .nil)) (.node (o0 P) (.node (o43 P) (.node (o79 P) .nil .nil) .nil) (.node (o58 P) (.node (o102 P) .nil .nil) .nil))) (.node (o3 P) (.node (o10 P) (.node (o41 P) (.node (o74 P) .nil .nil) .nil) (.node (o55 P) (.node (o0 P) .nil .nil) .nil)) (.node (o35 P) (.node (o46 P) (.node (o82 P) .nil .nil) .nil) (.node (o0 P) (.node (o105 P) .nil .nil) .nil))))))
def sT36 (w : World) (os : OsState) (b : Bool) : SharedT := ⟨tr36 w.params b, 99, {}, #[], {}, 411, os⟩
theorem pc9x1 : ∀ (w : World) (os : OsState), segF tabF pg w 11 (some (Value.ref 6)) 1 442 (sT35 w os (so w)) (th9x0 w os) = some (sT36 w os (so w), th9x0 w os) := by
  intro w os; kernel_rfl
def o111 (P : Params) : Obj := ⟨(Value.type "list"), none, Data.seq #[(Value.int 917536 385), (Value.int 917537 386), (Value.int 917538 387), (Value.int 917539 388), (Value.int 917540 389), (Value.int 917541 390), (Value.int 917542 391), (Value.int 917543 392), (Value.int 917544 393), (Value.int 917545 394), (Value.int 917546 395), (Value.int 917547 396), (Value.int 917548 397), (Value.int 917549 398), (Value.int 917550 399), (Value.int 917551 400), (Value.int 917552 401), (Value.int 917553 402), (Value.int 917554 403), (Value.int 917555 404), (Value.int 917556 405), (Value.int 917557 406), (Value.int 917558 407), (Value.int 917559 408), (Value.int 917560 409), (Value.int 917561 410), (Value.int 917562 411), (Value.int 917563 412), (Value.int 917564 413), (Value.int 917565 414), (Value.int 917566 415), (Value.int 917567 416), (Value.int 917568 417), (Value.int 917569 418), (Value.int 917570 419), (Value.int 917571 420), (Value.int 917572 421), (Value.int 917573 422), (Value.int 917574 423), (Value.int 917575 424), (Value.int 917576 425), (Value.int 917577 426), (Value.int 917578 427), (Value.int 917579 428), (Value.int 917580 429), (Value.int 917581 430), (Value.int 917582 431), (Value.int 917583 432), (Value.int 917584 433), (Value.int 917585 434)] 52, #[]⟩
def o112 (P : Params) : Obj := ⟨(Value.type "range_iterator"), none, Data.fields #[(Value.int 917586 0), (Value.int 46 0), (Value.int 1 0)], #[]⟩
def tr37 (P : Params) (b : Bool) : BT := (.node (boot_o_0 P) (.node (boot_o_1 P) (.node (o100 P) (.node (boot_o_7 P) (.node (o0 P) (.node (o0 P) (.node (o68 P) .nil .nil) (.node (o106 P) .nil .nil)) (.node (o47 P) (.node (o84 P) .nil .nil) .nil)) (.node (o11 P) (.node (o42 P) (.node (o75 P) .nil .nil) .nil) (.node (o0 P) (.node (o99 P) .nil .nil) .nil))) (.node (o0 P) (.node (o7 P) (.node (o39 P) (.node (o0 P) .nil .nil) .nil) (.node (o52 P) (.node (o87 P) .nil .nil) .nil)) (.node (o16 P) (.node (o0 P) (.node (o0 P) .nil .nil) .nil) (.node (o59 P) (.node (o0 P) .nil .nil) .nil)))) (.node (boot_o_5 P) (.node (boot_o_9 P) (.node (o6 P) (.node (o0 P) (.node (o1 P) .nil .nil) (.node (o111 P) .nil .nil)) (.node (o50 P) (.node (o0 P) .nil .nil) .nil)) (.node (o15 P) (.node (o1 P) (.node (o78 P) .nil .nil) .nil) (.node (o57 P) (.node (o1 P) .nil .nil) .nil))) (.node (o2 P) (.node (o9 P) (.node (o40 P) (.node (o73 P) .nil .nil) .nil) (.node (o1 P) (.node (o98 P) .nil .nil) .nil)) (.node (o32 b) (.node (o45 P) (.node (o81 P) .nil .nil) .nil) (.node (o66 P) (.node (o104 P) .nil .nil) .nil))))) (.node (boot_o_2 P) (.node (boot_o_4 P) (.node (boot_o_8 P) (.node (o1 P) (.node (o36 P) (.node (o0 P) .nil .nil) (.node (o107 P) .nil .nil)) (.node (o49 b) (.node (o85 P) .nil .nil) .nil)) (.node (o14 P) (.node (o0 P) (.node (o76 P) .nil .nil) .nil) (.node (o56 P) (.node (o0 P) .nil .nil) .nil))) (.node (o101 P) (.node (o8 P) (.node (o0 P) (.node (o72 P) .nil .nil) .nil) (.node (o0 P) (.node (o95 b) .nil .nil) .nil)) (.node (o17 P) (.node (o44 P) (.node (o80 P) .nil .nil) .nil) (.node (o65 b) (.node (o103 P) .nil .nil) .nil)))) (.node (boot_o_6 P) (.node (boot_o_10 P) (.node (o0 P) (.node (o1 P) (.node (o71 P) .nil .nil) (.node (o112 P) .nil .nil)) (.node (o0 P) (.node (o86 P) .nil .nil) .nil)) (.node (o0 P) (.node (o43 P) (.node (o79 P) .nil .nil) .nil) (.node (o58 P) (.node (o102 P) .nil .nil) .nil))) (.node (o3 P) (.node (o10 P) (.node (o41 P) (.node (o74 P) .nil .nil) .nil) (.node (o55 P) (.node (o0 P) .nil .nil) .nil)) (.node (o35 P) (.node (o46 P) (.node (o82 P) .nil .nil) .nil) (.node (o0 P) (.node (o105 P) .nil .nil) .nil))))))
def sT37 (w : World) (os : OsState) (b : Bool) : SharedT := ⟨tr37 w.params b, 99, {}, #[], {}, 435, os⟩
theorem pc9x2 : ∀ (w : World) (os : OsState), segF tabF pg w 11 (some (Value.ref 6)) 1 408 (sT36 w os (so w)) (th9x0 w os) = some (sT37 w os (so w), th9x0 w os) := by
  intro w os; kernel_rfl
def o113 (P : Params) : Obj := ⟨(Value.type "list"), none, Data.seq #[(Value.int 917536 385), (Value.int 917537 386), (Value.int 917538 387), (Value.int 917539 388), (Value.int 917540 389), (Value.int 917541 390), (Value.int 917542 391), (Value.int 917543 392), (Value.int 917544 393), (Value.int 917545 394), (Value.int 917546 395), (Value.int 917547 396), (Value.int 917548 397), (Value.int 917549 398), (Value.int 917550 399), (Value.int 917551 400), (Value.int 917552 401), (Value.int 917553 402), (Value.int 917554 403), (Value.int 917555 404), (Value.int 917556 405), (Value.int 917557 406), (Value.int 917558 407), (Value.int 917559 408), (Value.int 917560 409), (Value.int 917561 410), (Value.int 917562 411), (Value.int 917563 412), (Value.int 917564 413), (Value.int 917565 414), (Value.int 917566 415), (Value.int 917567 416), (Value.int 917568 417), (Value.int 917569 418), (Value.int 917570 419), (Value.int 917571 420), (Value.int 917572 421), (Value.int 917573 422), (Value.int 917574 423), (Value.int 917575 424), (Value.int 917576 425), (Value.int 917577 426), (Value.int 917578 427), (Value.int 917579 428), (Value.int 917580 429), (Value.int 917581 430), (Value.int 917582 431), (Value.int 917583 432), (Value.int 917584 433), (Value.int 917585 434), (Value.int 917586 435), (Value.int 917587 436), (Value.int 917588 437), (Value.int 917589 438), (Value.int 917590 439), (Value.int 917591 440), (Value.int 917592 441), (Value.int 917593 442), (Value.int 917594 443), (Value.int 917595 444), (Value.int 917596 445), (Value.int 917597 446), (Value.int 917598 447), (Value.int 917599 448), (Value.int 917600 449), (Value.int 917601 450), (Value.int 917602 451), (Value.int 917603 452), (Value.int 917604 453), (Value.int 917605 454), (Value.int 917606 455), (Value.int 917607 456), (Value.int 917608 457), (Value.int 917609 458)] 76, #[]⟩
def o114 (P : Params) : Obj := ⟨(Value.type "range_iterator"), none, Data.fields #[(Value.int 917610 0), (Value.int 22 0), (Value.int 1 0)], #[]⟩
def tr38 (P : Params) (b : Bool) : BT := (.node (boot_o_0 P) (.node (boot_o_1 P) (.node (o100 P) (.node (boot_o_7 P) (.node (o0 P) (.node (o0 P) (.node (o68 P) .nil .nil) (.node (o106 P) .nil .nil)) (.node (o47 P) (.node (o84 P) .nil .nil) .nil)) (.node (o11 P) (.node (o42 P) (.node (o75 P) .nil .nil) .nil) (.node (o0 P) (.node (o99 P) .nil .nil) .nil))) (.node (o0 P) (.node (o7 P) (.node (o39 P) (.node (o0 P) .nil .nil) .nil) (.node (o52 P) (.node (o87 P) .nil .nil) .nil)) (.node (o16 P) (.node (o0 P) (.node (o0 P) .nil .nil) .nil) (.node (o59 P) (.node (o0 P) .nil .nil) .nil)))) (.node (boot_o_5 P) (.node (boot_o_9 P) (.node (o6 P) (.node (o0 P) (.node (o1 P) .nil .nil) (.node (o113 P) .nil .nil)) (.node (o50 P) (.node (o0 P) .nil .nil) .nil)) (.node (o15 P) (.node (o1 P) (.node (o78 P) .nil .nil) .nil) (.node (o57 P) (.node (o1 P) .nil .nil) .nil))) (.node (o2 P) (.node (o9 P) (.node (o40 P) (.node (o73 P) .nil .nil) .nil) (.node (o1 P) (.node (o98 P) .nil .nil) .nil)) (.node (o32 b) (.node (o45 P) (.node (o81 P) .nil .nil) .nil) (.node (o66 P) (.node (o104 P) .nil .nil) .nil))))) (.node (boot_o_2 P) (.node (boot_o_4 P) (.node (boot_o_8 P) (.node (o1 P) (.node (o36 P) (.node (o0 P) .nil .nil) (.node (o107 P) .nil .nil)) (.node (o49 b) (.node (o85 P) .nil .nil) .nil)) (.node (o14 P) (.node (o0 P) (.node (o76 P) .nil .nil) .nil) (.node (o56 P) (.node (o0 P) .nil .nil) .nil))) (.node (o101 P) (.node (o8 P) (.node (o0 P) (.node (o72 P) .nil .nil) .nil) (.node (o0 P) (.node (o95 b) .nil .nil) .nil)) (.node (o17 P) (.node (o44 P) (.node (o80 P) .nil .nil) .nil) (.node (o65 b) (.node (o103 P) .nil .nil) .nil)))) (.node (boot_o_6 P) (.node (boot_o_10 P) (.node (o0 P) (.node (o1 P) (.node (o71 P) .nil .nil) (.node (o114 P) .nil .nil)) (.node (o0 P) (.node (o86 P) .nil .nil) .nil)) (.node (o0 P) (.node (o43 P) (.node (o79 P) .nil .nil) .nil) (.node (o58 P) (.node (o102 P) .nil .nil) .nil))) (.node (o3 P) (.node (o10 P) (.node (o41 P) (.node (o74 P) .nil .nil) .nil) (.node (o55 P) (.node (o0 P) .nil .nil) .nil)) (.node (o35 P) (.node (o46 P) (.node (o82 P) .nil .nil) .nil) (.node (o0 P) (.node (o105 P) .nil .nil) .nil))))))
def sT38 (w : World) (os : OsState) (b : Bool) : SharedT := ⟨tr38 w.params b, 99, {}, #[], {}, 459, os⟩
theorem pc9x3 : ∀ (w : World) (os : OsState), segF tabF pg w 11 (some (Value.ref 6)) 1 408 (sT37 w os (so w)) (th9x0 w os) = some (sT38 w os (so w), th9x0 w os) := by
  intro w os; kernel_rfl
def o115 (P : Params) : Obj := ⟨(Value.type "list"), none, Data.seq #[(Value.int 917536 385), (Value.int 917537 386), (Value.int 917538 387), (Value.int 917539 388), (Value.int 917540 389), (Value.int 917541 390), (Value.int 917542 391), (Value.int 917543 392), (Value.int 917544 393), (Value.int 917545 394), (Value.int 917546 395), (Value.int 917547 396), (Value.int 917548 397), (Value.int 917549 398), (Value.int 917550 399), (Value.int 917551 400), (Value.int 917552 401), (Value.int 917553 402), (Value.int 917554 403), (Value.int 917555 404), (Value.int 917556 405), (Value.int 917557 406), (Value.int 917558 407), (Value.int 917559 408), (Value.int 917560 409), (Value.int 917561 410), (Value.int 917562 411), (Value.int 917563 412), (Value.int 917564 413), (Value.int 917565 414), (Value.int 917566 415), (Value.int 917567 416), (Value.int 917568 417), (Value.int 917569 418), (Value.int 917570 419), (Value.int 917571 420), (Value.int 917572 421), (Value.int 917573 422), (Value.int 917574 423), (Value.int 917575 424), (Value.int 917576 425), (Value.int 917577 426), (Value.int 917578 427), (Value.int 917579 428), (Value.int 917580 429), (Value.int 917581 430), (Value.int 917582 431), (Value.int 917583 432), (Value.int 917584 433), (Value.int 917585 434), (Value.int 917586 435), (Value.int 917587 436), (Value.int 917588 437), (Value.int 917589 438), (Value.int 917590 439), (Value.int 917591 440), (Value.int 917592 441), (Value.int 917593 442), (Value.int 917594 443), (Value.int 917595 444), (Value.int 917596 445), (Value.int 917597 446), (Value.int 917598 447), (Value.int 917599 448), (Value.int 917600 449), (Value.int 917601 450), (Value.int 917602 451), (Value.int 917603 452), (Value.int 917604 453), (Value.int 917605 454), (Value.int 917606 455), (Value.int 917607 456), (Value.int 917608 457), (Value.int 917609 458), (Value.int 917610 459), (Value.int 917611 460), (Value.int 917612 461), (Value.int 917613 462), (Value.int 917614 463), (Value.int 917615 464), (Value.int 917616 465), (Value.int 917617 466), (Value.int 917618 467), (Value.int 917619 468), (Value.int 917620 469), (Value.int 917621 470), (Value.int 917622 471), (Value.int 917623 472), (Value.int 917624 473), (Value.int 917625 474), (Value.int 917626 475), (Value.int 917627 476), (Value.int 917628 477), (Value.int 917629 478), (Value.int 917630 479), (Value.int 917631 480)] 98, #[]⟩
def o116 (P : Params) : Obj := ⟨(Value.type "range_iterator"), none, Data.fields #[(Value.int 917632 0), (Value.int 0 0), (Value.int 1 0)], #[]⟩
def tr39 (P : Params) (b : Bool) : BT := (.node (boot_o_0 P) (.node (boot_o_1 P) (.node (o100 P) (.node (boot_o_7 P) (.node (o0 P) (.node (o0 P) (.node (o68 P) .nil .nil) (.node (o106 P) .nil .nil)) (.node (o47 P) (.node (o84 P) .nil .nil) .nil)) (.node (o11 P) (.node (o42 P) (.node (o75 P) .nil .nil) .nil) (.node (o0 P) (.node (o99 P) .nil .nil) .nil))) (.node (o0 P) (.node (o7 P) (.node (o39 P) (.node (o0 P) .nil .nil) .nil) (.node (o52 P) (.node (o87 P) .nil .nil) .nil)) (.node (o16 P) (.node (o0 P) (.node (o0 P) .nil .nil) .nil) (.node (o59 P) (.node (o0 P) .nil .nil) .nil)))) (.node (boot_o_5 P) (.node (boot_o_9 P) (.node (o6 P) (.node (o0 P) (.node (o1 P) .nil .nil) (.node (o115 P) .nil .nil)) (.node (o50 P) (.node (o0 P) .nil .nil) .nil)) (.node (o15 P) (.node (o1 P) (.node (o78 P) .nil .nil) .nil) (.node (o57 P) (.node (o1 P) .nil .nil) .nil))) (.node (o2 P) (.node (o9 P) (.node (o40 P) (.node (o73 P) .nil .nil) .nil) (.node (o1 P) (.node (o98 P) .nil .nil) .nil)) (.node (o32 b) (.node (o45 P) (.node (o81 P) .nil .nil) .nil) (.node (o66 P) (.node (o104 P) .nil .nil) .nil))))) (.node (boot_o_2 P) (.node (boot_o_4 P) (.node (boot_o_8 P) (.node (o1 P) (.node (o36 P) (.node (o0 P) .nil .nil) (.node (o107 P) .nil .nil)) (.node (o49 b) (.node (o85 P) .nil .nil) .nil)) (.node (o14 P) (.node (o0 P) (.node (o76 P) .nil .nil) .nil) (.node (o56 P) (.node (o0 P) .nil .nil) .nil))) (.node (o101 P) (.node (o8 P) (.node (o0 P) (.node (o72 P) .nil .nil) .nil) (.node (o0 P) (.node (o95 b) .nil .nil) .nil)) (.node (o17 P) (.node (o44 P) (.node (o80 P) .nil .nil) .nil) (.node (o65 b) (.node (o103 P) .nil .nil) .nil)))) (.node (boot_o_6 P) (.node (boot_o_10 P) (.node (o0 P) (.node (o1 P) (.node (o71 P) .nil .nil) (.node (o116 P) .nil .nil)) (.node (o0 P) (.node (o86 P) .nil .nil) .nil)) (.node (o0 P) (.node (o43 P) (.node (o79 P) .nil .nil) .nil) (.node (o58 P) (.node (o102 P) .nil .nil) .nil))) (.node (o3 P) (.node (o10 P) (.node (o41 P) (.node (o74 P) .nil .nil) .nil) (.node (o55 P) (.node (o0 P) .nil .nil) .nil)) (.node (o35 P) (.node (o46 P) (.node (o82 P) .nil .nil) .nil) (.node (o0 P) (.node (o105 P) .nil .nil) .nil))))))
def sT39 (w : World) (os : OsState) (b : Bool) : SharedT := ⟨tr39 w.params b, 99, {}, #[], {}, 481, os⟩
theorem pc9x4 : ∀ (w : World) (os : OsState), segF tabF pg w 11 (some (Value.ref 6)) 1 374 (sT38 w os (so w)) (th9x0 w os) = some (sT39 w os (so w), th9x0 w os) := by
  intro w os; kernel_rfl
def o117 (P : Params) : Obj := ⟨(Value.type "StopIteration"), none, Data.fields #[(Value.ref 99), Value.none, Value.none, Value.none, (Value.bool false), Value.none], #[]⟩
def o118 (P : Params) : Obj := ⟨(Value.type "list"), none, Data.seq #[(Value.int 917505 379), (Value.int 917536 385), (Value.int 917537 386), (Value.int 917538 387), (Value.int 917539 388), (Value.int 917540 389), (Value.int 917541 390), (Value.int 917542 391), (Value.int 917543 392), (Value.int 917544 393), (Value.int 917545 394), (Value.int 917546 395), (Value.int 917547 396), (Value.int 917548 397), (Value.int 917549 398), (Value.int 917550 399), (Value.int 917551 400), (Value.int 917552 401), (Value.int 917553 402), (Value.int 917554 403), (Value.int 917555 404), (Value.int 917556 405), (Value.int 917557 406), (Value.int 917558 407), (Value.int 917559 408), (Value.int 917560 409), (Value.int 917561 410), (Value.int 917562 411), (Value.int 917563 412), (Value.int 917564 413), (Value.int 917565 414), (Value.int 917566 415), (Value.int 917567 416), (Value.int 917568 417), (Value.int 917569 418), (Value.int 917570 419), (Value.int 917571 420), (Value.int 917572 421), (Value.int 917573 422), (Value.int 917574 423), (Value.int 917575 424), (Value.int 917576 425), (Value.int 917577 426), (Value.int 917578 427), (Value.int 917579 428), (Value.int 917580 429), (Value.int 917581 430), (Value.int 917582 431), (Value.int 917583 432), (Value.int 917584 433), (Value.int 917585 434), (Value.int 917586 435), (Value.int 917587 436), (Value.int 917588 437), (Value.int 917589 438), (Value.int 917590 439), (Value.int 917591 440), (Value.int 917592 441), (Value.int 917593 442), (Value.int 917594 443), (Value.int 917595 444), (Value.int 917596 445), (Value.int 917597 446), (Value.int 917598 447), (Value.int 917599 448), (Value.int 917600 449), (Value.int 917601 450), (Value.int 917602 451), (Value.int 917603 452), (Value.int 917604 453), (Value.int 917605 454), (Value.int 917606 455), (Value.int 917607 456), (Value.int 917608 457), (Value.int 917609 458), (Value.int 917610 459), (Value.int 917611 460), (Value.int 917612 461), (Value.int 917613 462), (Value.int 917614 463), (Value.int 917615 464), (Value.int 917616 465), (Value.int 917617 466), (Value.int 917618 467), (Value.int 917619 468), (Value.int 917620 469), (Value.int 917621 470), (Value.int 917622 471), (Value.int 917623 472), (Value.int 917624 473), (Value.int 917625 474), (Value.int 917626 475), (Value.int 917627 476), (Value.int 917628 477), (Value.int 917629 478), (Value.int 917630 479), (Value.int 917631 480)] 0, #[]⟩
def o119 (P : Params) : Obj := ⟨(Value.type "list_iterator"), none, Data.fields #[(Value.ref 101), (Value.int 0 0)], #[]⟩
def tr40 (P : Params) (b : Bool) : BT := (.node (boot_o_0 P) (.node (boot_o_1 P) (.node (o100 P) (.node (boot_o_7 P) (.node (o0 P) (.node (o0 P) (.node (o68 P) .nil .nil) (.node (o106 P) .nil .nil)) (.node (o47 P) (.node (o84 P) .nil .nil) .nil)) (.node (o11 P) (.node (o42 P) (.node (o75 P) .nil .nil) (.node (o119 P) .nil .nil)) (.node (o0 P) (.node (o99 P) .nil .nil) .nil))) (.node (o0 P) (.node (o7 P) (.node (o39 P) (.node (o0 P) .nil .nil) (.node (o0 P) .nil .nil)) (.node (o52 P) (.node (o87 P) .nil .nil) .nil)) (.node (o16 P) (.node (o0 P) (.node (o0 P) .nil .nil) .nil) (.node (o59 P) (.node (o0 P) .nil .nil) .nil)))) (.node (boot_o_5 P) (.node (boot_o_9 P) (.node (o6 P) (.node (o0 P) (.node (o1 P) .nil .nil) (.node (o115 P) .nil .nil)) (.node (o50 P) (.node (o0 P) .nil .nil) .nil)) (.node (o15 P) (.node (o1 P) (.node (o78 P) .nil .nil) .nil) (.node (o57 P) (.node (o1 P) .nil .nil) .nil))) (.node (o2 P) (.node (o9 P) (.node (o40 P) (.node (o73 P) .nil .nil) (.node (o118 P) .nil .nil)) (.node (o1 P) (.node (o98 P) .nil .nil) .nil)) (.node (o32 b) (.node (o45 P) (.node (o81 P) .nil .nil) .nil) (.node (o66 P) (.node (o104 P) .nil .nil) .nil))))) (.node (boot_o_2 P) (.node (boot_o_4 P) (.node (boot_o_8 P) (.node (o1 P) (.node (o36 P) (.node (o0 P) .nil .nil) (.node (o107 P) .nil .nil)) (.node (o49 b) (.node (o85 P) .nil .nil) .nil)) (.node (o14 P) (.node (o0 P) (.node (o76 P) .nil .nil) .nil) (.node (o56 P) (.node (o0 P) .nil .nil) .nil))) (.node (o101 P) (.node (o8 P) (.node (o0 P) (.node (o72 P) .nil .nil) (.node (o117 P) .nil .nil)) (.node (o0 P) (.node (o95 b) .nil .nil) .nil)) (.node (o17 P) (.node (o44 P) (.node (o80 P) .nil .nil) .nil) (.node (o65 b) (.node (o103 P) .nil .nil) .nil)))) (.node (boot_o_6 P) (.node (boot_o_10 P) (.node (o0 P) (.node (o1 P) (.node (o71 P) .nil .nil) (.node (o116 P) .nil .nil)) (.node (o0 P) (.node (o86 P) .nil .nil) .nil)) (.node (o0 P) (.node (o43 P) (.node (o79 P) .nil .nil) .nil) (.node (o58 P) (.node (o102 P) .nil .nil) .nil))) (.node (o3 P) (.node (o10 P) (.node (o41 P) (.node (o74 P) .nil .nil) (.node (o18 b) .nil .nil)) (.node (o55 P) (.node (o0 P) .nil .nil) .nil)) (.node (o35 P) (.node (o46 P) (.node (o82 P) .nil .nil) .nil) (.node (o0 P) (.node (o105 P) .nil .nil) .nil))))))
def sT40 (w : World) (os : OsState) (b : Bool) : SharedT := ⟨tr40 w.params b, 104, {}, #[], {}, 481, os⟩
def stk9x5 (w : World) (os : OsState) : List Frame := match segF tabF pg w 11 (some (Value.ref 6)) 1 59 (sT39 w os (so w)) (th9x0 w os) with | some (_, t) => t.stack | none => []
def th9x5 (w : World) (os : OsState) : Thread := ⟨denF tabF (Code.builtin "set.update.loop" ⟨[(Value.ref 102), (Value.ref 103)], []⟩), (Code.builtin "set.update.loop" ⟨[(Value.ref 102), (Value.ref 103)], []⟩), ⟨30, 9, 30, 52⟩, [.ret (kf (stk9x5 w os) 0) none false [] (Code.builtin "set.__init__" ⟨[(Value.ref 102), (Value.ref 101)], []⟩) ⟨30, 9, 30, 52⟩ [(Value.ref 102), (Value.ref 103)], .ret (kf (stk9x5 w os) 1) none false [(Value.ref 102), (Value.ref 102), (Value.ref 101)] (Code.builtin "type.__call__" ⟨[(Value.type "set"), (Value.ref 101)], []⟩) ⟨30, 9, 30, 52⟩ [(Value.builtin "set.__init__"), (Value.ref 102), (Value.ref 101), (Value.builtin "set.__init__"), (Value.ref 102), (Value.ref 101)], .ret (kf (stk9x5 w os) 2) none false [] cd0 ⟨30, 9, 30, 52⟩ [(Value.type "set"), (Value.ref 101)], topFrame ⟨0, 0, 0, 0⟩]⟩
theorem pc9x5 : ∀ (w : World) (os : OsState), segF tabF pg w 11 (some (Value.ref 6)) 1 59 (sT39 w os (so w)) (th9x0 w os) = some (sT40 w os (so w), th9x5 w os) := by
  refine byRow2 "set-order" ?_ ?_ <;> refine byRow2 "special-get-raises" ?_ ?_ <;> intro w os <;> kernel_rfl
def o120 (b : Bool) : Obj := ⟨(Value.type "set"), none, Data.set #[(917536, (Value.int 917536 385)), (917505, (Value.int 917505 379)), (917538, (Value.int 917538 387)), (917539, (Value.int 917539 388)), (917537, (Value.int 917537 386)), (917540, (Value.int 917540 389))] 7 ⟨31, #[0, 1, 2, 3, 4, 5], #[], 0, (!b), 1, true⟩, #[]⟩
def o121 (P : Params) : Obj := ⟨(Value.type "list_iterator"), none, Data.fields #[(Value.ref 101), (Value.int 6 0)], #[]⟩
def tr41 (P : Params) (b : Bool) : BT := (.node (boot_o_0 P) (.node (boot_o_1 P) (.node (o100 P) (.node (boot_o_7 P) (.node (o0 P) (.node (o0 P) (.node (o68 P) .nil .nil) (.node (o106 P) .nil .nil)) (.node (o47 P) (.node (o84 P) .nil .nil) .nil)) (.node (o11 P) (.node (o42 P) (.node (o75 P) .nil .nil) (.node (o121 P) .nil .nil)) (.node (o0 P) (.node (o99 P) .nil .nil) .nil))) (.node (o0 P) (.node (o7 P) (.node (o39 P) (.node (o0 P) .nil .nil) (.node (o0 P) .nil .nil)) (.node (o52 P) (.node (o87 P) .nil .nil) .nil)) (.node (o16 P) (.node (o0 P) (.node (o0 P) .nil .nil) .nil) (.node (o59 P) (.node (o0 P) .nil .nil) .nil)))) (.node (boot_o_5 P) (.node (boot_o_9 P) (.node (o6 P) (.node (o0 P) (.node (o1 P) .nil .nil) (.node (o115 P) .nil .nil)) (.node (o50 P) (.node (o0 P) .nil .nil) .nil)) (.node (o15 P) (.node (o1 P) (.node (o78 P) .nil .nil) .nil) (.node (o57 P) (.node (o1 P) .nil .nil) .nil))) (.node (o2 P) (.node (o9 P) (.node (o40 P) (.node (o73 P) .nil .nil) (.node (o118 P) .nil .nil)) (.node (o1 P) (.node (o98 P) .nil .nil) .nil)) (.node (o32 b) (.node (o45 P) (.node (o81 P) .nil .nil) .nil) (.node (o66 P) (.node (o104 P) .nil .nil) .nil))))) (.node (boot_o_2 P) (.node (boot_o_4 P) (.node (boot_o_8 P) (.node (o1 P) (.node (o36 P) (.node (o0 P) .nil .nil) (.node (o107 P) .nil .nil)) (.node (o49 b) (.node (o85 P) .nil .nil) .nil)) (.node (o14 P) (.node (o0 P) (.node (o76 P) .nil .nil) .nil) (.node (o56 P) (.node (o0 P) .nil .nil) .nil))) (.node (o101 P) (.node (o8 P) (.node (o0 P) (.node (o72 P) .nil .nil) (.node (o117 P) .nil .nil)) (.node (o0 P) (.node (o95 b) .nil .nil) .nil)) (.node (o17 P) (.node (o44 P) (.node (o80 P) .nil .nil) .nil) (.node (o65 b) (.node (o103 P) .nil .nil) .nil)))) (.node (boot_o_6 P) (.node (boot_o_10 P) (.node (o0 P) (.node (o1 P) (.node (o71 P) .nil .nil) (.node (o116 P) .nil .nil)) (.node (o0 P) (.node (o86 P) .nil .nil) .nil)) (.node (o0 P) (.node (o43 P) (.node (o79 P) .nil .nil) .nil) (.node (o58 P) (.node (o102 P) .nil .nil) .nil))) (.node (o3 P) (.node (o10 P) (.node (o41 P) (.node (o74 P) .nil .nil) (.node (o120 b) .nil .nil)) (.node (o55 P) (.node (o0 P) .nil .nil) .nil)) (.node (o35 P) (.node (o46 P) (.node (o82 P) .nil .nil) .nil) (.node (o0 P) (.node (o105 P) .nil .nil) .nil))))))
def sT41 (w : World) (os : OsState) (b : Bool) : SharedT := ⟨tr41 w.params b, 104, {}, #[], {}, 487, os⟩
abbrev pc9x6Q (b : Bool) (w : World) : Prop := ∀ os : OsState, segF tabF pg w 11 (some (Value.ref 6)) 1 122 (sT40 w os b) (th9x5 w os) = some (sT41 w os b, th9x5 w os)
theorem pc9x6ff (w : World) : pc9x6Q false (w.withFollow "special-get-raises" false) := by
  intro os; kernel_rfl
theorem pc9x6ft (w : World) : pc9x6Q false (w.withFollow "special-get-raises" true) := by
  intro os; kernel_rfl
theorem pc9x6tf (w : World) : pc9x6Q true (w.withFollow "special-get-raises" false) := by
  intro os; kernel_rfl
theorem pc9x6tt (w : World) : pc9x6Q true (w.withFollow "special-get-raises" true) := by
  intro os; kernel_rfl
theorem pc9x6b : ∀ (b : Bool) (w : World), pc9x6Q b w
  | false, w => byRow2 "special-get-raises" (P := pc9x6Q false) pc9x6ff pc9x6ft w
  | true, w => byRow2 "special-get-raises" (P := pc9x6Q true) pc9x6tf pc9x6tt w
theorem pc9x6 : ∀ (w : World) (os : OsState), segF tabF pg w 11 (some (Value.ref 6)) 1 122 (sT40 w os (so w)) (th9x5 w os) = some (sT41 w os (so w), th9x5 w os) := fun w os => pc9x6b (so w) w os
def o122 (b : Bool) : Obj := ⟨(Value.type "set"), none, Data.set #[(917536, (Value.int 917536 385)), (917505, (Value.int 917505 379)), (917538, (Value.int 917538 387)), (917539, (Value.int 917539 388)), (917537, (Value.int 917537 386)), (917540, (Value.int 917540 389)), (917541, (Value.int 917541 390)), (917542, (Value.int 917542 391)), (917543, (Value.int 917543 392)), (917544, (Value.int 917544 393))] 11 ⟨31, #[0, 1, 2, 3, 4, 5, 6, 7, 8, 9], #[], 0, (!b), 1, true⟩, #[]⟩
def o123 (P : Params) : Obj := ⟨(Value.type "list_iterator"), none, Data.fields #[(Value.ref 101), (Value.int 10 0)], #[]⟩
def tr42 (P : Params) (b : Bool) : BT := (.node (boot_o_0 P) (.node (boot_o_1 P) (.node (o100 P) (.node (boot_o_7 P) (.node (o0 P) (.node (o0 P) (.node (o68 P) .nil .nil) (.node (o106 P) .nil .nil)) (.node (o47 P) (.node (o84 P) .nil .nil) .nil)) (.node (o11 P) (.node (o42 P) (.node (o75 P) .nil .nil) (.node (o123 P) .nil .nil)) (.node (o0 P) (.node (o99 P) .nil .nil) .nil))) (.node (o0 P) (.node (o7 P) (.node (o39 P) (.node (o0 P) .nil .nil) (.node (o0 P) .nil .nil)) (.node (o52 P) (.node (o87 P) .nil .nil) .nil)) (.node (o16 P) (.node (o0 P) (.node (o0 P) .nil .nil) .nil) (.node (o59 P) (.node (o0 P) .nil .nil) .nil)))) (.node (boot_o_5 P) (.node (boot_o_9 P) (.node (o6 P) (.node (o0 P) (.node (o1 P) .nil .nil) (.node (o115 P) .nil .nil)) (.node (o50 P) (.node (o0 P) .nil .nil) .nil)) (.node (o15 P) (.node (o1 P) (.node (o78 P) .nil .nil) .nil) (.node (o57 P) (.node (o1 P) .nil .nil) .nil))) (.node (o2 P) (.node (o9 P) (.node (o40 P) (.node (o73 P) .nil .nil) (.node (o118 P) .nil .nil)) (.node (o1 P) (.node (o98 P) .nil .nil) .nil)) (.node (o32 b) (.node (o45 P) (.node (o81 P) .nil .nil) .nil) (.node (o66 P) (.node (o104 P) .nil .nil) .nil))))) (.node (boot_o_2 P) (.node (boot_o_4 P) (.node (boot_o_8 P) (.node (o1 P) (.node (o36 P) (.node (o0 P) .nil .nil) (.node (o107 P) .nil .nil)) (.node (o49 b) (.node (o85 P) .nil .nil) .nil)) (.node (o14 P) (.node (o0 P) (.node (o76 P) .nil .nil) .nil) (.node (o56 P) (.node (o0 P) .nil .nil) .nil))) (.node (o101 P) (.node (o8 P) (.node (o0 P) (.node (o72 P) .nil .nil) (.node (o117 P) .nil .nil)) (.node (o0 P) (.node (o95 b) .nil .nil) .nil)) (.node (o17 P) (.node (o44 P) (.node (o80 P) .nil .nil) .nil) (.node (o65 b) (.node (o103 P) .nil .nil) .nil)))) (.node (boot_o_6 P) (.node (boot_o_10 P) (.node (o0 P) (.node (o1 P) (.node (o71 P) .nil .nil) (.node (o116 P) .nil .nil)) (.node (o0 P) (.node (o86 P) .nil .nil) .nil)) (.node (o0 P) (.node (o43 P) (.node (o79 P) .nil .nil) .nil) (.node (o58 P) (.node (o102 P) .nil .nil) .nil))) (.node (o3 P) (.node (o10 P) (.node (o41 P) (.node (o74 P) .nil .nil) (.node (o122 b) .nil .nil)) (.node (o55 P) (.node (o0 P) .nil .nil) .nil)) (.node (o35 P) (.node (o46 P) (.node (o82 P) .nil .nil) .nil) (.node (o0 P) (.node (o105 P) .nil .nil) .nil))))))
def sT42 (w : World) (os : OsState) (b : Bool) : SharedT := ⟨tr42 w.params b, 104, {}, #[], {}, 491, os⟩
abbrev pc9x7Q (b : Bool) (w : World) : Prop := ∀ os : OsState, segF tabF pg w 11 (some (Value.ref 6)) 1 80 (sT41 w os b) (th9x5 w os) = some (sT42 w os b, th9x5 w os)
theorem pc9x7ff (w : World) : pc9x7Q false (w.withFollow "special-get-raises" false) := by
  intro os; kernel_rfl
theorem pc9x7ft (w : World) : pc9x7Q false (w.withFollow "special-get-raises" true) := by
  intro os; kernel_rfl
theorem pc9x7tf (w : World) : pc9x7Q true (w.withFollow "special-get-raises" false) := by
  intro os; kernel_rfl
theorem pc9x7tt (w : World) : pc9x7Q true (w.withFollow "special-get-raises" true) := by
  intro os; kernel_rfl
theorem pc9x7b : ∀ (b : Bool) (w : World), pc9x7Q b w
  | false, w => byRow2 "special-get-raises" (P := pc9x7Q false) pc9x7ff pc9x7ft w
  | true, w => byRow2 "special-get-raises" (P := pc9x7Q true) pc9x7tf pc9x7tt w
theorem pc9x7 : ∀ (w : World) (os : OsState), segF tabF pg w 11 (some (Value.ref 6)) 1 80 (sT41 w os (so w)) (th9x5 w os) = some (sT42 w os (so w), th9x5 w os) := fun w os => pc9x7b (so w) w os
def o124 (b : Bool) : Obj := ⟨(Value.type "set"), none, Data.set #[(917536, (Value.int 917536 385)), (917505, (Value.int 917505 379)), (917538, (Value.int 917538 387)), (917539, (Value.int 917539 388)), (917537, (Value.int 917537 386)), (917540, (Value.int 917540 389)), (917541, (Value.int 917541 390)), (917542, (Value.int 917542 391)), (917543, (Value.int 917543 392)), (917544, (Value.int 917544 393)), (917545, (Value.int 917545 394)), (917546, (Value.int 917546 395)), (917547, (Value.int 917547 396)), (917548, (Value.int 917548 397))] 15 ⟨31, #[0, 1, 2, 3, 4, 5, 6, 7, 8, 9, 10, 11, 12, 13], #[], 0, (!b), 1, true⟩, #[]⟩
def o125 (P : Params) : Obj := ⟨(Value.type "list_iterator"), none, Data.fields #[(Value.ref 101), (Value.int 14 0)], #[]⟩
def tr43 (P : Params) (b : Bool) : BT := (.node (boot_o_0 P) (.node (boot_o_1 P) (.node (o100 P) (.node (boot_o_7 P) (.node (o0 P) (.node (o0 P) (.node (o68 P) .nil .nil) (.node (o106 P) .nil .nil)) (.node (o47 P) (.node (o84 P) .nil .nil) .nil)) (.node (o11 P) (.node (o42 P) (.node (o75 P) .nil .nil) (.node (o125 P) .nil .nil)) (.node (o0 P) (.node (o99 P) .nil .nil) .nil))) (.node (o0 P) (.node (o7 P) (.node (o39 P) (.node (o0 P) .nil .nil) (.node (o0 P) .nil .nil)) (.node (o52 P) (.node (o87 P) .nil .nil) .nil)) (.node (o16 P) (.node (o0 P) (.node (o0 P) .nil .nil) .nil) (.node (o59 P) (.node (o0 P) .nil .nil) .nil)))) (.node (boot_o_5 P) (.node (boot_o_9 P) (.node (o6 P) (.node (o0 P) (.node (o1 P) .nil .nil) (.node (o115 P) .nil .nil)) (.node (o50 P) (.node (o0 P) .nil .nil) .nil)) (.node (o15 P) (.node (o1 P) (.node (o78 P) .nil .nil) .nil) (.node (o57 P) (.node (o1 P) .nil .nil) .nil))) (.node (o2 P) (.node (o9 P) (.node (o40 P) (.node (o73 P) .nil .nil) (.node (o118 P) .nil .nil)) (.node (o1 P) (.node (o98 P) .nil .nil) .nil)) (.node (o32 b) (.node (o45 P) (.node (o81 P) .nil .nil) .nil) (.node (o66 P) (.node (o104 P) .nil .nil) .nil))))) (.node (boot_o_2 P) (.node (boot_o_4 P) (.node (boot_o_8 P) (.node (o1 P) (.node (o36 P) (.node (o0 P) .nil .nil) (.node (o107 P) .nil .nil)) (.node (o49 b) (.node (o85 P) .nil .nil) .nil)) (.node (o14 P) (.node (o0 P) (.node (o76 P) .nil .nil) .nil) (.node (o56 P) (.node (o0 P) .nil .nil) .nil))) (.node (o101 P) (.node (o8 P) (.node (o0 P) (.node (o72 P) .nil .nil) (.node (o117 P) .nil .nil)) (.node (o0 P) (.node (o95 b) .nil .nil) .nil)) (.node (o17 P) (.node (o44 P) (.node (o80 P) .nil .nil) .nil) (.node (o65 b) (.node (o103 P) .nil .nil) .nil)))) (.node (boot_o_6 P) (.node (boot_o_10 P) (.node (o0 P) (.node (o1 P) (.node (o71 P) .nil .nil) (.node (o116 P) .nil .nil)) (.node (o0 P) (.node (o86 P) .nil .nil) .nil)) (.node (o0 P) (.node (o43 P) (.node (o79 P) .nil .nil) .nil) (.node (o58 P) (.node (o102 P) .nil .nil) .nil))) (.node (o3 P) (.node (o10 P) (.node (o41 P) (.node (o74 P) .nil .nil) (.node (o124 b) .nil .nil)) (.node (o55 P) (.node (o0 P) .nil .nil) .nil)) (.node (o35 P) (.node (o46 P) (.node (o82 P) .nil .nil) .nil) (.node (o0 P) (.node (o105 P) .nil .nil) .nil))))))
def sT43 (w : World) (os : OsState) (b : Bool) : SharedT := ⟨tr43 w.params b, 104, {}, #[], {}, 495, os⟩
abbrev pc9x8Q (b : Bool) (w : World) : Prop := ∀ os : OsState, segF tabF pg w 11 (some (Value.ref 6)) 1 80 (sT42 w os b) (th9x5 w os) = some (sT43 w os b, th9x5 w os)
theorem pc9x8ff (w : World) : pc9x8Q false (w.withFollow "special-get-raises" false) := by
  intro os; kernel_rfl
theorem pc9x8ft (w : World) : pc9x8Q false (w.withFollow "special-get-raises" true) := by
  intro os; kernel_rfl
theorem pc9x8tf (w : World) : pc9x8Q true (w.withFollow "special-get-raises" false) := by
  intro os; kernel_rfl
theorem pc9x8tt (w : World) : pc9x8Q true (w.withFollow "special-get-raises" true) := by
  intro os; kernel_rfl
theorem pc9x8b : ∀ (b : Bool) (w : World), pc9x8Q b w
  | false, w => byRow2 "special-get-raises" (P := pc9x8Q false) pc9x8ff pc9x8ft w
  | true, w => byRow2 "special-get-raises" (P := pc9x8Q true) pc9x8tf pc9x8tt w
theorem pc9x8 : ∀ (w : World) (os : OsState), segF tabF pg w 11 (some (Value.ref 6)) 1 80 (sT42 w os (so w)) (th9x5 w os) = some (sT43 w os (so w), th9x5 w os) := fun w os => pc9x8b (so w) w os
def o126 (b : Bool) : Obj := ⟨(Value.type "set"), none, Data.set #[(917536, (Value.int 917536 385)), (917505, (Value.int 917505 379)), (917538, (Value.int 917538 387)), (917539, (Value.int 917539 388)), (917537, (Value.int 917537 386)), (917540, (Value.int 917540 389)), (917541, (Value.int 917541 390)), (917542, (Value.int 917542 391)), (917543, (Value.int 917543 392)), (917544, (Value.int 917544 393)), (917545, (Value.int 917545 394)), (917546, (Value.int 917546 395)), (917547, (Value.int 917547 396)), (917548, (Value.int 917548 397)), (917549, (Value.int 917549 398)), (917550, (Value.int 917550 399)), (917551, (Value.int 917551 400)), (917552, (Value.int 917552 401))] 19 ⟨31, #[0, 1, 2, 3, 4, 5, 6, 7, 8, 9, 10, 11, 12, 13, 14, 15, 16, 17], #[], 0, (!b), 1, true⟩, #[]⟩
def o127 (P : Params) : Obj := ⟨(Value.type "list_iterator"), none, Data.fields #[(Value.ref 101), (Value.int 18 0)], #[]⟩
def tr44 (P : Params) (b : Bool) : BT := (.node (boot_o_0 P) (.node (boot_o_1 P) (.node (o100 P) (.node (boot_o_7 P) (.node (o0 P) (.node (o0 P) (.node (o68 P) .nil .nil) (.node (o106 P) .nil .nil)) (.node (o47 P) (.node (o84 P) .nil .nil) .nil)) (.node (o11 P) (.node (o42 P) (.node (o75 P) .nil .nil) (.node (o127 P) .nil .nil)) (.node (o0 P) (.node (o99 P) .nil .nil) .nil))) (.node (o0 P) (.node (o7 P) (.node (o39 P) (.node (o0 P) .nil .nil) (.node (o0 P) .nil .nil)) (.node (o52 P) (.node (o87 P) .nil .nil) .nil)) (.node (o16 P) (.node (o0 P) (.node (o0 P) .nil .nil) .nil) (.node (o59 P) (.node (o0 P) .nil .nil) .nil)))) (.node (boot_o_5 P) (.node (boot_o_9 P) (.node (o6 P) (.node (o0 P) (.node (o1 P) .nil .nil) (.node (o115 P) .nil .nil)) (.node (o50 P) (.node (o0 P) .nil .nil) .nil)) (.node (o15 P) (.node (o1 P) (.node (o78 P) .nil .nil) .nil) (.node (o57 P) (.node (o1 P) .nil .nil) .nil))) (.node (o2 P) (.node (o9 P) (.node (o40 P) (.node (o73 P) .nil .nil) (.node (o118 P) .nil .nil)) (.node (o1 P) (.node (o98 P) .nil .nil) .nil)) (.node (o32 b) (.node (o45 P) (.node (o81 P) .nil .nil) .nil) (.node (o66 P) (.node (o104 P) .nil .nil) .nil))))) (.node (boot_o_2 P) (.node (boot_o_4 P) (.node (boot_o_8 P) (.node (o1 P) (.node (o36 P) (.node (o0 P) .nil .nil) (.node (o107 P) .nil .nil)) (.node (o49 b) (.node (o85 P) .nil .nil) .nil)) (.node (o14 P) (.node (o0 P) (.node (o76 P) .nil .nil) .nil) (.node (o56 P) (.node (o0 P) .nil .nil) .nil))) (.node (o101 P) (.node (o8 P) (.node (o0 P) (.node (o72 P) .nil .nil) (.node (o117 P) .nil .nil)) (.node (o0 P) (.node (o95 b) .nil .nil) .nil)) (.node (o17 P) (.node (o44 P) (.node (o80 P) .nil .nil) .nil) (.node (o65 b) (.node (o103 P) .nil .nil) .nil)))) (.node (boot_o_6 P) (.node (boot_o_10 P) (.node (o0 P) (.node (o1 P) (.node (o71 P) .nil .nil) (.node (o116 P) .nil .nil)) (.node (o0 P) (.node (o86 P) .nil .nil) .nil)) (.node (o0 P) (.node (o43 P) (.node (o79 P) .nil .nil) .nil) (.node (o58 P) (.node (o102 P) .nil .nil) .nil))) (.node (o3 P) (.node (o10 P) (.node (o41 P) (.node (o74 P) .nil .nil) (.node (o126 b) .nil .nil)) (.node (o55 P) (.node (o0 P) .nil .nil) .nil)) (.node (o35 P) (.node (o46 P) (.node (o82 P) .nil .nil) .nil) (.node (o0 P) (.node (o105 P) .nil .nil) .nil))))))
def sT44 (w : World) (os : OsState) (b : Bool) : SharedT := ⟨tr44 w.params b, 104, {}, #[], {}, 499, os⟩
abbrev pc9x9Q (b : Bool) (w : World) : Prop := ∀ os : OsState, segF tabF pg w 11 (some (Value.ref 6)) 1 80 (sT43 w os b) (th9x5 w os) = some (sT44 w os b, th9x5 w os)
theorem pc9x9ff (w : World) : pc9x9Q false (w.withFollow "special-get-raises" false) := by
  intro os; kernel_rfl
theorem pc9x9ft (w : World) : pc9x9Q false (w.withFollow "special-get-raises" true) := by
  intro os; kernel_rfl
theorem pc9x9tf (w : World) : pc9x9Q true (w.withFollow "special-get-raises" false) := by
  intro os; kernel_rfl
theorem pc9x9tt (w : World) : pc9x9Q true (w.withFollow "special-get-raises" true) := by
  intro os; kernel_rfl
theorem pc9x9b : ∀ (b : Bool) (w : World), pc9x9Q b w
  | false, w => byRow2 "special-get-raises" (P := pc9x9Q false) pc9x9ff pc9x9ft w
  | true, w => byRow2 "special-get-raises" (P := pc9x9Q true) pc9x9tf pc9x9tt w
theorem pc9x9 : ∀ (w : World) (os : OsState), segF tabF pg w 11 (some (Value.ref 6)) 1 80 (sT43 w os (so w)) (th9x5 w os) = some (sT44 w os (so w), th9x5 w os) := fun w os => pc9x9b (so w) w os
def o128 (b : Bool) : Obj := ⟨(Value.type "set"), none, Data.set #[(917505, (Value.int 917505 379)), (917536, (Value.int 917536 385)), (917537, (Value.int 917537 386)), (917538, (Value.int 917538 387)), (917539, (Value.int 917539 388)), (917540, (Value.int 917540 389)), (917541, (Value.int 917541 390)), (917542, (Value.int 917542 391)), (917543, (Value.int 917543 392)), (917544, (Value.int 917544 393)), (917545, (Value.int 917545 394)), (917546, (Value.int 917546 395)), (917547, (Value.int 917547 396)), (917548, (Value.int 917548 397)), (917549, (Value.int 917549 398)), (917550, (Value.int 917550 399)), (917551, (Value.int 917551 400)), (917552, (Value.int 917552 401)), (917553, (Value.int 917553 402)), (917554, (Value.int 917554 403)), (917555, (Value.int 917555 404)), (917556, (Value.int 917556 405))] 24 ⟨127, #[1, 32, 33, 34, 35, 36, 37, 38, 39, 40, 41, 42, 43, 44, 45, 46, 47, 48, 49, 50, 51, 52], #[], 0, (!b), 2, true⟩, #[]⟩
def o129 (P : Params) : Obj := ⟨(Value.type "list_iterator"), none, Data.fields #[(Value.ref 101), (Value.int 22 0)], #[]⟩
def tr45 (P : Params) (b : Bool) : BT := (.node (boot_o_0 P) (.node (boot_o_1 P) (.node (o100 P) (.node (boot_o_7 P) (.node (o0 P) (.node (o0 P) (.node (o68 P) .nil .nil) (.node (o106 P) .nil .nil)) (.node (o47 P) (.node (o84 P) .nil .nil) .nil)) (.node (o11 P) (.node (o42 P) (.node (o75 P) .nil .nil) (.node (o129 P) .nil .nil)) (.node (o0 P) (.node (o99 P) .nil .nil) .nil))) (.node (o0 P) (.node (o7 P) (.node (o39 P) (.node (o0 P) .nil .nil) (.node (o0 P) .nil .nil)) (.node (o52 P) (.node (o87 P) .nil .nil) .nil)) (.node (o16 P) (.node (o0 P) (.node (o0 P) .nil .nil) .nil) (.node (o59 P) (.node (o0 P) .nil .nil) .nil)))) (.node (boot_o_5 P) (.node (boot_o_9 P) (.node (o6 P) (.node (o0 P) (.node (o1 P) .nil .nil) (.node (o115 P) .nil .nil)) (.node (o50 P) (.node (o0 P) .nil .nil) .nil)) (.node (o15 P) (.node (o1 P) (.node (o78 P) .nil .nil) .nil) (.node (o57 P) (.node (o1 P) .nil .nil) .nil))) (.node (o2 P) (.node (o9 P) (.node (o40 P) (.node (o73 P) .nil .nil) (.node (o118 P) .nil .nil)) (.node (o1 P) (.node (o98 P) .nil .nil) .nil)) (.node (o32 b) (.node (o45 P) (.node (o81 P) .nil .nil) .nil) (.node (o66 P) (.node (o104 P) .nil .nil) .nil))))) (.node (boot_o_2 P) (.node (boot_o_4 P) (.node (boot_o_8 P) (.node (o1 P) (.node (o36 P) (.node (o0 P) .nil .nil) (.node (o107 P) .nil .nil)) (.node (o49 b) (.node (o85 P) .nil .nil) .nil)) (.node (o14 P) (.node (o0 P) (.node (o76 P) .nil .nil) .nil) (.node (o56 P) (.node (o0 P) .nil .nil) .nil))) (.node (o101 P) (.node (o8 P) (.node (o0 P) (.node (o72 P) .nil .nil) (.node (o117 P) .nil .nil)) (.node (o0 P) (.node (o95 b) .nil .nil) .nil)) (.node (o17 P) (.node (o44 P) (.node (o80 P) .nil .nil) .nil) (.node (o65 b) (.node (o103 P) .nil .nil) .nil)))) (.node (boot_o_6 P) (.node (boot_o_10 P) (.node (o0 P) (.node (o1 P) (.node (o71 P) .nil .nil) (.node (o116 P) .nil .nil)) (.node (o0 P) (.node (o86 P) .nil .nil) .nil)) (.node (o0 P) (.node (o43 P) (.node (o79 P) .nil .nil) .nil) (.node (o58 P) (.node (o102 P) .nil .nil) .nil))) (.node (o3 P) (.node (o10 P) (.node (o41 P) (.node (o74 P) .nil .nil) (.node (o128 b) .nil .nil)) (.node (o55 P) (.node (o0 P) .nil .nil) .nil)) (.node (o35 P) (.node (o46 P) (.node (o82 P) .nil .nil) .nil) (.node (o0 P) (.node (o105 P) .nil .nil) .nil))))))
def sT45 (w : World) (os : OsState) (b : Bool) : SharedT := ⟨tr45 w.params b, 104, {}, #[], {}, 503, os⟩
abbrev pc9x10Q (b : Bool) (w : World) : Prop := ∀ os : OsState, segF tabF pg w 11 (some (Value.ref 6)) 1 82 (sT44 w os b) (th9x5 w os) = some (sT45 w os b, th9x5 w os)
theorem pc9x10ff (w : World) : pc9x10Q false (w.withFollow "special-get-raises" false) := by
  intro os; kernel_rfl
theorem pc9x10ft (w : World) : pc9x10Q false (w.withFollow "special-get-raises" true) := by
  intro os; kernel_rfl
theorem pc9x10tf (w : World) : pc9x10Q true (w.withFollow "special-get-raises" false) := by
  intro os; kernel_rfl
theorem pc9x10tt (w : World) : pc9x10Q true (w.withFollow "special-get-raises" true) := by
  intro os; kernel_rfl
theorem pc9x10b : ∀ (b : Bool) (w : World), pc9x10Q b w
  | false, w => byRow2 "special-get-raises" (P := pc9x10Q false) pc9x10ff pc9x10ft w
  | true, w => byRow2 "special-get-raises" (P := pc9x10Q true) pc9x10tf pc9x10tt w
theorem pc9x10 : ∀ (w : World) (os : OsState), segF tabF pg w 11 (some (Value.ref 6)) 1 82 (sT44 w os (so w)) (th9x5 w os) = some (sT45 w os (so w), th9x5 w os) := fun w os => pc9x10b (so w) w os
def o130 (b : Bool) : Obj := ⟨(Value.type "set"), none, Data.set #[(917505, (Value.int 917505 379)), (917536, (Value.int 917536 385)), (917537, (Value.int 917537 386)), (917538, (Value.int 917538 387)), (917539, (Value.int 917539 388)), (917540, (Value.int 917540 389)), (917541, (Value.int 917541 390)), (917542, (Value.int 917542 391)), (917543, (Value.int 917543 392)), (917544, (Value.int 917544 393)), (917545, (Value.int 917545 394)), (917546, (Value.int 917546 395)), (917547, (Value.int 917547 396)), (917548, (Value.int 917548 397)), (917549, (Value.int 917549 398)), (917550, (Value.int 917550 399)), (917551, (Value.int 917551 400)), (917552, (Value.int 917552 401)), (917553, (Value.int 917553 402)), (917554, (Value.int 917554 403)), (917555, (Value.int 917555 404)), (917556, (Value.int 917556 405)), (917557, (Value.int 917557 406)), (917558, (Value.int 917558 407)), (917559, (Value.int 917559 408)), (917560, (Value.int 917560 409))] 28 ⟨127, #[1, 32, 33, 34, 35, 36, 37, 38, 39, 40, 41, 42, 43, 44, 45, 46, 47, 48, 49, 50, 51, 52, 53, 54, 55, 56], #[], 0, (!b), 2, true⟩, #[]⟩
def o131 (P : Params) : Obj := ⟨(Value.type "list_iterator"), none, Data.fields #[(Value.ref 101), (Value.int 26 0)], #[]⟩
def tr46 (P : Params) (b : Bool) : BT := (.node (boot_o_0 P) (.node (boot_o_1 P) (.node (o100 P) (.node (boot_o_7 P) (.node (o0 P) (.node (o0 P) (.node (o68 P) .nil .nil) (.node (o106 P) .nil .nil)) (.node (o47 P) (.node (o84 P) .nil .nil) .nil)) (.node (o11 P) (.node (o42 P) (.node (o75 P) .nil .nil) (.node (o131 P) .nil .nil)) (.node (o0 P) (.node (o99 P) .nil .nil) .nil))) (.node (o0 P) (.node (o7 P) (.node (o39 P) (.node (o0 P) .nil .nil) (.node (o0 P) .nil .nil)) (.node (o52 P) (.node (o87 P) .nil .nil) .nil)) (.node (o16 P) (.node (o0 P) (.node (o0 P) .nil .nil) .nil) (.node (o59 P) (.node (o0 P) .nil .nil) .nil)))) (.node (boot_o_5 P) (.node (boot_o_9 P) (.node (o6 P) (.node (o0 P) (.node (o1 P) .nil .nil) (.node (o115 P) .nil .nil)) (.node (o50 P) (.node (o0 P) .nil .nil) .nil)) (.node (o15 P) (.node (o1 P) (.node (o78 P) .nil .nil) .nil) (.node (o57 P) (.node (o1 P) .nil .nil) .nil))) (.node (o2 P) (.node (o9 P) (.node (o40 P) (.node (o73 P) .nil .nil) (.node (o118 P) .nil .nil)) (.node (o1 P) (.node (o98 P) .nil .nil) .nil)) (.node (o32 b) (.node (o45 P) (.node (o81 P) .nil .nil) .nil) (.node (o66 P) (.node (o104 P) .nil .nil) .nil))))) (.node (boot_o_2 P) (.node (boot_o_4 P) (.node (boot_o_8 P) (.node (o1 P) (.node (o36 P) (.node (o0 P) .nil .nil) (.node (o107 P) .nil .nil)) (.node (o49 b) (.node (o85 P) .nil .nil) .nil)) (.node (o14 P) (.node (o0 P) (.node (o76 P) .nil .nil) .nil) (.node (o56 P) (.node (o0 P) .nil .nil) .nil))) (.node (o101 P) (.node (o8 P) (.node (o0 P) (.node (o72 P) .nil .nil) (.node (o117 P) .nil .nil)) (.node (o0 P) (.node (o95 b) .nil .nil) .nil)) (.node (o17 P) (.node (o44 P) (.node (o80 P) .nil .nil) .nil) (.node (o65 b) (.node (o103 P) .nil .nil) .nil)))) (.node (boot_o_6 P) (.node (boot_o_10 P) (.node (o0 P) (.node (o1 P) (.node (o71 P) .nil .nil) (.node (o116 P) .nil .nil)) (.node (o0 P) (.node (o86 P) .nil .nil) .nil)) (.node (o0 P) (.node (o43 P) (.node (o79 P) .nil .nil) .nil) (.node (o58 P) (.node (o102 P) .nil .nil) .nil))) (.node (o3 P) (.node (o10 P) (.node (o41 P) (.node (o74 P) .nil .nil) (.node (o130 b) .nil .nil)) (.node (o55 P) (.node (o0 P) .nil .nil) .nil)) (.node (o35 P) (.node (o46 P) (.node (o82 P) .nil .nil) .nil) (.node (o0 P) (.node (o105 P) .nil .nil) .nil))))))
def sT46 (w : World) (os : OsState) (b : Bool) : SharedT := ⟨tr46 w.params b, 104, {}, #[], {}, 507, os⟩
abbrev pc9x11Q (b : Bool) (w : World) : Prop := ∀ os : OsState, segF tabF pg w 11 (some (Value.ref 6)) 1 80 (sT45 w os b) (th9x5 w os) = some (sT46 w os b, th9x5 w os)
theorem pc9x11ff (w : World) : pc9x11Q false (w.withFollow "special-get-raises" false) := by
  intro os; kernel_rfl
theorem pc9x11ft (w : World) : pc9x11Q false (w.withFollow "special-get-raises" true) := by
  intro os; kernel_rfl
theorem pc9x11tf (w : World) : pc9x11Q true (w.withFollow "special-get-raises" false) := by
  intro os; kernel_rfl
theorem pc9x11tt (w : World) : pc9x11Q true (w.withFollow "special-get-raises" true) := by
  intro os; kernel_rfl
theorem pc9x11b : ∀ (b : Bool) (w : World), pc9x11Q b w
  | false, w => byRow2 "special-get-raises" (P := pc9x11Q false) pc9x11ff pc9x11ft w
  | true, w => byRow2 "special-get-raises" (P := pc9x11Q true) pc9x11tf pc9x11tt w
theorem pc9x11 : ∀ (w : World) (os : OsState), segF tabF pg w 11 (some (Value.ref 6)) 1 80 (sT45 w os (so w)) (th9x5 w os) = some (sT46 w os (so w), th9x5 w os) := fun w os => pc9x11b (so w) w os
def o132 (b : Bool) : Obj := ⟨(Value.type "set"), none, Data.set #[(917505, (Value.int 917505 379)), (917536, (Value.int 917536 385)), (917537, (Value.int 917537 386)), (917538, (Value.int 917538 387)), (917539, (Value.int 917539 388)), (917540, (Value.int 917540 389)), (917541, (Value.int 917541 390)), (917542, (Value.int 917542 391)), (917543, (Value.int 917543 392)), (917544, (Value.int 917544 393)), (917545, (Value.int 917545 394)), (917546, (Value.int 917546 395)), (917547, (Value.int 917547 396)), (917548, (Value.int 917548 397)), (917549, (Value.int 917549 398)), (917550, (Value.int 917550 399)), (917551, (Value.int 917551 400)), (917552, (Value.int 917552 401)), (917553, (Value.int 917553 402)), (917554, (Value.int 917554 403)), (917555, (Value.int 917555 404)), (917556, (Value.int 917556 405)), (917557, (Value.int 917557 406)), (917558, (Value.int 917558 407)), (917559, (Value.int 917559 408)), (917560, (Value.int 917560 409)), (917561, (Value.int 917561 410)), (917562, (Value.int 917562 411)), (917563, (Value.int 917563 412)), (917564, (Value.int 917564 413))] 32 ⟨127, #[1, 32, 33, 34, 35, 36, 37, 38, 39, 40, 41, 42, 43, 44, 45, 46, 47, 48, 49, 50, 51, 52, 53, 54, 55, 56, 57, 58, 59, 60], #[], 0, (!b), 2, true⟩, #[]⟩
def o133 (P : Params) : Obj := ⟨(Value.type "list_iterator"), none, Data.fields #[(Value.ref 101), (Value.int 30 0)], #[]⟩
def tr47 (P : Params) (b : Bool) : BT := (.node (boot_o_0 P) (.node (boot_o_1 P) (.node (o100 P) (.node (boot_o_7 P) (.node (o0 P) (.node (o0 P) (.node (o68 P) .nil .nil) (.node (o106 P) .nil .nil)) (.node (o47 P) (.node (o84 P) .nil .nil) .nil)) (.node (o11 P) (.node (o42 P) (.node (o75 P) .nil .nil) (.node (o133 P) .nil .nil)) (.node (o0 P) (.node (o99 P) .nil .nil) .nil))) (.node (o0 P) (.node (o7 P) (.node (o39 P) (.node (o0 P) .nil .nil) (.node (o0 P) .nil .nil)) (.node (o52 P) (.node (o87 P) .nil .nil) .nil)) (.node (o16 P) (.node (o0 P) (.node (o0 P) .nil .nil) .nil) (.node (o59 P) (.node (o0 P) .nil .nil) .nil)))) (.node (boot_o_5 P) (.node (boot_o_9 P) (.node (o6 P) (.node (o0 P) (.node (o1 P) .nil .nil) (.node (o115 P) .nil .nil)) (.node (o50 P) (.node (o0 P) .nil .nil) .nil)) (.node (o15 P) (.node (o1 P) (.node (o78 P) .nil .nil) .nil) (.node (o57 P) (.node (o1 P) .nil .nil) .nil))) (.node (o2 P) (.node (o9 P) (.node (o40 P) (.node (o73 P) .nil .nil) (.node (o118 P) .nil .nil)) (.node (o1 P) (.node (o98 P) .nil .nil) .nil)) (.node (o32 b) (.node (o45 P) (.node (o81 P) .nil .nil) .nil) (.node (o66 P) (.node (o104 P) .nil .nil) .nil))))) (.node (boot_o_2 P) (.node (boot_o_4 P) (.node (boot_o_8 P) (.node (o1 P) (.node (o36 P) (.node (o0 P) .nil .nil) (.node (o107 P) .nil .nil)) (.node (o49 b) (.node (o85 P) .nil .nil) .nil)) (.node (o14 P) (.node (o0 P) (.node (o76 P) .nil .nil) .nil) (.node (o56 P) (.node (o0 P) .nil .nil) .nil))) (.node (o101 P) (.node (o8 P) (.node (o0 P) (.node (o72 P) .nil .nil) (.node (o117 P) .nil .nil)) (.node (o0 P) (.node (o95 b) .nil .nil) .nil)) (.node (o17 P) (.node (o44 P) (.node (o80 P) .nil .nil) .nil) (.node (o65 b) (.node (o103 P) .nil .nil) .nil)))) (.node (boot_o_6 P) (.node (boot_o_10 P) (.node (o0 P) (.node (o1 P) (.node (o71 P) .nil .nil) (.node (o116 P) .nil .nil)) (.node (o0 P) (.node (o86 P) .nil .nil) .nil)) (.node (o0 P) (.node (o43 P) (.node (o79 P) .nil .nil) .nil) (.node (o58 P) (.node (o102 P) .nil .nil) .nil))) (.node (o3 P) (.node (o10 P) (.node (o41 P) (.node (o74 P) .nil .nil) (.node (o132 b) .nil .nil)) (.node (o55 P) (.node (o0 P) .nil .nil) .nil)) (.node (o35 P) (.node (o46 P) (.node (o82 P) .nil .nil) .nil) (.node (o0 P) (.node (o105 P) .nil .nil) .nil))))))
def sT47 (w : World) (os : OsState) (b : Bool) : SharedT := ⟨tr47 w.params b, 104, {}, #[], {}, 511, os⟩
abbrev pc9x12Q (b : Bool) (w : World) : Prop := ∀ os : OsState, segF tabF pg w 11 (some (Value.ref 6)) 1 80 (sT46 w os b) (th9x5 w os) = some (sT47 w os b, th9x5 w os)
theorem pc9x12ff (w : World) : pc9x12Q false (w.withFollow "special-get-raises" false) := by
  intro os; kernel_rfl
theorem pc9x12ft (w : World) : pc9x12Q false (w.withFollow "special-get-raises" true) := by
  intro os; kernel_rfl
theorem pc9x12tf (w : World) : pc9x12Q true (w.withFollow "special-get-raises" false) := by
  intro os; kernel_rfl
theorem pc9x12tt (w : World) : pc9x12Q true (w.withFollow "special-get-raises" true) := by
  intro os; kernel_rfl
theorem pc9x12b : ∀ (b : Bool) (w : World), pc9x12Q b w
  | false, w => byRow2 "special-get-raises" (P := pc9x12Q false) pc9x12ff pc9x12ft w
  | true, w => byRow2 "special-get-raises" (P := pc9x12Q true) pc9x12tf pc9x12tt w
theorem pc9x12 : ∀ (w : World) (os : OsState), segF tabF pg w 11 (some (Value.ref 6)) 1 80 (sT46 w os (so w)) (th9x5 w os) = some (sT47 w os (so w), th9x5 w os) := fun w os => pc9x12b (so w) w os
def o134 (b : Bool) : Obj := ⟨(Value.type "set"), none, Data.set #[(917505, (Value.int 917505 379)), (917536, (Value.int 917536 385)), (917537, (Value.int 917537 386)), (917538, (Value.int 917538 387)), (917539, (Value.int 917539 388)), (917540, (Value.int 917540 389)), (917541, (Value.int 917541 390)), (917542, (Value.int 917542 391)), (917543, (Value.int 917543 392)), (917544, (Value.int 917544 393)), (917545, (Value.int 917545 394)), (917546, (Value.int 917546 395)), (917547, (Value.int 917547 396)), (917548, (Value.int 917548 397)), (917549, (Value.int 917549 398)), (917550, (Value.int 917550 399)), (917551, (Value.int 917551 400)), (917552, (Value.int 917552 401)), (917553, (Value.int 917553 402)), (917554, (Value.int 917554 403)), (917555, (Value.int 917555 404)), (917556, (Value.int 917556 405)), (917557, (Value.int 917557 406)), (917558, (Value.int 917558 407)), (917559, (Value.int 917559 408)), (917560, (Value.int 917560 409)), (917561, (Value.int 917561 410)), (917562, (Value.int 917562 411)), (917563, (Value.int 917563 412)), (917564, (Value.int 917564 413)), (917565, (Value.int 917565 414)), (917566, (Value.int 917566 415)), (917567, (Value.int 917567 416)), (917568, (Value.int 917568 417))] 36 ⟨127, #[1, 32, 33, 34, 35, 36, 37, 38, 39, 40, 41, 42, 43, 44, 45, 46, 47, 48, 49, 50, 51, 52, 53, 54, 55, 56, 57, 58, 59, 60, 61, 62, 63, 64], #[], 0, (!b), 2, true⟩, #[]⟩
def o135 (P : Params) : Obj := ⟨(Value.type "list_iterator"), none, Data.fields #[(Value.ref 101), (Value.int 34 0)], #[]⟩
def tr48 (P : Params) (b : Bool) : BT := (.node (boot_o_0 P) (.node (boot_o_1 P) (.node (o100 P) (.node (boot_o_7 P) (.node (o0 P) (.node (o0 P) (.node (o68 P) .nil .nil) (.node (o106 P) .nil .nil)) (.node (o47 P) (.node (o84 P) .nil .nil) .nil)) (.node (o11 P) (.node (o42 P) (.node (o75 P) .nil .nil) (.node (o135 P) .nil .nil)) (.node (o0 P) (.node (o99 P) .nil .nil) .nil))) (.node (o0 P) (.node (o7 P) (.node (o39 P) (.node (o0 P) .nil .nil) (.node (o0 P) .nil .nil)) (.node (o52 P) (.node (o87 P) .nil .nil) .nil)) (.node (o16 P) (.node (o0 P) (.node (o0 P) .nil .nil) .nil) (.node (o59 P) (.node (o0 P) .nil .nil) .nil)))) (.node (boot_o_5 P) (.node (boot_o_9 P) (.node (o6 P) (.node (o0 P) (.node (o1 P) .nil .nil) (.node (o115 P) .nil .nil)) (.node (o50 P) (.node (o0 P) .nil .nil) .nil)) (.node (o15 P) (.node (o1 P) (.node (o78 P) .nil .nil) .nil) (.node (o57 P) (.node (o1 P) .nil .nil) .nil))) (.node (o2 P) (.node (o9 P) (.node (o40 P) (.node (o73 P) .nil .nil) (.node (o118 P) .nil .nil)) (.node (o1 P) (.node (o98 P) .nil .nil) .nil)) (.node (o32 b) (.node (o45 P) (.node (o81 P) .nil .nil) .nil) (.node (o66 P) (.node (o104 P) .nil .nil) .nil))))) (.node (boot_o_2 P) (.node (boot_o_4 P) (.node (boot_o_8 P) (.node (o1 P) (.node (o36 P) (.node (o0 P) .nil .nil) (.node (o107 P) .nil .nil)) (.node (o49 b) (.node (o85 P) .nil .nil) .nil)) (.node (o14 P) (.node (o0 P) (.node (o76 P) .nil .nil) .nil) (.node (o56 P) (.node (o0 P) .nil .nil) .nil))) (.node (o101 P) (.node (o8 P) (.node (o0 P) (.node (o72 P) .nil .nil) (.node (o117 P) .nil .nil)) (.node (o0 P) (.node (o95 b) .nil .nil) .nil)) (.node (o17 P) (.node (o44 P) (.node (o80 P) .nil .nil) .nil) (.node (o65 b) (.node (o103 P) .nil .nil) .nil)))) (.node (boot_o_6 P) (.node (boot_o_10 P) (.node (o0 P) (.node (o1 P) (.node (o71 P) .nil .nil) (.node (o116 P) .nil .nil)) (.node (o0 P) (.node (o86 P) .nil .nil) .nil)) (.node (o0 P) (.node (o43 P) (.node (o79 P) .nil .nil) .nil) (.node (o58 P) (.node (o102 P) .nil .nil) .nil))) (.node (o3 P) (.node (o10 P) (.node (o41 P) (.node (o74 P) .nil .nil) (.node (o134 b) .nil .nil)) (.node (o55 P) (.node (o0 P) .nil .nil) .nil)) (.node (o35 P) (.node (o46 P) (.node (o82 P) .nil .nil) .nil) (.node (o0 P) (.node (o105 P) .nil .nil) .nil))))))
def sT48 (w : World) (os : OsState) (b : Bool) : SharedT := ⟨tr48 w.params b, 104, {}, #[], {}, 515, os⟩
abbrev pc9x13Q (b : Bool) (w : World) : Prop := ∀ os : OsState, segF tabF pg w 11 (some (Value.ref 6)) 1 80 (sT47 w os b) (th9x5 w os) = some (sT48 w os b, th9x5 w os)
theorem pc9x13ff (w : World) : pc9x13Q false (w.withFollow "special-get-raises" false) := by
  intro os; kernel_rfl
theorem pc9x13ft (w : World) : pc9x13Q false (w.withFollow "special-get-raises" true) := by
  intro os; kernel_rfl
theorem pc9x13tf (w : World) : pc9x13Q true (w.withFollow "special-get-raises" false) := by
  intro os; kernel_rfl
theorem pc9x13tt (w : World) : pc9x13Q true (w.withFollow "special-get-raises" true) := by
  intro os; kernel_rfl
theorem pc9x13b : ∀ (b : Bool) (w : World), pc9x13Q b w
  | false, w => byRow2 "special-get-raises" (P := pc9x13Q false) pc9x13ff pc9x13ft w
  | true, w => byRow2 "special-get-raises" (P := pc9x13Q true) pc9x13tf pc9x13tt w
theorem pc9x13 : ∀ (w : World) (os : OsState), segF tabF pg w 11 (some (Value.ref 6)) 1 80 (sT47 w os (so w)) (th9x5 w os) = some (sT48 w os (so w), th9x5 w os) := fun w os => pc9x13b (so w) w os
def o136 (b : Bool) : Obj := ⟨(Value.type "set"), none, Data.set #[(917505, (Value.int 917505 379)), (917536, (Value.int 917536 385)), (917537, (Value.int 917537 386)), (917538, (Value.int 917538 387)), (917539, (Value.int 917539 388)), (917540, (Value.int 917540 389)), (917541, (Value.int 917541 390)), (917542, (Value.int 917542 391)), (917543, (Value.int 917543 392)), (917544, (Value.int 917544 393)), (917545, (Value.int 917545 394)), (917546, (Value.int 917546 395)), (917547, (Value.int 917547 396)), (917548, (Value.int 917548 397)), (917549, (Value.int 917549 398)), (917550, (Value.int 917550 399)), (917551, (Value.int 917551 400)), (917552, (Value.int 917552 401)), (917553, (Value.int 917553 402)), (917554, (Value.int 917554 403)), (917555, (Value.int 917555 404)), (917556, (Value.int 917556 405)), (917557, (Value.int 917557 406)), (917558, (Value.int 917558 407)), (917559, (Value.int 917559 408)), (917560, (Value.int 917560 409)), (917561, (Value.int 917561 410)), (917562, (Value.int 917562 411)), (917563, (Value.int 917563 412)), (917564, (Value.int 917564 413)), (917565, (Value.int 917565 414)), (917566, (Value.int 917566 415)), (917567, (Value.int 917567 416)), (917568, (Value.int 917568 417)), (917569, (Value.int 917569 418)), (917570, (Value.int 917570 419)), (917571, (Value.int 917571 420)), (917572, (Value.int 917572 421))] 40 ⟨127, #[1, 32, 33, 34, 35, 36, 37, 38, 39, 40, 41, 42, 43, 44, 45, 46, 47, 48, 49, 50, 51, 52, 53, 54, 55, 56, 57, 58, 59, 60, 61, 62, 63, 64, 65, 66, 67, 68], #[], 0, (!b), 2, true⟩, #[]⟩
def o137 (P : Params) : Obj := ⟨(Value.type "list_iterator"), none, Data.fields #[(Value.ref 101), (Value.int 38 0)], #[]⟩
def tr49 (P : Params) (b : Bool) : BT := (.node (boot_o_0 P) (.node (boot_o_1 P) (.node (o100 P) (.node (boot_o_7 P) (.node (o0 P) (.node (o0 P) (.node (o68 P) .nil .nil) (.node (o106 P) .nil .nil)) (.node (o47 P) (.node (o84 P) .nil .nil) .nil)) (.node (o11 P) (.node (o42 P) (.node (o75 P) .nil .nil) (.node (o137 P) .nil .nil)) (.node (o0 P) (.node (o99 P) .nil .nil) .nil))) (.node (o0 P) (.node (o7 P) (.node (o39 P) (.node (o0 P) .nil .nil) (.node (o0 P) .nil .nil)) (.node (o52 P) (.node (o87 P) .nil .nil) .nil)) (.node (o16 P) (.node (o0 P) (.node (o0 P) .nil .nil) .nil) (.node (o59 P) (.node (o0 P) .nil .nil) .nil)))) (.node (boot_o_5 P) (.node (boot_o_9 P) (.node (o6 P) (.node (o0 P) (.node (o1 P) .nil .nil) (.node (o115 P) .nil .nil)) (.node (o50 P) (.node (o0 P) .nil .nil) .nil)) (.node (o15 P) (.node (o1 P) (.node (o78 P) .nil .nil) .nil) (.node (o57 P) (.node (o1 P) .nil .nil) .nil))) (.node (o2 P) (.node (o9 P) (.node (o40 P) (.node (o73 P) .nil .nil) (.node (o118 P) .nil .nil)) (.node (o1 P) (.node (o98 P) .nil .nil) .nil)) (.node (o32 b) (.node (o45 P) (.node (o81 P) .nil .nil) .nil) (.node (o66 P) (.node (o104 P) .nil .nil) .nil))))) (.node (boot_o_2 P) (.node (boot_o_4 P) (.node (boot_o_8 P) (.node (o1 P) (.node (o36 P) (.node (o0 P) .nil .nil) (.node (o107 P) .nil .nil)) (.node (o49 b) (.node (o85 P) .nil .nil) .nil)) (.node (o14 P) (.node (o0 P) (.node (o76 P) .nil .nil) .nil) (.node (o56 P) (.node (o0 P) .nil .nil) .nil))) (.node (o101 P) (.node (o8 P) (.node (o0 P) (.node (o72 P) .nil .nil) (.node (o117 P) .nil .nil)) (.node (o0 P) (.node (o95 b) .nil .nil) .nil)) (.node (o17 P) (.node (o44 P) (.node (o80 P) .nil .nil) .nil) (.node (o65 b) (.node (o103 P) .nil .nil) .nil)))) (.node (boot_o_6 P) (.node (boot_o_10 P) (.node (o0 P) (.node (o1 P) (.node (o71 P) .nil .nil) (.node (o116 P) .nil .nil)) (.node (o0 P) (.node (o86 P) .nil .nil) .nil)) (.node (o0 P) (.node (o43 P) (.node (o79 P) .nil .nil) .nil) (.node (o58 P) (.node (o102 P) .nil .nil) .nil))) (.node (o3 P) (.node (o10 P) (.node (o41 P) (.node (o74 P) .nil .nil) (.node (o136 b) .nil .nil)) (.node (o55 P) (.node (o0 P) .nil .nil) .nil)) (.node (o35 P) (.node (o46 P) (.node (o82 P) .nil .nil) .nil) (.node (o0 P) (.node (o105 P) .nil .nil) .nil))))))
def sT49 (w : World) (os : OsState) (b : Bool) : SharedT := ⟨tr49 w.params b, 104, {}, #[], {}, 519, os⟩
abbrev pc9x14Q (b : Bool) (w : World) : Prop := ∀ os : OsState, segF tabF pg w 11 (some (Value.ref 6)) 1 80 (sT48 w os b) (th9x5 w os) = some (sT49 w os b, th9x5 w os)
theorem pc9x14ff (w : World) : pc9x14Q false (w.withFollow "special-get-raises" false) := by
  intro os; kernel_rfl
theorem pc9x14ft (w : World) : pc9x14Q false (w.withFollow "special-get-raises" true) := by
  intro os; kernel_rfl
theorem pc9x14tf (w : World) : pc9x14Q true (w.withFollow "special-get-raises" false) := by
  intro os; kernel_rfl
theorem pc9x14tt (w : World) : pc9x14Q true (w.withFollow "special-get-raises" true) := by
  intro os; kernel_rfl
theorem pc9x14b : ∀ (b : Bool) (w : World), pc9x14Q b w
  | false, w => byRow2 "special-get-raises" (P := pc9x14Q false) pc9x14ff pc9x14ft w
  | true, w => byRow2 "special-get-raises" (P := pc9x14Q true) pc9x14tf pc9x14tt w
theorem pc9x14 : ∀ (w : World) (os : OsState), segF tabF pg w 11 (some (Value.ref 6)) 1 80 (sT48 w os (so w)) (th9x5 w os) = some (sT49 w os (so w), th9x5 w os) := fun w os => pc9x14b (so w) w os
def o138 (b : Bool) : Obj := ⟨(Value.type "set"), none, Data.set #[(917505, (Value.int 917505 379)), (917536, (Value.int 917536 385)), (917537, (Value.int 917537 386)), (917538, (Value.int 917538 387)), (917539, (Value.int 917539 388)), (917540, (Value.int 917540 389)), (917541, (Value.int 917541 390)), (917542, (Value.int 917542 391)), (917543, (Value.int 917543 392)), (917544, (Value.int 917544 393)), (917545, (Value.int 917545 394)), (917546, (Value.int 917546 395)), (917547, (Value.int 917547 396)), (917548, (Value.int 917548 397)), (917549, (Value.int 917549 398)), (917550, (Value.int 917550 399)), (917551, (Value.int 917551 400)), (917552, (Value.int 917552 401)), (917553, (Value.int 917553 402)), (917554, (Value.int 917554 403)), (917555, (Value.int 917555 404)), (917556, (Value.int 917556 405)), (917557, (Value.int 917557 406)), (917558, (Value.int 917558 407)), (917559, (Value.int 917559 408)), (917560, (Value.int 917560 409)), (917561, (Value.int 917561 410)), (917562, (Value.int 917562 411)), (917563, (Value.int 917563 412)), (917564, (Value.int 917564 413)), (917565, (Value.int 917565 414)), (917566, (Value.int 917566 415)), (917567, (Value.int 917567 416)), (917568, (Value.int 917568 417)), (917569, (Value.int 917569 418)), (917570, (Value.int 917570 419)), (917571, (Value.int 917571 420)), (917572, (Value.int 917572 421)), (917573, (Value.int 917573 422)), (917574, (Value.int 917574 423)), (917575, (Value.int 917575 424)), (917576, (Value.int 917576 425))] 44 ⟨127, #[1, 32, 33, 34, 35, 36, 37, 38, 39, 40, 41, 42, 43, 44, 45, 46, 47, 48, 49, 50, 51, 52, 53, 54, 55, 56, 57, 58, 59, 60, 61, 62, 63, 64, 65, 66, 67, 68, 69, 70, 71, 72], #[], 0, (!b), 2, true⟩, #[]⟩
def o139 (P : Params) : Obj := ⟨(Value.type "list_iterator"), none, Data.fields #[(Value.ref 101), (Value.int 42 0)], #[]⟩
def tr50 (P : Params) (b : Bool) : BT := (.node (boot_o_0 P) (.node (boot_o_1 P) (.node (o100 P) (.node (boot_o_7 P) (.node (o0 P) (.node (o0 P) (.node (o68 P) .nil .nil) (.node (o106 P) .nil .nil)) (.node (o47 P) (.node (o84 P) .nil .nil) .nil)) (.node (o11 P) (.node (o42 P) (.node (o75 P) .nil .nil) (.node (o139 P) .nil .nil)) (.node (o0 P) (.node (o99 P) .nil .nil) .nil))) (.node (o0 P) (.node (o7 P) (.node (o39 P) (.node (o0 P) .nil .nil) (.node (o0 P) .nil .nil)) (.node (o52 P) (.node (o87 P) .nil .nil) .nil)) (.node (o16 P) (.node (o0 P) (.node (o0 P) .nil .nil) .nil) (.node (o59 P) (.node (o0 P) .nil .nil) .nil)))) (.node (boot_o_5 P) (.node (boot_o_9 P) (.node (o6 P) (.node (o0 P) (.node (o1 P) .nil .nil) (.node (o115 P) .nil .nil)) (.node (o50 P) (.node (o0 P) .nil .nil) .nil)) (.node (o15 P) (.node (o1 P) (.node (o78 P) .nil .nil) .nil) (.node (o57 P) (.node (o1 P) .nil .nil) .nil))) (.node (o2 P) (.node (o9 P) (.node (o40 P) (.node (o73 P) .nil .nil) (.node (o118 P) .nil .nil)) (.node (o1 P) (.node (o98 P) .nil .nil) .nil)) (.node (o32 b) (.node (o45 P) (.node (o81 P) .nil .nil) .nil) (.node (o66 P) (.node (o104 P) .nil .nil) .nil))))) (.node (boot_o_2 P) (.node (boot_o_4 P) (.node (boot_o_8 P) (.node (o1 P) (.node (o36 P) (.node (o0 P) .nil .nil) (.node (o107 P) .nil .nil)) (.node (o49 b) (.node (o85 P) .nil .nil) .nil)) (.node (o14 P) (.node (o0 P) (.node (o76 P) .nil .nil) .nil) (.node (o56 P) (.node (o0 P) .nil .nil) .nil))) (.node (o101 P) (.node (o8 P) (.node (o0 P) (.node (o72 P) .nil .nil) (.node (o117 P) .nil .nil)) (.node (o0 P) (.node (o95 b) .nil .nil) .nil)) (.node (o17 P) (.node (o44 P) (.node (o80 P) .nil .nil) .nil) (.node (o65 b) (.node (o103 P) .nil .nil) .nil)))) (.node (boot_o_6 P) (.node (boot_o_10 P) (.node (o0 P) (.node (o1 P) (.node (o71 P) .nil .nil) (.node (o116 P) .nil .nil)) (.node (o0 P) (.node (o86 P) .nil .nil) .nil)) (.node (o0 P) (.node (o43 P) (.node (o79 P) .nil .nil) .nil) (.node (o58 P) (.node (o102 P) .nil .nil) .nil))) (.node (o3 P) (.node (o10 P) (.node (o41 P) (.node (o74 P) .nil .nil) (.node (o138 b) .nil .nil)) (.node (o55 P) (.node (o0 P) .nil .nil) .nil)) (.node (o35 P) (.node (o46 P) (.node (o82 P) .nil .nil) .nil) (.node (o0 P) (.node (o105 P) .nil .nil) .nil))))))
def sT50 (w : World) (os : OsState) (b : Bool) : SharedT := ⟨tr50 w.params b, 104, {}, #[], {}, 523, os⟩
abbrev pc9x15Q (b : Bool) (w : World) : Prop := ∀ os : OsState, segF tabF pg w 11 (some (Value.ref 6)) 1 80 (sT49 w os b) (th9x5 w os) = some (sT50 w os b, th9x5 w os)
theorem pc9x15ff (w : World) : pc9x15Q false (w.withFollow "special-get-raises" false) := by
  intro os; kernel_rfl
theorem pc9x15ft (w : World) : pc9x15Q false (w.withFollow "special-get-raises" true) := by
  intro os; kernel_rfl
theorem pc9x15tf (w : World) : pc9x15Q true (w.withFollow "special-get-raises" false) := by
  intro os; kernel_rfl
theorem pc9x15tt (w : World) : pc9x15Q true (w.withFollow "special-get-raises" true) := by
  intro os; kernel_rfl
theorem pc9x15b : ∀ (b : Bool) (w : World), pc9x15Q b w
  | false, w => byRow2 "special-get-raises" (P := pc9x15Q false) pc9x15ff pc9x15ft w
  | true, w => byRow2 "special-get-raises" (P := pc9x15Q true) pc9x15tf pc9x15tt w
theorem pc9x15 : ∀ (w : World) (os : OsState), segF tabF pg w 11 (some (Value.ref 6)) 1 80 (sT49 w os (so w)) (th9x5 w os) = some (sT50 w os (so w), th9x5 w os) := fun w os => pc9x15b (so w) w os
def o140 (b : Bool) : Obj := ⟨(Value.type "set"), none, Data.set #[(917505, (Value.int 917505 379)), (917536, (Value.int 917536 385)), (917537, (Value.int 917537 386)), (917538, (Value.int 917538 387)), (917539, (Value.int 917539 388)), (917540, (Value.int 917540 389)), (917541, (Value.int 917541 390)), (917542, (Value.int 917542 391)), (917543, (Value.int 917543 392)), (917544, (Value.int 917544 393)), (917545, (Value.int 917545 394)), (917546, (Value.int 917546 395)), (917547, (Value.int 917547 396)), (917548, (Value.int 917548 397)), (917549, (Value.int 917549 398)), (917550, (Value.int 917550 399)), (917551, (Value.int 917551 400)), (917552, (Value.int 917552 401)), (917553, (Value.int 917553 402)), (917554, (Value.int 917554 403)), (917555, (Value.int 917555 404)), (917556, (Value.int 917556 405)), (917557, (Value.int 917557 406)), (917558, (Value.int 917558 407)), (917559, (Value.int 917559 408)), (917560, (Value.int 917560 409)), (917561, (Value.int 917561 410)), (917562, (Value.int 917562 411)), (917563, (Value.int 917563 412)), (917564, (Value.int 917564 413)), (917565, (Value.int 917565 414)), (917566, (Value.int 917566 415)), (917567, (Value.int 917567 416)), (917568, (Value.int 917568 417)), (917569, (Value.int 917569 418)), (917570, (Value.int 917570 419)), (917571, (Value.int 917571 420)), (917572, (Value.int 917572 421)), (917573, (Value.int 917573 422)), (917574, (Value.int 917574 423)), (917575, (Value.int 917575 424)), (917576, (Value.int 917576 425)), (917577, (Value.int 917577 426)), (917578, (Value.int 917578 427)), (917579, (Value.int 917579 428)), (917580, (Value.int 917580 429))] 48 ⟨127, #[1, 32, 33, 34, 35, 36, 37, 38, 39, 40, 41, 42, 43, 44, 45, 46, 47, 48, 49, 50, 51, 52, 53, 54, 55, 56, 57, 58, 59, 60, 61, 62, 63, 64, 65, 66, 67, 68, 69, 70, 71, 72, 73, 74, 75, 76], #[], 0, (!b), 2, true⟩, #[]⟩
def o141 (P : Params) : Obj := ⟨(Value.type "list_iterator"), none, Data.fields #[(Value.ref 101), (Value.int 46 0)], #[]⟩
def tr51 (P : Params) (b : Bool) : BT := (.node (boot_o_0 P) (.node (boot_o_1 P) (.node (o100 P) (.node (boot_o_7 P) (.node (o0 P) (.node (o0 P) (.node (o68 P) .nil .nil) (.node (o106 P) .nil .nil)) (.node (o47 P) (.node (o84 P) .nil .nil) .nil)) (.node (o11 P) (.node (o42 P) (.node (o75 P) .nil .nil) (.node (o141 P) .nil .nil)) (.node (o0 P) (.node (o99 P) .nil .nil) .nil))) (.node (o0 P) (.node (o7 P) (.node (o39 P) (.node (o0 P) .nil .nil) (.node (o0 P) .nil .nil)) (.node (o52 P) (.node (o87 P) .nil .nil) .nil)) (.node (o16 P) (.node (o0 P) (.node (o0 P) .nil .nil) .nil) (.node (o59 P) (.node (o0 P) .nil .nil) .nil)))) (.node (boot_o_5 P) (.node (boot_o_9 P) (.node (o6 P) (.node (o0 P) (.node (o1 P) .nil .nil) (.node (o115 P) .nil .nil)) (.node (o50 P) (.node (o0 P) .nil .nil) .nil)) (.node (o15 P) (.node (o1 P) (.node (o78 P) .nil .nil) .nil) (.node (o57 P) (.node (o1 P) .nil .nil) .nil))) (.node (o2 P) (.node (o9 P) (.node (o40 P) (.node (o73 P) .nil .nil) (.node (o118 P) .nil .nil)) (.node (o1 P) (.node (o98 P) .nil .nil) .nil)) (.node (o32 b) (.node (o45 P) (.node (o81 P) .nil .nil) .nil) (.node (o66 P) (.node (o104 P) .nil .nil) .nil))))) (.node (boot_o_2 P) (.node (boot_o_4 P) (.node (boot_o_8 P) (.node (o1 P) (.node (o36 P) (.node (o0 P) .nil .nil) (.node (o107 P) .nil .nil)) (.node (o49 b) (.node (o85 P) .nil .nil) .nil)) (.node (o14 P) (.node (o0 P) (.node (o76 P) .nil .nil) .nil) (.node (o56 P) (.node (o0 P) .nil .nil) .nil))) (.node (o101 P) (.node (o8 P) (.node (o0 P) (.node (o72 P) .nil .nil) (.node (o117 P) .nil .nil)) (.node (o0 P) (.node (o95 b) .nil .nil) .nil)) (.node (o17 P) (.node (o44 P) (.node (o80 P) .nil .nil) .nil) (.node (o65 b) (.node (o103 P) .nil .nil) .nil)))) (.node (boot_o_6 P) (.node (boot_o_10 P) (.node (o0 P) (.node (o1 P) (.node (o71 P) .nil .nil) (.node (o116 P) .nil .nil)) (.node (o0 P) (.node (o86 P) .nil .nil) .nil)) (.node (o0 P) (.node (o43 P) (.node (o79 P) .nil .nil) .nil) (.node (o58 P) (.node (o102 P) .nil .nil) .nil))) (.node (o3 P) (.node (o10 P) (.node (o41 P) (.node (o74 P) .nil .nil) (.node (o140 b) .nil .nil)) (.node (o55 P) (.node (o0 P) .nil .nil) .nil)) (.node (o35 P) (.node (o46 P) (.node (o82 P) .nil .nil) .nil) (.node (o0 P) (.node (o105 P) .nil .nil) .nil))))))
def sT51 (w : World) (os : OsState) (b : Bool) : SharedT := ⟨tr51 w.params b, 104, {}, #[], {}, 527, os⟩
abbrev pc9x16Q (b : Bool) (w : World) : Prop := ∀ os : OsState, segF tabF pg w 11 (some (Value.ref 6)) 1 80 (sT50 w os b) (th9x5 w os) = some (sT51 w os b, th9x5 w os)
theorem pc9x16ff (w : World) : pc9x16Q false (w.withFollow "special-get-raises" false) := by
  intro os; kernel_rfl
theorem pc9x16ft (w : World) : pc9x16Q false (w.withFollow "special-get-raises" true) := by
  intro os; kernel_rfl
theorem pc9x16tf (w : World) : pc9x16Q true (w.withFollow "special-get-raises" false) := by
  intro os; kernel_rfl
theorem pc9x16tt (w : World) : pc9x16Q true (w.withFollow "special-get-raises" true) := by
  intro os; kernel_rfl
theorem pc9x16b : ∀ (b : Bool) (w : World), pc9x16Q b w
  | false, w => byRow2 "special-get-raises" (P := pc9x16Q false) pc9x16ff pc9x16ft w
  | true, w => byRow2 "special-get-raises" (P := pc9x16Q true) pc9x16tf pc9x16tt w
theorem pc9x16 : ∀ (w : World) (os : OsState), segF tabF pg w 11 (some (Value.ref 6)) 1 80 (sT50 w os (so w)) (th9x5 w os) = some (sT51 w os (so w), th9x5 w os) := fun w os => pc9x16b (so w) w os
def o142 (b : Bool) : Obj := ⟨(Value.type "set"), none, Data.set #[(917505, (Value.int 917505 379)), (917536, (Value.int 917536 385)), (917537, (Value.int 917537 386)), (917538, (Value.int 917538 387)), (917539, (Value.int 917539 388)), (917540, (Value.int 917540 389)), (917541, (Value.int 917541 390)), (917542, (Value.int 917542 391)), (917543, (Value.int 917543 392)), (917544, (Value.int 917544 393)), (917545, (Value.int 917545 394)), (917546, (Value.int 917546 395)), (917547, (Value.int 917547 396)), (917548, (Value.int 917548 397)), (917549, (Value.int 917549 398)), (917550, (Value.int 917550 399)), (917551, (Value.int 917551 400)), (917552, (Value.int 917552 401)), (917553, (Value.int 917553 402)), (917554, (Value.int 917554 403)), (917555, (Value.int 917555 404)), (917556, (Value.int 917556 405)), (917557, (Value.int 917557 406)), (917558, (Value.int 917558 407)), (917559, (Value.int 917559 408)), (917560, (Value.int 917560 409)), (917561, (Value.int 917561 410)), (917562, (Value.int 917562 411)), (917563, (Value.int 917563 412)), (917564, (Value.int 917564 413)), (917565, (Value.int 917565 414)), (917566, (Value.int 917566 415)), (917567, (Value.int 917567 416)), (917568, (Value.int 917568 417)), (917569, (Value.int 917569 418)), (917570, (Value.int 917570 419)), (917571, (Value.int 917571 420)), (917572, (Value.int 917572 421)), (917573, (Value.int 917573 422)), (917574, (Value.int 917574 423)), (917575, (Value.int 917575 424)), (917576, (Value.int 917576 425)), (917577, (Value.int 917577 426)), (917578, (Value.int 917578 427)), (917579, (Value.int 917579 428)), (917580, (Value.int 917580 429)), (917581, (Value.int 917581 430)), (917582, (Value.int 917582 431)), (917583, (Value.int 917583 432)), (917584, (Value.int 917584 433))] 52 ⟨127, #[1, 32, 33, 34, 35, 36, 37, 38, 39, 40, 41, 42, 43, 44, 45, 46, 47, 48, 49, 50, 51, 52, 53, 54, 55, 56, 57, 58, 59, 60, 61, 62, 63, 64, 65, 66, 67, 68, 69, 70, 71, 72, 73, 74, 75, 76, 77, 78, 79, 80], #[], 0, (!b), 2, true⟩, #[]⟩
def o143 (P : Params) : Obj := ⟨(Value.type "list_iterator"), none, Data.fields #[(Value.ref 101), (Value.int 50 0)], #[]⟩
def tr52 (P : Params) (b : Bool) : BT := (.node (boot_o_0 P) (.node (boot_o_1 P) (.node (o100 P) (.node (boot_o_7 P) (.node (o0 P) (.node (o0 P) (.node (o68 P) .nil .nil) (.node (o106 P) .nil .nil)) (.node (o47 P) (.node (o84 P) .nil .nil) .nil)) (.node (o11 P) (.node (o42 P) (.node (o75 P) .nil .nil) (.node (o143 P) .nil .nil)) (.node (o0 P) (.node (o99 P) .nil .nil) .nil))) (.node (o0 P) (.node (o7 P) (.node (o39 P) (.node (o0 P) .nil .nil) (.node (o0 P) .nil .nil)) (.node (o52 P) (.node (o87 P) .nil .nil) .nil)) (.node (o16 P) (.node (o0 P) (.node (o0 P) .nil .nil) .nil) (.node (o59 P) (.node (o0 P) .nil .nil) .nil)))) (.node (boot_o_5 P) (.node (boot_o_9 P) (.node (o6 P) (.node (o0 P) (.node (o1 P) .nil .nil) (.node (o115 P) .nil .nil)) (.node (o50 P) (.node (o0 P) .nil .nil) .nil)) (.node (o15 P) (.node (o1 P) (.node (o78 P) .nil .nil) .nil) (.node (o57 P) (.node (o1 P) .nil .nil) .nil))) (.node (o2 P) (.node (o9 P) (.node (o40 P) (.node (o73 P) .nil .nil) (.node (o118 P) .nil .nil)) (.node (o1 P) (.node (o98 P) .nil .nil) .nil)) (.node (o32 b) (.node (o45 P) (.node (o81 P) .nil .nil) .nil) (.node (o66 P) (.node (o104 P) .nil .nil) .nil))))) (.node (boot_o_2 P) (.node (boot_o_4 P) (.node (boot_o_8 P) (.node (o1 P) (.node (o36 P) (.node (o0 P) .nil .nil) (.node (o107 P) .nil .nil)) (.node (o49 b) (.node (o85 P) .nil .nil) .nil)) (.node (o14 P) (.node (o0 P) (.node (o76 P) .nil .nil) .nil) (.node (o56 P) (.node (o0 P) .nil .nil) .nil))) (.node (o101 P) (.node (o8 P) (.node (o0 P) (.node (o72 P) .nil .nil) (.node (o117 P) .nil .nil)) (.node (o0 P) (.node (o95 b) .nil .nil) .nil)) (.node (o17 P) (.node (o44 P) (.node (o80 P) .nil .nil) .nil) (.node (o65 b) (.node (o103 P) .nil .nil) .nil)))) (.node (boot_o_6 P) (.node (boot_o_10 P) (.node (o0 P) (.node (o1 P) (.node (o71 P) .nil .nil) (.node (o116 P) .nil .nil)) (.node (o0 P) (.node (o86 P) .nil .nil) .nil)) (.node (o0 P) (.node (o43 P) (.node (o79 P) .nil .nil) .nil) (.node (o58 P) (.node (o102 P) .nil .nil) .nil))) (.node (o3 P) (.node (o10 P) (.node (o41 P) (.node (o74 P) .nil .nil) (.node (o142 b) .nil .nil)) (.node (o55 P) (.node (o0 P) .nil .nil) .nil)) (.node (o35 P) (.node (o46 P) (.node (o82 P) .nil .nil) .nil) (.node (o0 P) (.node (o105 P) .nil .nil) .nil))))))
def sT52 (w : World) (os : OsState) (b : Bool) : SharedT := ⟨tr52 w.params b, 104, {}, #[], {}, 531, os⟩
abbrev pc9x17Q (b : Bool) (w : World) : Prop := ∀ os : OsState, segF tabF pg w 11 (some (Value.ref 6)) 1 80 (sT51 w os b) (th9x5 w os) = some (sT52 w os b, th9x5 w os)
theorem pc9x17ff (w : World) : pc9x17Q false (w.withFollow "special-get-raises" false) := by
  intro os; kernel_rfl
theorem pc9x17ft (w : World) : pc9x17Q false (w.withFollow "special-get-raises" true) := by
  intro os; kernel_rfl
theorem pc9x17tf (w : World) : pc9x17Q true (w.withFollow "special-get-raises" false) := by
  intro os; kernel_rfl
theorem pc9x17tt (w : World) : pc9x17Q true (w.withFollow "special-get-raises" true) := by
  intro os; kernel_rfl
theorem pc9x17b : ∀ (b : Bool) (w : World), pc9x17Q b w
  | false, w => byRow2 "special-get-raises" (P := pc9x17Q false) pc9x17ff pc9x17ft w
  | true, w => byRow2 "special-get-raises" (P := pc9x17Q true) pc9x17tf pc9x17tt w
theorem pc9x17 : ∀ (w : World) (os : OsState), segF tabF pg w 11 (some (Value.ref 6)) 1 80 (sT51 w os (so w)) (th9x5 w os) = some (sT52 w os (so w), th9x5 w os) := fun w os => pc9x17b (so w) w os
def o144 (b : Bool) : Obj := ⟨(Value.type "set"), none, Data.set #[(917505, (Value.int 917505 379)), (917536, (Value.int 917536 385)), (917537, (Value.int 917537 386)), (917538, (Value.int 917538 387)), (917539, (Value.int 917539 388)), (917540, (Value.int 917540 389)), (917541, (Value.int 917541 390)), (917542, (Value.int 917542 391)), (917543, (Value.int 917543 392)), (917544, (Value.int 917544 393)), (917545, (Value.int 917545 394)), (917546, (Value.int 917546 395)), (917547, (Value.int 917547 396)), (917548, (Value.int 917548 397)), (917549, (Value.int 917549 398)), (917550, (Value.int 917550 399)), (917551, (Value.int 917551 400)), (917552, (Value.int 917552 401)), (917553, (Value.int 917553 402)), (917554, (Value.int 917554 403)), (917555, (Value.int 917555 404)), (917556, (Value.int 917556 405)), (917557, (Value.int 917557 406)), (917558, (Value.int 917558 407)), (917559, (Value.int 917559 408)), (917560, (Value.int 917560 409)), (917561, (Value.int 917561 410)), (917562, (Value.int 917562 411)), (917563, (Value.int 917563 412)), (917564, (Value.int 917564 413)), (917565, (Value.int 917565 414)), (917566, (Value.int 917566 415)), (917567, (Value.int 917567 416)), (917568, (Value.int 917568 417)), (917569, (Value.int 917569 418)), (917570, (Value.int 917570 419)), (917571, (Value.int 917571 420)), (917572, (Value.int 917572 421)), (917573, (Value.int 917573 422)), (917574, (Value.int 917574 423)), (917575, (Value.int 917575 424)), (917576, (Value.int 917576 425)), (917577, (Value.int 917577 426)), (917578, (Value.int 917578 427)), (917579, (Value.int 917579 428)), (917580, (Value.int 917580 429)), (917581, (Value.int 917581 430)), (917582, (Value.int 917582 431)), (917583, (Value.int 917583 432)), (917584, (Value.int 917584 433)), (917585, (Value.int 917585 434)), (917586, (Value.int 917586 435)), (917587, (Value.int 917587 436)), (917588, (Value.int 917588 437))] 56 ⟨127, #[1, 32, 33, 34, 35, 36, 37, 38, 39, 40, 41, 42, 43, 44, 45, 46, 47, 48, 49, 50, 51, 52, 53, 54, 55, 56, 57, 58, 59, 60, 61, 62, 63, 64, 65, 66, 67, 68, 69, 70, 71, 72, 73, 74, 75, 76, 77, 78, 79, 80, 81, 82, 83, 84], #[], 0, (!b), 2, true⟩, #[]⟩
def o145 (P : Params) : Obj := ⟨(Value.type "list_iterator"), none, Data.fields #[(Value.ref 101), (Value.int 54 0)], #[]⟩
def tr53 (P : Params) (b : Bool) : BT := (.node (boot_o_0 P) (.node (boot_o_1 P) (.node (o100 P) (.node (boot_o_7 P) (.node (o0 P) (.node (o0 P) (.node (o68 P) .nil .nil) (.node (o106 P) .nil .nil)) (.node (o47 P) (.node (o84 P) .nil .nil) .nil)) (.node (o11 P) (.node (o42 P) (.node (o75 P) .nil .nil) (.node (o145 P) .nil .nil)) (.node (o0 P) (.node (o99 P) .nil .nil) .nil))) (.node (o0 P) (.node (o7 P) (.node (o39 P) (.node (o0 P) .nil .nil) (.node (o0 P) .nil .nil)) (.node (o52 P) (.node (o87 P) .nil .nil) .nil)) (.node (o16 P) (.node (o0 P) (.node (o0 P) .nil .nil) .nil) (.node (o59 P) (.node (o0 P) .nil .nil) .nil)))) (.node (boot_o_5 P) (.node (boot_o_9 P) (.node (o6 P) (.node (o0 P) (.node (o1 P) .nil .nil) (.node (o115 P) .nil .nil)) (.node (o50 P) (.node (o0 P) .nil .nil) .nil)) (.node (o15 P) (.node (o1 P) (.node (o78 P) .nil .nil) .nil) (.node (o57 P) (.node (o1 P) .nil .nil) .nil))) (.node (o2 P) (.node (o9 P) (.node (o40 P) (.node (o73 P) .nil .nil) (.node (o118 P) .nil .nil)) (.node (o1 P) (.node (o98 P) .nil .nil) .nil)) (.node (o32 b) (.node (o45 P) (.node (o81 P) .nil .nil) .nil) (.node (o66 P) (.node (o104 P) .nil .nil) .nil))))) (.node (boot_o_2 P) (.node (boot_o_4 P) (.node (boot_o_8 P) (.node (o1 P) (.node (o36 P) (.node (o0 P) .nil .nil) (.node (o107 P) .nil .nil)) (.node (o49 b) (.node (o85 P) .nil .nil) .nil)) (.node (o14 P) (.node (o0 P) (.node (o76 P) .nil .nil) .nil) (.node (o56 P) (.node (o0 P) .nil .nil) .nil))) (.node (o101 P) (.node (o8 P) (.node (o0 P) (.node (o72 P) .nil .nil) (.node (o117 P) .nil .nil)) (.node (o0 P) (.node (o95 b) .nil .nil) .nil)) (.node (o17 P) (.node (o44 P) (.node (o80 P) .nil .nil) .nil) (.node (o65 b) (.node (o103 P) .nil .nil) .nil)))) (.node (boot_o_6 P) (.node (boot_o_10 P) (.node (o0 P) (.node (o1 P) (.node (o71 P) .nil .nil) (.node (o116 P) .nil .nil)) (.node (o0 P) (.node (o86 P) .nil .nil) .nil)) (.node (o0 P) (.node (o43 P) (.node (o79 P) .nil .nil) .nil) (.node (o58 P) (.node (o102 P) .nil .nil) .nil))) (.node (o3 P) (.node (o10 P) (.node (o41 P) (.node (o74 P) .nil .nil) (.node (o144 b) .nil .nil)) (.node (o55 P) (.node (o0 P) .nil .nil) .nil)) (.node (o35 P) (.node (o46 P) (.node (o82 P) .nil .nil) .nil) (.node (o0 P) (.node (o105 P) .nil .nil) .nil))))))
def sT53 (w : World) (os : OsState) (b : Bool) : SharedT := ⟨tr53 w.params b, 104, {}, #[], {}, 535, os⟩
abbrev pc9x18Q (b : Bool) (w : World) : Prop := ∀ os : OsState, segF tabF pg w 11 (some (Value.ref 6)) 1 80 (sT52 w os b) (th9x5 w os) = some (sT53 w os b, th9x5 w os)
theorem pc9x18ff (w : World) : pc9x18Q false (w.withFollow "special-get-raises" false) := by
  intro os; kernel_rfl
theorem pc9x18ft (w : World) : pc9x18Q false (w.withFollow "special-get-raises" true) := by
  intro os; kernel_rfl
theorem pc9x18tf (w : World) : pc9x18Q true (w.withFollow "special-get-raises" false) := by
  intro os; kernel_rfl
theorem pc9x18tt (w : World) : pc9x18Q true (w.withFollow "special-get-raises" true) := by
  intro os; kernel_rfl
theorem pc9x18b : ∀ (b : Bool) (w : World), pc9x18Q b w
  | false, w => byRow2 "special-get-raises" (P := pc9x18Q false) pc9x18ff pc9x18ft w
  | true, w => byRow2 "special-get-raises" (P := pc9x18Q true) pc9x18tf pc9x18tt w
theorem pc9x18 : ∀ (w : World) (os : OsState), segF tabF pg w 11 (some (Value.ref 6)) 1 80 (sT52 w os (so w)) (th9x5 w os) = some (sT53 w os (so w), th9x5 w os) := fun w os => pc9x18b (so w) w os
def o146 (b : Bool) : Obj := ⟨(Value.type "set"), none, Data.set #[(917505, (Value.int 917505 379)), (917536, (Value.int 917536 385)), (917537, (Value.int 917537 386)), (917538, (Value.int 917538 387)), (917539, (Value.int 917539 388)), (917540, (Value.int 917540 389)), (917541, (Value.int 917541 390)), (917542, (Value.int 917542 391)), (917543, (Value.int 917543 392)), (917544, (Value.int 917544 393)), (917545, (Value.int 917545 394)), (917546, (Value.int 917546 395)), (917547, (Value.int 917547 396)), (917548, (Value.int 917548 397)), (917549, (Value.int 917549 398)), (917550, (Value.int 917550 399)), (917551, (Value.int 917551 400)), (917552, (Value.int 917552 401)), (917553, (Value.int 917553 402)), (917554, (Value.int 917554 403)), (917555, (Value.int 917555 404)), (917556, (Value.int 917556 405)), (917557, (Value.int 917557 406)), (917558, (Value.int 917558 407)), (917559, (Value.int 917559 408)), (917560, (Value.int 917560 409)), (917561, (Value.int 917561 410)), (917562, (Value.int 917562 411)), (917563, (Value.int 917563 412)), (917564, (Value.int 917564 413)), (917565, (Value.int 917565 414)), (917566, (Value.int 917566 415)), (917567, (Value.int 917567 416)), (917568, (Value.int 917568 417)), (917569, (Value.int 917569 418)), (917570, (Value.int 917570 419)), (917571, (Value.int 917571 420)), (917572, (Value.int 917572 421)), (917573, (Value.int 917573 422)), (917574, (Value.int 917574 423)), (917575, (Value.int 917575 424)), (917576, (Value.int 917576 425)), (917577, (Value.int 917577 426)), (917578, (Value.int 917578 427)), (917579, (Value.int 917579 428)), (917580, (Value.int 917580 429)), (917581, (Value.int 917581 430)), (917582, (Value.int 917582 431)), (917583, (Value.int 917583 432)), (917584, (Value.int 917584 433)), (917585, (Value.int 917585 434)), (917586, (Value.int 917586 435)), (917587, (Value.int 917587 436)), (917588, (Value.int 917588 437)), (917589, (Value.int 917589 438)), (917590, (Value.int 917590 439)), (917591, (Value.int 917591 440)), (917592, (Value.int 917592 441))] 60 ⟨127, #[1, 32, 33, 34, 35, 36, 37, 38, 39, 40, 41, 42, 43, 44, 45, 46, 47, 48, 49, 50, 51, 52, 53, 54, 55, 56, 57, 58, 59, 60, 61, 62, 63, 64, 65, 66, 67, 68, 69, 70, 71, 72, 73, 74, 75, 76, 77, 78, 79, 80, 81, 82, 83, 84, 85, 86, 87, 88], #[], 0, (!b), 2, true⟩, #[]⟩
def o147 (P : Params) : Obj := ⟨(Value.type "list_iterator"), none, Data.fields #[(Value.ref 101), (Value.int 58 0)], #[]⟩
def tr54 (P : Params) (b : Bool) : BT := (.node (boot_o_0 P) (.node (boot_o_1 P) (.node (o100 P) (.node (boot_o_7 P) (.node (o0 P) (.node (o0 P) (.node (o68 P) .nil .nil) (.node (o106 P) .nil .nil)) (.node (o47 P) (.node (o84 P) .nil .nil) .nil)) (.node (o11 P) (.node (o42 P) (.node (o75 P) .nil .nil) (.node (o147 P) .nil .nil)) (.node (o0 P) (.node (o99 P) .nil .nil) .nil))) (.node (o0 P) (.node (o7 P) (.node (o39 P) (.node (o0 P) .nil .nil) (.node (o0 P) .nil .nil)) (.node (o52 P) (.node (o87 P) .nil .nil) .nil)) (.node (o16 P) (.node (o0 P) (.node (o0 P) .nil .nil) .nil) (.node (o59 P) (.node (o0 P) .nil .nil) .nil)))) (.node (boot_o_5 P) (.node (boot_o_9 P) (.node (o6 P) (.node (o0 P) (.node (o1 P) .nil .nil) (.node (o115 P) .nil .nil)) (.node (o50 P) (.node (o0 P) .nil .nil) .nil)) (.node (o15 P) (.node (o1 P) (.node (o78 P) .nil .nil) .nil) (.node (o57 P) (.node (o1 P) .nil .nil) .nil))) (.node (o2 P) (.node (o9 P) (.node (o40 P) (.node (o73 P) .nil .nil) (.node (o118 P) .nil .nil)) (.node (o1 P) (.node (o98 P) .nil .nil) .nil)) (.node (o32 b) (.node (o45 P) (.node (o81 P) .nil .nil) .nil) (.node (o66 P) (.node (o104 P) .nil .nil) .nil))))) (.node (boot_o_2 P) (.node (boot_o_4 P) (.node (boot_o_8 P) (.node (o1 P) (.node (o36 P) (.node (o0 P) .nil .nil) (.node (o107 P) .nil .nil)) (.node (o49 b) (.node (o85 P) .nil .nil) .nil)) (.node (o14 P) (.node (o0 P) (.node (o76 P) .nil .nil) .nil) (.node (o56 P) (.node (o0 P) .nil .nil) .nil))) (.node (o101 P) (.node (o8 P) (.node (o0 P) (.node (o72 P) .nil .nil) (.node (o117 P) .nil .nil)) (.node (o0 P) (.node (o95 b) .nil .nil) .nil)) (.node (o17 P) (.node (o44 P) (.node (o80 P) .nil .nil) .nil) (.node (o65 b) (.node (o103 P) .nil .nil) .nil)))) (.node (boot_o_6 P) (.node (boot_o_10 P) (.node (o0 P) (.node (o1 P) (.node (o71 P) .nil .nil) (.node (o116 P) .nil .nil)) (.node (o0 P) (.node (o86 P) .nil .nil) .nil)) (.node (o0 P) (.node (o43 P) (.node (o79 P) .nil .nil) .nil) (.node (o58 P) (.node (o102 P) .nil .nil) .nil))) (.node (o3 P) (.node (o10 P) (.node (o41 P) (.node (o74 P) .nil .nil) (.node (o146 b) .nil .nil)) (.node (o55 P) (.node (o0 P) .nil .nil) .nil)) (.node (o35 P) (.node (o46 P) (.node (o82 P) .nil .nil) .nil) (.node (o0 P) (.node (o105 P) .nil .nil) .nil))))))
def sT54 (w : World) (os : OsState) (b : Bool) : SharedT := ⟨tr54 w.params b, 104, {}, #[], {}, 539, os⟩
abbrev pc9x19Q (b : Bool) (w : World) : Prop := ∀ os : OsState, segF tabF pg w 11 (some (Value.ref 6)) 1 80 (sT53 w os b) (th9x5 w os) = some (sT54 w os b, th9x5 w os)
theorem pc9x19ff (w : World) : pc9x19Q false (w.withFollow "special-get-raises" false) := by
  intro os; kernel_rfl
theorem pc9x19ft (w : World) : pc9x19Q false (w.withFollow "special-get-raises" true) := by
  intro os; kernel_rfl
theorem pc9x19tf (w : World) : pc9x19Q true (w.withFollow "special-get-raises" false) := by
  intro os; kernel_rfl
theorem pc9x19tt (w : World) : pc9x19Q true (w.withFollow "special-get-raises" true) := by
  intro os; kernel_rfl
theorem pc9x19b : ∀ (b : Bool) (w : World), pc9x19Q b w
  | false, w => byRow2 "special-get-raises" (P := pc9x19Q false) pc9x19ff pc9x19ft w
  | true, w => byRow2 "special-get-raises" (P := pc9x19Q true) pc9x19tf pc9x19tt w
theorem pc9x19 : ∀ (w : World) (os : OsState), segF tabF pg w 11 (some (Value.ref 6)) 1 80 (sT53 w os (so w)) (th9x5 w os) = some (sT54 w os (so w), th9x5 w os) := fun w os => pc9x19b (so w) w os
def o148 (b : Bool) : Obj := ⟨(Value.type "set"), none, Data.set #[(917505, (Value.int 917505 379)), (917536, (Value.int 917536 385)), (917537, (Value.int 917537 386)), (917538, (Value.int 917538 387)), (917539, (Value.int 917539 388)), (917540, (Value.int 917540 389)), (917541, (Value.int 917541 390)), (917542, (Value.int 917542 391)), (917543, (Value.int 917543 392)), (917544, (Value.int 917544 393)), (917545, (Value.int 917545 394)), (917546, (Value.int 917546 395)), (917547, (Value.int 917547 396)), (917548, (Value.int 917548 397)), (917549, (Value.int 917549 398)), (917550, (Value.int 917550 399)), (917551, (Value.int 917551 400)), (917552, (Value.int 917552 401)), (917553, (Value.int 917553 402)), (917554, (Value.int 917554 403)), (917555, (Value.int 917555 404)), (917556, (Value.int 917556 405)), (917557, (Value.int 917557 406)), (917558, (Value.int 917558 407)), (917559, (Value.int 917559 408)), (917560, (Value.int 917560 409)), (917561, (Value.int 917561 410)), (917562, (Value.int 917562 411)), (917563, (Value.int 917563 412)), (917564, (Value.int 917564 413)), (917565, (Value.int 917565 414)), (917566, (Value.int 917566 415)), (917567, (Value.int 917567 416)), (917568, (Value.int 917568 417)), (917569, (Value.int 917569 418)), (917570, (Value.int 917570 419)), (917571, (Value.int 917571 420)), (917572, (Value.int 917572 421)), (917573, (Value.int 917573 422)), (917574, (Value.int 917574 423)), (917575, (Value.int 917575 424)), (917576, (Value.int 917576 425)), (917577, (Value.int 917577 426)), (917578, (Value.int 917578 427)), (917579, (Value.int 917579 428)), (917580, (Value.int 917580 429)), (917581, (Value.int 917581 430)), (917582, (Value.int 917582 431)), (917583, (Value.int 917583 432)), (917584, (Value.int 917584 433)), (917585, (Value.int 917585 434)), (917586, (Value.int 917586 435)), (917587, (Value.int 917587 436)), (917588, (Value.int 917588 437)), (917589, (Value.int 917589 438)), (917590, (Value.int 917590 439)), (917591, (Value.int 917591 440)), (917592, (Value.int 917592 441)), (917593, (Value.int 917593 442)), (917594, (Value.int 917594 443)), (917595, (Value.int 917595 444)), (917596, (Value.int 917596 445))] 64 ⟨127, #[1, 32, 33, 34, 35, 36, 37, 38, 39, 40, 41, 42, 43, 44, 45, 46, 47, 48, 49, 50, 51, 52, 53, 54, 55, 56, 57, 58, 59, 60, 61, 62, 63, 64, 65, 66, 67, 68, 69, 70, 71, 72, 73, 74, 75, 76, 77, 78, 79, 80, 81, 82, 83, 84, 85, 86, 87, 88, 89, 90, 91, 92], #[], 0, (!b), 2, true⟩, #[]⟩
def o149 (P : Params) : Obj := ⟨(Value.type "list_iterator"), none, Data.fields #[(Value.ref 101), (Value.int 62 0)], #[]⟩
def tr55 (P : Params) (b : Bool) : BT := (.node (boot_o_0 P) (.node (boot_o_1 P) (.node (o100 P) (.node (boot_o_7 P) (.node (o0 P) (.node (o0 P) (.node (o68 P) .nil .nil) (.node (o106 P) .nil .nil)) (.node (o47 P) (.node (o84 P) .nil .nil) .nil)) (.node (o11 P) (.node (o42 P) (.node (o75 P) .nil .nil) (.node (o149 P) .nil .nil)) (.node (o0 P) (.node (o99 P) .nil .nil) .nil))) (.node (o0 P) (.node (o7 P) (.node (o39 P) (.node (o0 P) .nil .nil) (.node (o0 P) .nil .nil)) (.node (o52 P) (.node (o87 P) .nil .nil) .nil)) (.node (o16 P) (.node (o0 P) (.node (o0 P) .nil .nil) .nil) (.node (o59 P) (.node (o0 P) .nil .nil) .nil)))) (.node (boot_o_5 P) (.node (boot_o_9 P) (.node (o6 P) (.node (o0 P) (.node (o1 P) .nil .nil) (.node (o115 P) .nil .nil)) (.node (o50 P) (.node (o0 P) .nil .nil) .nil)) (.node (o15 P) (.node (o1 P) (.node (o78 P) .nil .nil) .nil) (.node (o57 P) (.node (o1 P) .nil .nil) .nil))) (.node (o2 P) (.node (o9 P) (.node (o40 P) (.node (o73 P) .nil .nil) (.node (o118 P) .nil .nil)) (.node (o1 P) (.node (o98 P) .nil .nil) .nil)) (.node (o32 b) (.node (o45 P) (.node (o81 P) .nil .nil) .nil) (.node (o66 P) (.node (o104 P) .nil .nil) .nil))))) (.node (boot_o_2 P) (.node (boot_o_4 P) (.node (boot_o_8 P) (.node (o1 P) (.node (o36 P) (.node (o0 P) .nil .nil) (.node (o107 P) .nil .nil)) (.node (o49 b) (.node (o85 P) .nil .nil) .nil)) (.node (o14 P) (.node (o0 P) (.node (o76 P) .nil .nil) .nil) (.node (o56 P) (.node (o0 P) .nil .nil) .nil))) (.node (o101 P) (.node (o8 P) (.node (o0 P) (.node (o72 P) .nil .nil) (.node (o117 P) .nil .nil)) (.node (o0 P) (.node (o95 b) .nil .nil) .nil)) (.node (o17 P) (.node (o44 P) (.node (o80 P) .nil .nil) .nil) (.node (o65 b) (.node (o103 P) .nil .nil) .nil)))) (.node (boot_o_6 P) (.node (boot_o_10 P) (.node (o0 P) (.node (o1 P) (.node (o71 P) .nil .nil) (.node (o116 P) .nil .nil)) (.node (o0 P) (.node (o86 P) .nil .nil) .nil)) (.node (o0 P) (.node (o43 P) (.node (o79 P) .nil .nil) .nil) (.node (o58 P) (.node (o102 P) .nil .nil) .nil))) (.node (o3 P) (.node (o10 P) (.node (o41 P) (.node (o74 P) .nil .nil) (.node (o148 b) .nil .nil)) (.node (o55 P) (.node (o0 P) .nil .nil) .nil)) (.node (o35 P) (.node (o46 P) (.node (o82 P) .nil .nil) .nil) (.node (o0 P) (.node (o105 P) .nil .nil) .nil))))))
def sT55 (w : World) (os : OsState) (b : Bool) : SharedT := ⟨tr55 w.params b, 104, {}, #[], {}, 543, os⟩
abbrev pc9x20Q (b : Bool) (w : World) : Prop := ∀ os : OsState, segF tabF pg w 11 (some (Value.ref 6)) 1 80 (sT54 w os b) (th9x5 w os) = some (sT55 w os b, th9x5 w os)
theorem pc9x20ff (w : World) : pc9x20Q false (w.withFollow "special-get-raises" false) := by
  intro os; kernel_rfl
theorem pc9x20ft (w : World) : pc9x20Q false (w.withFollow "special-get-raises" true) := by
  intro os; kernel_rfl
theorem pc9x20tf (w : World) : pc9x20Q true (w.withFollow "special-get-raises" false) := by
  intro os; kernel_rfl
theorem pc9x20tt (w : World) : pc9x20Q true (w.withFollow "special-get-raises" true) := by
  intro os; kernel_rfl
theorem pc9x20b : ∀ (b : Bool) (w : World), pc9x20Q b w
  | false, w => byRow2 "special-get-raises" (P := pc9x20Q false) pc9x20ff pc9x20ft w
  | true, w => byRow2 "special-get-raises" (P := pc9x20Q true) pc9x20tf pc9x20tt w
theorem pc9x20 : ∀ (w : World) (os : OsState), segF tabF pg w 11 (some (Value.ref 6)) 1 80 (sT54 w os (so w)) (th9x5 w os) = some (sT55 w os (so w), th9x5 w os) := fun w os => pc9x20b (so w) w os
def o150 (b : Bool) : Obj := ⟨(Value.type "set"), none, Data.set #[(917505, (Value.int 917505 379)), (917536, (Value.int 917536 385)), (917537, (Value.int 917537 386)), (917538, (Value.int 917538 387)), (917539, (Value.int 917539 388)), (917540, (Value.int 917540 389)), (917541, (Value.int 917541 390)), (917542, (Value.int 917542 391)), (917543, (Value.int 917543 392)), (917544, (Value.int 917544 393)), (917545, (Value.int 917545 394)), (917546, (Value.int 917546 395)), (917547, (Value.int 917547 396)), (917548, (Value.int 917548 397)), (917549, (Value.int 917549 398)), (917550, (Value.int 917550 399)), (917551, (Value.int 917551 400)), (917552, (Value.int 917552 401)), (917553, (Value.int 917553 402)), (917554, (Value.int 917554 403)), (917555, (Value.int 917555 404)), (917556, (Value.int 917556 405)), (917557, (Value.int 917557 406)), (917558, (Value.int 917558 407)), (917559, (Value.int 917559 408)), (917560, (Value.int 917560 409)), (917561, (Value.int 917561 410)), (917562, (Value.int 917562 411)), (917563, (Value.int 917563 412)), (917564, (Value.int 917564 413)), (917565, (Value.int 917565 414)), (917566, (Value.int 917566 415)), (917567, (Value.int 917567 416)), (917568, (Value.int 917568 417)), (917569, (Value.int 917569 418)), (917570, (Value.int 917570 419)), (917571, (Value.int 917571 420)), (917572, (Value.int 917572 421)), (917573, (Value.int 917573 422)), (917574, (Value.int 917574 423)), (917575, (Value.int 917575 424)), (917576, (Value.int 917576 425)), (917577, (Value.int 917577 426)), (917578, (Value.int 917578 427)), (917579, (Value.int 917579 428)), (917580, (Value.int 917580 429)), (917581, (Value.int 917581 430)), (917582, (Value.int 917582 431)), (917583, (Value.int 917583 432)), (917584, (Value.int 917584 433)), (917585, (Value.int 917585 434)), (917586, (Value.int 917586 435)), (917587, (Value.int 917587 436)), (917588, (Value.int 917588 437)), (917589, (Value.int 917589 438)), (917590, (Value.int 917590 439)), (917591, (Value.int 917591 440)), (917592, (Value.int 917592 441)), (917593, (Value.int 917593 442)), (917594, (Value.int 917594 443)), (917595, (Value.int 917595 444)), (917596, (Value.int 917596 445)), (917597, (Value.int 917597 446)), (917598, (Value.int 917598 447)), (917599, (Value.int 917599 448)), (917600, (Value.int 917600 449))] 68 ⟨127, #[1, 32, 33, 34, 35, 36, 37, 38, 39, 40, 41, 42, 43, 44, 45, 46, 47, 48, 49, 50, 51, 52, 53, 54, 55, 56, 57, 58, 59, 60, 61, 62, 63, 64, 65, 66, 67, 68, 69, 70, 71, 72, 73, 74, 75, 76, 77, 78, 79, 80, 81, 82, 83, 84, 85, 86, 87, 88, 89, 90, 91, 92, 93, 94, 95, 96], #[], 0, (!b), 2, true⟩, #[]⟩
def o151 (P : Params) : Obj := ⟨(Value.type "list_iterator"), none, Data.fields #[(Value.ref 101), (Value.int 66 0)], #[]⟩
def tr56 (P : Params) (b : Bool) : BT := (.node (boot_o_0 P) (.node (boot_o_1 P) (.node (o100 P) (.node (boot_o_7 P) (.node (o0 P) (.node (o0 P) (.node (o68 P) .nil .nil) (.node (o106 P) .nil .nil)) (.node (o47 P) (.node (o84 P) .nil .nil) .nil)) (.node (o11 P) (.node (o42 P) (.node (o75 P) .nil .nil) (.node (o151 P) .nil .nil)) (.node (o0 P) (.node (o99 P) .nil .nil) .nil))) (.node (o0 P) (.node (o7 P) (.node (o39 P) (.node (o0 P) .nil .nil) (.node (o0 P) .nil .nil)) (.node (o52 P) (.node (o87 P) .nil .nil) .nil)) (.node (o16 P) (.node (o0 P) (.node (o0 P) .nil .nil) .nil) (.node (o59 P) (.node (o0 P) .nil .nil) .nil)))) (.node (boot_o_5 P) (.node (boot_o_9 P) (.node (o6 P) (.node (o0 P) (.node (o1 P) .nil .nil) (.node (o115 P) .nil .nil)) (.node (o50 P) (.node (o0 P) .nil .nil) .nil)) (.node (o15 P) (.node (o1 P) (.node (o78 P) .nil .nil) .nil) (.node (o57 P) (.node (o1 P) .nil .nil) .nil))) (.node (o2 P) (.node (o9 P) (.node (o40 P) (.node (o73 P) .nil .nil) (.node (o118 P) .nil .nil)) (.node (o1 P) (.node (o98 P) .nil .nil) .nil)) (.node (o32 b) (.node (o45 P) (.node (o81 P) .nil .nil) .nil) (.node (o66 P) (.node (o104 P) .nil .nil) .nil))))) (.node (boot_o_2 P) (.node (boot_o_4 P) (.node (boot_o_8 P) (.node (o1 P) (.node (o36 P) (.node (o0 P) .nil .nil) (.node (o107 P) .nil .nil)) (.node (o49 b) (.node (o85 P) .nil .nil) .nil)) (.node (o14 P) (.node (o0 P) (.node (o76 P) .nil .nil) .nil) (.node (o56 P) (.node (o0 P) .nil .nil) .nil))) (.node (o101 P) (.node (o8 P) (.node (o0 P) (.node (o72 P) .nil .nil) (.node (o117 P) .nil .nil)) (.node (o0 P) (.node (o95 b) .nil .nil) .nil)) (.node (o17 P) (.node (o44 P) (.node (o80 P) .nil .nil) .nil) (.node (o65 b) (.node (o103 P) .nil .nil) .nil)))) (.node (boot_o_6 P) (.node (boot_o_10 P) (.node (o0 P) (.node (o1 P) (.node (o71 P) .nil .nil) (.node (o116 P) .nil .nil)) (.node (o0 P) (.node (o86 P) .nil .nil) .nil)) (.node (o0 P) (.node (o43 P) (.node (o79 P) .nil .nil) .nil) (.node (o58 P) (.node (o102 P) .nil .nil) .nil))) (.node (o3 P) (.node (o10 P) (.node (o41 P) (.node (o74 P) .nil .nil) (.node (o150 b) .nil .nil)) (.node (o55 P) (.node (o0 P) .nil .nil) .nil)) (.node (o35 P) (.node (o46 P) (.node (o82 P) .nil .nil) .nil) (.node (o0 P) (.node (o105 P) .nil .nil) .nil))))))
def sT56 (w : World) (os : OsState) (b : Bool) : SharedT := ⟨tr56 w.params b, 104, {}, #[], {}, 547, os⟩
abbrev pc9x21Q (b : Bool) (w : World) : Prop := ∀ os : OsState, segF tabF pg w 11 (some (Value.ref 6)) 1 80 (sT55 w os b) (th9x5 w os) = some (sT56 w os b, th9x5 w os)
theorem pc9x21ff (w : World) : pc9x21Q false (w.withFollow "special-get-raises" false) := by
  intro os; kernel_rfl
theorem pc9x21ft (w : World) : pc9x21Q false (w.withFollow "special-get-raises" true) := by
  intro os; kernel_rfl
theorem pc9x21tf (w : World) : pc9x21Q true (w.withFollow "special-get-raises" false) := by
  intro os; kernel_rfl
theorem pc9x21tt (w : World) : pc9x21Q true (w.withFollow "special-get-raises" true) := by
  intro os; kernel_rfl
theorem pc9x21b : ∀ (b : Bool) (w : World), pc9x21Q b w
  | false, w => byRow2 "special-get-raises" (P := pc9x21Q false) pc9x21ff pc9x21ft w
  | true, w => byRow2 "special-get-raises" (P := pc9x21Q true) pc9x21tf pc9x21tt w
theorem pc9x21 : ∀ (w : World) (os : OsState), segF tabF pg w 11 (some (Value.ref 6)) 1 80 (sT55 w os (so w)) (th9x5 w os) = some (sT56 w os (so w), th9x5 w os) := fun w os => pc9x21b (so w) w os
def o152 (b : Bool) : Obj := ⟨(Value.type "set"), none, Data.set #[(917505, (Value.int 917505 379)), (917536, (Value.int 917536 385)), (917537, (Value.int 917537 386)), (917538, (Value.int 917538 387)), (917539, (Value.int 917539 388)), (917540, (Value.int 917540 389)), (917541, (Value.int 917541 390)), (917542, (Value.int 917542 391)), (917543, (Value.int 917543 392)), (917544, (Value.int 917544 393)), (917545, (Value.int 917545 394)), (917546, (Value.int 917546 395)), (917547, (Value.int 917547 396)), (917548, (Value.int 917548 397)), (917549, (Value.int 917549 398)), (917550, (Value.int 917550 399)), (917551, (Value.int 917551 400)), (917552, (Value.int 917552 401)), (917553, (Value.int 917553 402)), (917554, (Value.int 917554 403)), (917555, (Value.int 917555 404)), (917556, (Value.int 917556 405)), (917557, (Value.int 917557 406)), (917558, (Value.int 917558 407)), (917559, (Value.int 917559 408)), (917560, (Value.int 917560 409)), (917561, (Value.int 917561 410)), (917562, (Value.int 917562 411)), (917563, (Value.int 917563 412)), (917564, (Value.int 917564 413)), (917565, (Value.int 917565 414)), (917566, (Value.int 917566 415)), (917567, (Value.int 917567 416)), (917568, (Value.int 917568 417)), (917569, (Value.int 917569 418)), (917570, (Value.int 917570 419)), (917571, (Value.int 917571 420)), (917572, (Value.int 917572 421)), (917573, (Value.int 917573 422)), (917574, (Value.int 917574 423)), (917575, (Value.int 917575 424)), (917576, (Value.int 917576 425)), (917577, (Value.int 917577 426)), (917578, (Value.int 917578 427)), (917579, (Value.int 917579 428)), (917580, (Value.int 917580 429)), (917581, (Value.int 917581 430)), (917582, (Value.int 917582 431)), (917583, (Value.int 917583 432)), (917584, (Value.int 917584 433)), (917585, (Value.int 917585 434)), (917586, (Value.int 917586 435)), (917587, (Value.int 917587 436)), (917588, (Value.int 917588 437)), (917589, (Value.int 917589 438)), (917590, (Value.int 917590 439)), (917591, (Value.int 917591 440)), (917592, (Value.int 917592 441)), (917593, (Value.int 917593 442)), (917594, (Value.int 917594 443)), (917595, (Value.int 917595 444)), (917596, (Value.int 917596 445)), (917597, (Value.int 917597 446)), (917598, (Value.int 917598 447)), (917599, (Value.int 917599 448)), (917600, (Value.int 917600 449)), (917601, (Value.int 917601 450)), (917602, (Value.int 917602 451)), (917603, (Value.int 917603 452)), (917604, (Value.int 917604 453))] 72 ⟨127, #[1, 32, 33, 34, 35, 36, 37, 38, 39, 40, 41, 42, 43, 44, 45, 46, 47, 48, 49, 50, 51, 52, 53, 54, 55, 56, 57, 58, 59, 60, 61, 62, 63, 64, 65, 66, 67, 68, 69, 70, 71, 72, 73, 74, 75, 76, 77, 78, 79, 80, 81, 82, 83, 84, 85, 86, 87, 88, 89, 90, 91, 92, 93, 94, 95, 96, 97, 98, 99, 100], #[], 0, (!b), 2, true⟩, #[]⟩
def o153 (P : Params) : Obj := ⟨(Value.type "list_iterator"), none, Data.fields #[(Value.ref 101), (Value.int 70 0)], #[]⟩
def tr57 (P : Params) (b : Bool) : BT := (.node (boot_o_0 P) (.node (boot_o_1 P) (.node (o100 P) (.node (boot_o_7 P) (.node (o0 P) (.node (o0 P) (.node (o68 P) .nil .nil) (.node (o106 P) .nil .nil)) (.node (o47 P) (.node (o84 P) .nil .nil) .nil)) (.node (o11 P) (.node (o42 P) (.node (o75 P) .nil .nil) (.node (o153 P) .nil .nil)) (.node (o0 P) (.node (o99 P) .nil .nil) .nil))) (.node (o0 P) (.node (o7 P) (.node (o39 P) (.node (o0 P) .nil .nil) (.node (o0 P) .nil .nil)) (.node (o52 P) (.node (o87 P) .nil .nil) .nil)) (.node (o16 P) (.node (o0 P) (.node (o0 P) .nil .nil) .nil) (.node (o59 P) (.node (o0 P) .nil .nil) .nil)))) (.node (boot_o_5 P) (.node (boot_o_9 P) (.node (o6 P) (.node (o0 P) (.node (o1 P) .nil .nil) (.node (o115 P) .nil .nil)) (.node (o50 P) (.node (o0 P) .nil .nil) .nil)) (.node (o15 P) (.node (o1 P) (.node (o78 P) .nil .nil) .nil) (.node (o57 P) (.node (o1 P) .nil .nil) .nil))) (.node (o2 P) (.node (o9 P) (.node (o40 P) (.node (o73 P) .nil .nil) (.node (o118 P) .nil .nil)) (.node (o1 P) (.node (o98 P) .nil .nil) .nil)) (.node (o32 b) (.node (o45 P) (.node (o81 P) .nil .nil) .nil) (.node (o66 P) (.node (o104 P) .nil .nil) .nil))))) (.node (boot_o_2 P) (.node (boot_o_4 P) (.node (boot_o_8 P) (.node (o1 P) (.node (o36 P) (.node (o0 P) .nil .nil) (.node (o107 P) .nil .nil)) (.node (o49 b) (.node (o85 P) .nil .nil) .nil)) (.node (o14 P) (.node (o0 P) (.node (o76 P) .nil .nil) .nil) (.node (o56 P) (.node (o0 P) .nil .nil) .nil))) (.node (o101 P) (.node (o8 P) (.node (o0 P) (.node (o72 P) .nil .nil) (.node (o117 P) .nil .nil)) (.node (o0 P) (.node (o95 b) .nil .nil) .nil)) (.node (o17 P) (.node (o44 P) (.node (o80 P) .nil .nil) .nil) (.node (o65 b) (.node (o103 P) .nil .nil) .nil)))) (.node (boot_o_6 P) (.node (boot_o_10 P) (.node (o0 P) (.node (o1 P) (.node (o71 P) .nil .nil) (.node (o116 P) .nil .nil)) (.node (o0 P) (.node (o86 P) .nil .nil) .nil)) (.node (o0 P) (.node (o43 P) (.node (o79 P) .nil .nil) .nil) (.node (o58 P) (.node (o102 P) .nil .nil) .nil))) (.node (o3 P) (.node (o10 P) (.node (o41 P) (.node (o74 P) .nil .nil) (.node (o152 b) .nil .nil)) (.node (o55 P) (.node (o0 P) .nil .nil) .nil)) (.node (o35 P) (.node (o46 P) (.node (o82 P) .nil .nil) .nil) (.node (o0 P) (.node (o105 P) .nil .nil) .nil))))))
def sT57 (w : World) (os : OsState) (b : Bool) : SharedT := ⟨tr57 w.params b, 104, {}, #[], {}, 551, os⟩
abbrev pc9x22Q (b : Bool) (w : World) : Prop := ∀ os : OsState, segF tabF pg w 11 (some (Value.ref 6)) 1 80 (sT56 w os b) (th9x5 w os) = some (sT57 w os b, th9x5 w os)
theorem pc9x22ff (w : World) : pc9x22Q false (w.withFollow "special-get-raises" false) := by
  intro os; kernel_rfl
theorem pc9x22ft (w : World) : pc9x22Q false (w.withFollow "special-get-raises" true) := by
  intro os; kernel_rfl
theorem pc9x22tf (w : World) : pc9x22Q true (w.withFollow "special-get-raises" false) := by
  intro os; kernel_rfl
theorem pc9x22tt (w : World) : pc9x22Q true (w.withFollow "special-get-raises" true) := by
  intro os; kernel_rfl
theorem pc9x22b : ∀ (b : Bool) (w : World), pc9x22Q b w
  | false, w => byRow2 "special-get-raises" (P := pc9x22Q false) pc9x22ff pc9x22ft w
  | true, w => byRow2 "special-get-raises" (P := pc9x22Q true) pc9x22tf pc9x22tt w
theorem pc9x22 : ∀ (w : World) (os : OsState), segF tabF pg w 11 (some (Value.ref 6)) 1 80 (sT56 w os (so w)) (th9x5 w os) = some (sT57 w os (so w), th9x5 w os) := fun w os => pc9x22b (so w) w os
def o154 (b : Bool) : Obj := ⟨(Value.type "set"), none, Data.set #[(917505, (Value.int 917505 379)), (917536, (Value.int 917536 385)), (917537, (Value.int 917537 386)), (917538, (Value.int 917538 387)), (917539, (Value.int 917539 388)), (917540, (Value.int 917540 389)), (917541, (Value.int 917541 390)), (917542, (Value.int 917542 391)), (917543, (Value.int 917543 392)), (917544, (Value.int 917544 393)), (917545, (Value.int 917545 394)), (917546, (Value.int 917546 395)), (917547, (Value.int 917547 396)), (917548, (Value.int 917548 397)), (917549, (Value.int 917549 398)), (917550, (Value.int 917550 399)), (917551, (Value.int 917551 400)), (917552, (Value.int 917552 401)), (917553, (Value.int 917553 402)), (917554, (Value.int 917554 403)), (917555, (Value.int 917555 404)), (917556, (Value.int 917556 405)), (917557, (Value.int 917557 406)), (917558, (Value.int 917558 407)), (917559, (Value.int 917559 408)), (917560, (Value.int 917560 409)), (917561, (Value.int 917561 410)), (917562, (Value.int 917562 411)), (917563, (Value.int 917563 412)), (917564, (Value.int 917564 413)), (917565, (Value.int 917565 414)), (917566, (Value.int 917566 415)), (917567, (Value.int 917567 416)), (917568, (Value.int 917568 417)), (917569, (Value.int 917569 418)), (917570, (Value.int 917570 419)), (917571, (Value.int 917571 420)), (917572, (Value.int 917572 421)), (917573, (Value.int 917573 422)), (917574, (Value.int 917574 423)), (917575, (Value.int 917575 424)), (917576, (Value.int 917576 425)), (917577, (Value.int 917577 426)), (917578, (Value.int 917578 427)), (917579, (Value.int 917579 428)), (917580, (Value.int 917580 429)), (917581, (Value.int 917581 430)), (917582, (Value.int 917582 431)), (917583, (Value.int 917583 432)), (917584, (Value.int 917584 433)), (917585, (Value.int 917585 434)), (917586, (Value.int 917586 435)), (917587, (Value.int 917587 436)), (917588, (Value.int 917588 437)), (917589, (Value.int 917589 438)), (917590, (Value.int 917590 439)), (917591, (Value.int 917591 440)), (917592, (Value.int 917592 441)), (917593, (Value.int 917593 442)), (917594, (Value.int 917594 443)), (917595, (Value.int 917595 444)), (917596, (Value.int 917596 445)), (917597, (Value.int 917597 446)), (917598, (Value.int 917598 447)), (917599, (Value.int 917599 448)), (917600, (Value.int 917600 449)), (917601, (Value.int 917601 450)), (917602, (Value.int 917602 451)), (917603, (Value.int 917603 452)), (917604, (Value.int 917604 453)), (917605, (Value.int 917605 454)), (917606, (Value.int 917606 455)), (917607, (Value.int 917607 456)), (917608, (Value.int 917608 457))] 76 ⟨127, #[1, 32, 33, 34, 35, 36, 37, 38, 39, 40, 41, 42, 43, 44, 45, 46, 47, 48, 49, 50, 51, 52, 53, 54, 55, 56, 57, 58, 59, 60, 61, 62, 63, 64, 65, 66, 67, 68, 69, 70, 71, 72, 73, 74, 75, 76, 77, 78, 79, 80, 81, 82, 83, 84, 85, 86, 87, 88, 89, 90, 91, 92, 93, 94, 95, 96, 97, 98, 99, 100, 101, 102, 103, 104], #[], 0, (!b), 2, true⟩, #[]⟩
def o155 (P : Params) : Obj := ⟨(Value.type "list_iterator"), none, Data.fields #[(Value.ref 101), (Value.int 74 0)], #[]⟩
def tr58 (P : Params) (b : Bool) : BT := (.node (boot_o_0 P) (.node (boot_o_1 P) (.node (o100 P) (.node (boot_o_7 P) (.node (o0 P) (.node (o0 P) (.node (o68 P) .nil .nil) (.node (o106 P) .nil .nil)) (.node (o47 P) (.node (o84 P) .nil .nil) .nil)) (.node (o11 P) (.node (o42 P) (.node (o75 P) .nil .nil) (.node (o155 P) .nil .nil)) (.node (o0 P) (.node (o99 P) .nil .nil) .nil))) (.node (o0 P) (.node (o7 P) (.node (o39 P) (.node (o0 P) .nil .nil) (.node (o0 P) .nil .nil)) (.node (o52 P) (.node (o87 P) .nil .nil) .nil)) (.node (o16 P) (.node (o0 P) (.node (o0 P) .nil .nil) .nil) (.node (o59 P) (.node (o0 P) .nil .nil) .nil)))) (.node (boot_o_5 P) (.node (boot_o_9 P) (.node (o6 P) (.node (o0 P) (.node (o1 P) .nil .nil) (.node (o115 P) .nil .nil)) (.node (o50 P) (.node (o0 P) .nil .nil) .nil)) (.node (o15 P) (.node (o1 P) (.node (o78 P) .nil .nil) .nil) (.node (o57 P) (.node (o1 P) .nil .nil) .nil))) (.node (o2 P) (.node (o9 P) (.node (o40 P) (.node (o73 P) .nil .nil) (.node (o118 P) .nil .nil)) (.node (o1 P) (.node (o98 P) .nil .nil) .nil)) (.node (o32 b) (.node (o45 P) (.node (o81 P) .nil .nil) .nil) (.node (o66 P) (.node (o104 P) .nil .nil) .nil))))) (.node (boot_o_2 P) (.node (boot_o_4 P) (.node (boot_o_8 P) (.node (o1 P) (.node (o36 P) (.node (o0 P) .nil .nil) (.node (o107 P) .nil .nil)) (.node (o49 b) (.node (o85 P) .nil .nil) .nil)) (.node (o14 P) (.node (o0 P) (.node (o76 P) .nil .nil) .nil) (.node (o56 P) (.node (o0 P) .nil .nil) .nil))) (.node (o101 P) (.node (o8 P) (.node (o0 P) (.node (o72 P) .nil .nil) (.node (o117 P) .nil .nil)) (.node (o0 P) (.node (o95 b) .nil .nil) .nil)) (.node (o17 P) (.node (o44 P) (.node (o80 P) .nil .nil) .nil) (.node (o65 b) (.node (o103 P) .nil .nil) .nil)))) (.node (boot_o_6 P) (.node (boot_o_10 P) (.node (o0 P) (.node (o1 P) (.node (o71 P) .nil .nil) (.node (o116 P) .nil .nil)) (.node (o0 P) (.node (o86 P) .nil .nil) .nil)) (.node (o0 P) (.node (o43 P) (.node (o79 P) .nil .nil) .nil) (.node (o58 P) (.node (o102 P) .nil .nil) .nil))) (.node (o3 P) (.node (o10 P) (.node (o41 P) (.node (o74 P) .nil .nil) (.node (o154 b) .nil .nil)) (.node (o55 P) (.node (o0 P) .nil .nil) .nil)) (.node (o35 P) (.node (o46 P) (.node (o82 P) .nil .nil) .nil) (.node (o0 P) (.node (o105 P) .nil .nil) .nil))))))
def sT58 (w : World) (os : OsState) (b : Bool) : SharedT := ⟨tr58 w.params b, 104, {}, #[], {}, 555, os⟩
abbrev pc9x23Q (b : Bool) (w : World) : Prop := ∀ os : OsState, segF tabF pg w 11 (some (Value.ref 6)) 1 80 (sT57 w os b) (th9x5 w os) = some (sT58 w os b, th9x5 w os)
theorem pc9x23ff (w : World) : pc9x23Q false (w.withFollow "special-get-raises" false) := by
  intro os; kernel_rfl
theorem pc9x23ft (w : World) : pc9x23Q false (w.withFollow "special-get-raises" true) := by
  intro os; kernel_rfl
theorem pc9x23tf (w : World) : pc9x23Q true (w.withFollow "special-get-raises" false) := by
  intro os; kernel_rfl
theorem pc9x23tt (w : World) : pc9x23Q true (w.withFollow "special-get-raises" true) := by
  intro os; kernel_rfl
theorem pc9x23b : ∀ (b : Bool) (w : World), pc9x23Q b w
  | false, w => byRow2 "special-get-raises" (P := pc9x23Q false) pc9x23ff pc9x23ft w
  | true, w => byRow2 "special-get-raises" (P := pc9x23Q true) pc9x23tf pc9x23tt w
theorem pc9x23 : ∀ (w : World) (os : OsState), segF tabF pg w 11 (some (Value.ref 6)) 1 80 (sT57 w os (so w)) (th9x5 w os) = some (sT58 w os (so w), th9x5 w os) := fun w os => pc9x23b (so w) w os
def o156 (b : Bool) : Obj := ⟨(Value.type "set"), none, Data.set #[(917505, (Value.int 917505 379)), (917536, (Value.int 917536 385)), (917537, (Value.int 917537 386)), (917538, (Value.int 917538 387)), (917539, (Value.int 917539 388)), (917540, (Value.int 917540 389)), (917541, (Value.int 917541 390)), (917542, (Value.int 917542 391)), (917543, (Value.int 917543 392)), (917544, (Value.int 917544 393)), (917545, (Value.int 917545 394)), (917546, (Value.int 917546 395)), (917547, (Value.int 917547 396)), (917548, (Value.int 917548 397)), (917549, (Value.int 917549 398)), (917550, (Value.int 917550 399)), (917551, (Value.int 917551 400)), (917552, (Value.int 917552 401)), (917553, (Value.int 917553 402)), (917554, (Value.int 917554 403)), (917555, (Value.int 917555 404)), (917556, (Value.int 917556 405)), (917557, (Value.int 917557 406)), (917558, (Value.int 917558 407)), (917559, (Value.int 917559 408)), (917560, (Value.int 917560 409)), (917561, (Value.int 917561 410)), (917562, (Value.int 917562 411)), (917563, (Value.int 917563 412)), (917564, (Value.int 917564 413)), (917565, (Value.int 917565 414)), (917566, (Value.int 917566 415)), (917567, (Value.int 917567 416)), (917568, (Value.int 917568 417)), (917569, (Value.int 917569 418)), (917570, (Value.int 917570 419)), (917571, (Value.int 917571 420)), (917572, (Value.int 917572 421)), (917573, (Value.int 917573 422)), (917574, (Value.int 917574 423)), (917575, (Value.int 917575 424)), (917576, (Value.int 917576 425)), (917577, (Value.int 917577 426)), (917578, (Value.int 917578 427)), (917579, (Value.int 917579 428)), (917580, (Value.int 917580 429)), (917581, (Value.int 917581 430)), (917582, (Value.int 917582 431)), (917583, (Value.int 917583 432)), (917584, (Value.int 917584 433)), (917585, (Value.int 917585 434)), (917586, (Value.int 917586 435)), (917587, (Value.int 917587 436)), (917588, (Value.int 917588 437)), (917589, (Value.int 917589 438)), (917590, (Value.int 917590 439)), (917591, (Value.int 917591 440)), (917592, (Value.int 917592 441)), (917593, (Value.int 917593 442)), (917594, (Value.int 917594 443)), (917595, (Value.int 917595 444)), (917596, (Value.int 917596 445)), (917597, (Value.int 917597 446)), (917598, (Value.int 917598 447)), (917599, (Value.int 917599 448)), (917600, (Value.int 917600 449)), (917601, (Value.int 917601 450)), (917602, (Value.int 917602 451)), (917603, (Value.int 917603 452)), (917604, (Value.int 917604 453)), (917605, (Value.int 917605 454)), (917606, (Value.int 917606 455)), (917607, (Value.int 917607 456)), (917608, (Value.int 917608 457)), (917609, (Value.int 917609 458)), (917610, (Value.int 917610 459)), (917611, (Value.int 917611 460)), (917612, (Value.int 917612 461))] 81 ⟨511, #[1, 32, 33, 34, 35, 36, 37, 38, 39, 40, 41, 42, 43, 44, 45, 46, 47, 48, 49, 50, 51, 52, 53, 54, 55, 56, 57, 58, 59, 60, 61, 62, 63, 64, 65, 66, 67, 68, 69, 70, 71, 72, 73, 74, 75, 76, 77, 78, 79, 80, 81, 82, 83, 84, 85, 86, 87, 88, 89, 90, 91, 92, 93, 94, 95, 96, 97, 98, 99, 100, 101, 102, 103, 104, 105, 106, 107, 108], #[], 0, (!b), 3, true⟩, #[]⟩
def o157 (P : Params) : Obj := ⟨(Value.type "list_iterator"), none, Data.fields #[(Value.ref 101), (Value.int 78 0)], #[]⟩
def tr59 (P : Params) (b : Bool) : BT := (.node (boot_o_0 P) (.node (boot_o_1 P) (.node (o100 P) (.node (boot_o_7 P) (.node (o0 P) (.node (o0 P) (.node (o68 P) .nil .nil) (.node (o106 P) .nil .nil)) (.node (o47 P) (.node (o84 P) .nil .nil) .nil)) (.node (o11 P) (.node (o42 P) (.node (o75 P) .nil .nil) (.node (o157 P) .nil .nil)) (.node (o0 P) (.node (o99 P) .nil .nil) .nil))) (.node (o0 P) (.node (o7 P) (.node (o39 P) (.node (o0 P) .nil .nil) (.node (o0 P) .nil .nil)) (.node (o52 P) (.node (o87 P) .nil .nil) .nil)) (.node (o16 P) (.node (o0 P) (.node (o0 P) .nil .nil) .nil) (.node (o59 P) (.node (o0 P) .nil .nil) .nil)))) (.node (boot_o_5 P) (.node (boot_o_9 P) (.node (o6 P) (.node (o0 P) (.node (o1 P) .nil .nil) (.node (o115 P) .nil .nil)) (.node (o50 P) (.node (o0 P) .nil .nil) .nil)) (.node (o15 P) (.node (o1 P) (.node (o78 P) .nil .nil) .nil) (.node (o57 P) (.node (o1 P) .nil .nil) .nil))) (.node (o2 P) (.node (o9 P) (.node (o40 P) (.node (o73 P) .nil .nil) (.node (o118 P) .nil .nil)) (.node (o1 P) (.node (o98 P) .nil .nil) .nil)) (.node (o32 b) (.node (o45 P) (.node (o81 P) .nil .nil) .nil) (.node (o66 P) (.node (o104 P) .nil .nil) .nil))))) (.node (boot_o_2 P) (.node (boot_o_4 P) (.node (boot_o_8 P) (.node (o1 P) (.node (o36 P) (.node (o0 P) .nil .nil) (.node (o107 P) .nil .nil)) (.node (o49 b) (.node (o85 P) .nil .nil) .nil)) (.node (o14 P) (.node (o0 P) (.node (o76 P) .nil .nil) .nil) (.node (o56 P) (.node (o0 P) .nil .nil) .nil))) (.node (o101 P) (.node (o8 P) (.node (o0 P) (.node (o72 P) .nil .nil) (.node (o117 P) .nil .nil)) (.node (o0 P) (.node (o95 b) .nil .nil) .nil)) (.node (o17 P) (.node (o44 P) (.node (o80 P) .nil .nil) .nil) (.node (o65 b) (.node (o103 P) .nil .nil) .nil)))) (.node (boot_o_6 P) (.node (boot_o_10 P) (.node (o0 P) (.node (o1 P) (.node (o71 P) .nil .nil) (.node (o116 P) .nil .nil)) (.node (o0 P) (.node (o86 P) .nil .nil) .nil)) (.node (o0 P) (.node (o43 P) (.node (o79 P) .nil .nil) .nil) (.node (o58 P) (.node (o102 P) .nil .nil) .nil))) (.node (o3 P) (.node (o10 P) (.node (o41 P) (.node (o74 P) .nil .nil) (.node (o156 b) .nil .nil)) (.node (o55 P) (.node (o0 P) .nil .nil) .nil)) (.node (o35 P) (.node (o46 P) (.node (o82 P) .nil .nil) .nil) (.node (o0 P) (.node (o105 P) .nil .nil) .nil))))))
def sT59 (w : World) (os : OsState) (b : Bool) : SharedT := ⟨tr59 w.params b, 104, {}, #[], {}, 559, os⟩
abbrev pc9x24Q (b : Bool) (w : World) : Prop := ∀ os : OsState, segF tabF pg w 11 (some (Value.ref 6)) 1 82 (sT58 w os b) (th9x5 w os) = some (sT59 w os b, th9x5 w os)
theorem pc9x24ff (w : World) : pc9x24Q false (w.withFollow "special-get-raises" false) := by
  intro os; kernel_rfl
theorem pc9x24ft (w : World) : pc9x24Q false (w.withFollow "special-get-raises" true) := by
  intro os; kernel_rfl
theorem pc9x24tf (w : World) : pc9x24Q true (w.withFollow "special-get-raises" false) := by
  intro os; kernel_rfl
theorem pc9x24tt (w : World) : pc9x24Q true (w.withFollow "special-get-raises" true) := by
  intro os; kernel_rfl
theorem pc9x24b : ∀ (b : Bool) (w : World), pc9x24Q b w
  | false, w => byRow2 "special-get-raises" (P := pc9x24Q false) pc9x24ff pc9x24ft w
  | true, w => byRow2 "special-get-raises" (P := pc9x24Q true) pc9x24tf pc9x24tt w
theorem pc9x24 : ∀ (w : World) (os : OsState), segF tabF pg w 11 (some (Value.ref 6)) 1 82 (sT58 w os (so w)) (th9x5 w os) = some (sT59 w os (so w), th9x5 w os) := fun w os => pc9x24b (so w) w os
def o158 (b : Bool) : Obj := ⟨(Value.type "set"), none, Data.set #[(917505, (Value.int 917505 379)), (917536, (Value.int 917536 385)), (917537, (Value.int 917537 386)), (917538, (Value.int 917538 387)), (917539, (Value.int 917539 388)), (917540, (Value.int 917540 389)), (917541, (Value.int 917541 390)), (917542, (Value.int 917542 391)), (917543, (Value.int 917543 392)), (917544, (Value.int 917544 393)), (917545, (Value.int 917545 394)), (917546, (Value.int 917546 395)), (917547, (Value.int 917547 396)), (917548, (Value.int 917548 397)), (917549, (Value.int 917549 398)), (917550, (Value.int 917550 399)), (917551, (Value.int 917551 400)), (917552, (Value.int 917552 401)), (917553, (Value.int 917553 402)), (917554, (Value.int 917554 403)), (917555, (Value.int 917555 404)), (917556, (Value.int 917556 405)), (917557, (Value.int 917557 406)), (917558, (Value.int 917558 407)), (917559, (Value.int 917559 408)), (917560, (Value.int 917560 409)), (917561, (Value.int 917561 410)), (917562, (Value.int 917562 411)), (917563, (Value.int 917563 412)), (917564, (Value.int 917564 413)), (917565, (Value.int 917565 414)), (917566, (Value.int 917566 415)), (917567, (Value.int 917567 416)), (917568, (Value.int 917568 417)), (917569, (Value.int 917569 418)), (917570, (Value.int 917570 419)), (917571, (Value.int 917571 420)), (917572, (Value.int 917572 421)), (917573, (Value.int 917573 422)), (917574, (Value.int 917574 423)), (917575, (Value.int 917575 424)), (917576, (Value.int 917576 425)), (917577, (Value.int 917577 426)), (917578, (Value.int 917578 427)), (917579, (Value.int 917579 428)), (917580, (Value.int 917580 429)), (917581, (Value.int 917581 430)), (917582, (Value.int 917582 431)), (917583, (Value.int 917583 432)), (917584, (Value.int 917584 433)), (917585, (Value.int 917585 434)), (917586, (Value.int 917586 435)), (917587, (Value.int 917587 436)), (917588, (Value.int 917588 437)), (917589, (Value.int 917589 438)), (917590, (Value.int 917590 439)), (917591, (Value.int 917591 440)), (917592, (Value.int 917592 441)), (917593, (Value.int 917593 442)), (917594, (Value.int 917594 443)), (917595, (Value.int 917595 444)), (917596, (Value.int 917596 445)), (917597, (Value.int 917597 446)), (917598, (Value.int 917598 447)), (917599, (Value.int 917599 448)), (917600, (Value.int 917600 449)), (917601, (Value.int 917601 450)), (917602, (Value.int 917602 451)), (917603, (Value.int 917603 452)), (917604, (Value.int 917604 453)), (917605, (Value.int 917605 454)), (917606, (Value.int 917606 455)), (917607, (Value.int 917607 456)), (917608, (Value.int 917608 457)), (917609, (Value.int 917609 458)), (917610, (Value.int 917610 459)), (917611, (Value.int 917611 460)), (917612, (Value.int 917612 461)), (917613, (Value.int 917613 462)), (917614, (Value.int 917614 463)), (917615, (Value.int 917615 464)), (917616, (Value.int 917616 465))] 85 ⟨511, #[1, 32, 33, 34, 35, 36, 37, 38, 39, 40, 41, 42, 43, 44, 45, 46, 47, 48, 49, 50, 51, 52, 53, 54, 55, 56, 57, 58, 59, 60, 61, 62, 63, 64, 65, 66, 67, 68, 69, 70, 71, 72, 73, 74, 75, 76, 77, 78, 79, 80, 81, 82, 83, 84, 85, 86, 87, 88, 89, 90, 91, 92, 93, 94, 95, 96, 97, 98, 99, 100, 101, 102, 103, 104, 105, 106, 107, 108, 109, 110, 111, 112], #[], 0, (!b), 3, true⟩, #[]⟩
def o159 (P : Params) : Obj := ⟨(Value.type "list_iterator"), none, Data.fields #[(Value.ref 101), (Value.int 82 0)], #[]⟩
def tr60 (P : Params) (b : Bool) : BT := (.node (boot_o_0 P) (.node (boot_o_1 P) (.node (o100 P) (.node (boot_o_7 P) (.node (o0 P) (.node (o0 P) (.node (o68 P) .nil .nil) (.node (o106 P) .nil .nil)) (.node (o47 P) (.node (o84 P) .nil .nil) .nil)) (.node (o11 P) (.node (o42 P) (.node (o75 P) .nil .nil) (.node (o159 P) .nil .nil)) (.node (o0 P) (.node (o99 P) .nil .nil) .nil))) (.node (o0 P) (.node (o7 P) (.node (o39 P) (.node (o0 P) .nil .nil) (.node (o0 P) .nil .nil)) (.node (o52 P) (.node (o87 P) .nil .nil) .nil)) (.node (o16 P) (.node (o0 P) (.node (o0 P) .nil .nil) .nil) (.node (o59 P) (.node (o0 P) .nil .nil) .nil)))) (.node (boot_o_5 P) (.node (boot_o_9 P) (.node (o6 P) (.node (o0 P) (.node (o1 P) .nil .nil) (.node (o115 P) .nil .nil)) (.node (o50 P) (.node (o0 P) .nil .nil) .nil)) (.node (o15 P) (.node (o1 P) (.node (o78 P) .nil .nil) .nil) (.node (o57 P) (.node (o1 P) .nil .nil) .nil))) (.node (o2 P) (.node (o9 P) (.node (o40 P) (.node (o73 P) .nil .nil) (.node (o118 P) .nil .nil)) (.node (o1 P) (.node (o98 P) .nil .nil) .nil)) (.node (o32 b) (.node (o45 P) (.node (o81 P) .nil .nil) .nil) (.node (o66 P) (.node (o104 P) .nil .nil) .nil))))) (.node (boot_o_2 P) (.node (boot_o_4 P) (.node (boot_o_8 P) (.node (o1 P) (.node (o36 P) (.node (o0 P) .nil .nil) (.node (o107 P) .nil .nil)) (.node (o49 b) (.node (o85 P) .nil .nil) .nil)) (.node (o14 P) (.node (o0 P) (.node (o76 P) .nil .nil) .nil) (.node (o56 P) (.node (o0 P) .nil .nil) .nil))) (.node (o101 P) (.node (o8 P) (.node (o0 P) (.node (o72 P) .nil .nil) (.node (o117 P) .nil .nil)) (.node (o0 P) (.node (o95 b) .nil .nil) .nil)) (.node (o17 P) (.node (o44 P) (.node (o80 P) .nil .nil) .nil) (.node (o65 b) (.node (o103 P) .nil .nil) .nil)))) (.node (boot_o_6 P) (.node (boot_o_10 P) (.node (o0 P) (.node (o1 P) (.node (o71 P) .nil .nil) (.node (o116 P) .nil .nil)) (.node (o0 P) (.node (o86 P) .nil .nil) .nil)) (.node (o0 P) (.node (o43 P) (.node (o79 P) .nil .nil) .nil) (.node (o58 P) (.node (o102 P) .nil .nil) .nil))) (.node (o3 P) (.node (o10 P) (.node (o41 P) (.node (o74 P) .nil .nil) (.node (o158 b) .nil .nil)) (.node (o55 P) (.node (o0 P) .nil .nil) .nil)) (.node (o35 P) (.node (o46 P) (.node (o82 P) .nil .nil) .nil) (.node (o0 P) (.node (o105 P) .nil .nil) .nil))))))
def sT60 (w : World) (os : OsState) (b : Bool) : SharedT := ⟨tr60 w.params b, 104, {}, #[], {}, 563, os⟩
abbrev pc9x25Q (b : Bool) (w : World) : Prop := ∀ os : OsState, segF tabF pg w 11 (some (Value.ref 6)) 1 80 (sT59 w os b) (th9x5 w os) = some (sT60 w os b, th9x5 w os)
theorem pc9x25ff (w : World) : pc9x25Q false (w.withFollow "special-get-raises" false) := by
  intro os; kernel_rfl
theorem pc9x25ft (w : World) : pc9x25Q false (w.withFollow "special-get-raises" true) := by
  intro os; kernel_rfl
theorem pc9x25tf (w : World) : pc9x25Q true (w.withFollow "special-get-raises" false) := by
  intro os; kernel_rfl
theorem pc9x25tt (w : World) : pc9x25Q true (w.withFollow "special-get-raises" true) := by
  intro os; kernel_rfl
theorem pc9x25b : ∀ (b : Bool) (w : World), pc9x25Q b w
  | false, w => byRow2 "special-get-raises" (P := pc9x25Q false) pc9x25ff pc9x25ft w
  | true, w => byRow2 "special-get-raises" (P := pc9x25Q true) pc9x25tf pc9x25tt w
theorem pc9x25 : ∀ (w : World) (os : OsState), segF tabF pg w 11 (some (Value.ref 6)) 1 80 (sT59 w os (so w)) (th9x5 w os) = some (sT60 w os (so w), th9x5 w os) := fun w os => pc9x25b (so w) w os
def o160 (b : Bool) : Obj := ⟨(Value.type "set"), none, Data.set #[(917505, (Value.int 917505 379)), (917536, (Value.int 917536 385)), (917537, (Value.int 917537 386)), (917538, (Value.int 917538 387)), (917539, (Value.int 917539 388)), (917540, (Value.int 917540 389)), (917541, (Value.int 917541 390)), (917542, (Value.int 917542 391)), (917543, (Value.int 917543 392)), (917544, (Value.int 917544 393)), (917545, (Value.int 917545 394)), (917546, (Value.int 917546 395)), (917547, (Value.int 917547 396)), (917548, (Value.int 917548 397)), (917549, (Value.int 917549 398)), (917550, (Value.int 917550 399)), (917551, (Value.int 917551 400)), (917552, (Value.int 917552 401)), (917553, (Value.int 917553 402)), (917554, (Value.int 917554 403)), (917555, (Value.int 917555 404)), (917556, (Value.int 917556 405)), (917557, (Value.int 917557 406)), (917558, (Value.int 917558 407)), (917559, (Value.int 917559 408)), (917560, (Value.int 917560 409)), (917561, (Value.int 917561 410)), (917562, (Value.int 917562 411)), (917563, (Value.int 917563 412)), (917564, (Value.int 917564 413)), (917565, (Value.int 917565 414)), (917566, (Value.int 917566 415)), (917567, (Value.int 917567 416)), (917568, (Value.int 917568 417)), (917569, (Value.int 917569 418)), (917570, (Value.int 917570 419)), (917571, (Value.int 917571 420)), (917572, (Value.int 917572 421)), (917573, (Value.int 917573 422)), (917574, (Value.int 917574 423)), (917575, (Value.int 917575 424)), (917576, (Value.int 917576 425)), (917577, (Value.int 917577 426)), (917578, (Value.int 917578 427)), (917579, (Value.int 917579 428)), (917580, (Value.int 917580 429)), (917581, (Value.int 917581 430)), (917582, (Value.int 917582 431)), (917583, (Value.int 917583 432)), (917584, (Value.int 917584 433)), (917585, (Value.int 917585 434)), (917586, (Value.int 917586 435)), (917587, (Value.int 917587 436)), (917588, (Value.int 917588 437)), (917589, (Value.int 917589 438)), (917590, (Value.int 917590 439)), (917591, (Value.int 917591 440)), (917592, (Value.int 917592 441)), (917593, (Value.int 917593 442)), (917594, (Value.int 917594 443)), (917595, (Value.int 917595 444)), (917596, (Value.int 917596 445)), (917597, (Value.int 917597 446)), (917598, (Value.int 917598 447)), (917599, (Value.int 917599 448)), (917600, (Value.int 917600 449)), (917601, (Value.int 917601 450)), (917602, (Value.int 917602 451)), (917603, (Value.int 917603 452)), (917604, (Value.int 917604 453)), (917605, (Value.int 917605 454)), (917606, (Value.int 917606 455)), (917607, (Value.int 917607 456)), (917608, (Value.int 917608 457)), (917609, (Value.int 917609 458)), (917610, (Value.int 917610 459)), (917611, (Value.int 917611 460)), (917612, (Value.int 917612 461)), (917613, (Value.int 917613 462)), (917614, (Value.int 917614 463)), (917615, (Value.int 917615 464)), (917616, (Value.int 917616 465)), (917617, (Value.int 917617 466)), (917618, (Value.int 917618 467)), (917619, (Value.int 917619 468)), (917620, (Value.int 917620 469))] 89 ⟨511, #[1, 32, 33, 34, 35, 36, 37, 38, 39, 40, 41, 42, 43, 44, 45, 46, 47, 48, 49, 50, 51, 52, 53, 54, 55, 56, 57, 58, 59, 60, 61, 62, 63, 64, 65, 66, 67, 68, 69, 70, 71, 72, 73, 74, 75, 76, 77, 78, 79, 80, 81, 82, 83, 84, 85, 86, 87, 88, 89, 90, 91, 92, 93, 94, 95, 96, 97, 98, 99, 100, 101, 102, 103, 104, 105, 106, 107, 108, 109, 110, 111, 112, 113, 114, 115, 116], #[], 0, (!b), 3, true⟩, #[]⟩
def o161 (P : Params) : Obj := ⟨(Value.type "list_iterator"), none, Data.fields #[(Value.ref 101), (Value.int 86 0)], #[]⟩
def tr61 (P : Params) (b : Bool) : BT := (.node (boot_o_0 P) (.node (boot_o_1 P) (.node (o100 P) (.node (boot_o_7 P) (.node (o0 P) (.node (o0 P) (.node (o68 P) .nil .nil) (.node (o106 P) .nil .nil)) (.node (o47 P) (.node (o84 P) .nil .nil) .nil)) (.node (o11 P) (.node (o42 P) (.node (o75 P) .nil .nil) (.node (o161 P) .nil .nil)) (.node (o0 P) (.node (o99 P) .nil .nil) .nil))) (.node (o0 P) (.node (o7 P) (.node (o39 P) (.node (o0 P) .nil .nil) (.node (o0 P) .nil .nil)) (.node (o52 P) (.node (o87 P) .nil .nil) .nil)) (.node (o16 P) (.node (o0 P) (.node (o0 P) .nil .nil) .nil) (.node (o59 P) (.node (o0 P) .nil .nil) .nil)))) (.node (boot_o_5 P) (.node (boot_o_9 P) (.node (o6 P) (.node (o0 P) (.node (o1 P) .nil .nil) (.node (o115 P) .nil .nil)) (.node (o50 P) (.node (o0 P) .nil .nil) .nil)) (.node (o15 P) (.node (o1 P) (.node (o78 P) .nil .nil) .nil) (.node (o57 P) (.node (o1 P) .nil .nil) .nil))) (.node (o2 P) (.node (o9 P) (.node (o40 P) (.node (o73 P) .nil .nil) (.node (o118 P) .nil .nil)) (.node (o1 P) (.node (o98 P) .nil .nil) .nil)) (.node (o32 b) (.node (o45 P) (.node (o81 P) .nil .nil) .nil) (.node (o66 P) (.node (o104 P) .nil .nil) .nil))))) (.node (boot_o_2 P) (.node (boot_o_4 P) (.node (boot_o_8 P) (.node (o1 P) (.node (o36 P) (.node (o0 P) .nil .nil) (.node (o107 P) .nil .nil)) (.node (o49 b) (.node (o85 P) .nil .nil) .nil)) (.node (o14 P) (.node (o0 P) (.node (o76 P) .nil .nil) .nil) (.node (o56 P) (.node (o0 P) .nil .nil) .nil))) (.node (o101 P) (.node (o8 P) (.node (o0 P) (.node (o72 P) .nil .nil) (.node (o117 P) .nil .nil)) (.node (o0 P) (.node (o95 b) .nil .nil) .nil)) (.node (o17 P) (.node (o44 P) (.node (o80 P) .nil .nil) .nil) (.node (o65 b) (.node (o103 P) .nil .nil) .nil)))) (.node (boot_o_6 P) (.node (boot_o_10 P) (.node (o0 P) (.node (o1 P) (.node (o71 P) .nil .nil) (.node (o116 P) .nil .nil)) (.node (o0 P) (.node (o86 P) .nil .nil) .nil)) (.node (o0 P) (.node (o43 P) (.node (o79 P) .nil .nil) .nil) (.node (o58 P) (.node (o102 P) .nil .nil) .nil))) (.node (o3 P) (.node (o10 P) (.node (o41 P) (.node (o74 P) .nil .nil) (.node (o160 b) .nil .nil)) (.node (o55 P) (.node (o0 P) .nil .nil) .nil)) (.node (o35 P) (.node (o46 P) (.node (o82 P) .nil .nil) .nil) (.node (o0 P) (.node (o105 P) .nil .nil) .nil))))))
def sT61 (w : World) (os : OsState) (b : Bool) : SharedT := ⟨tr61 w.params b, 104, {}, #[], {}, 567, os⟩
abbrev pc9x26Q (b : Bool) (w : World) : Prop := ∀ os : OsState, segF tabF pg w 11 (some (Value.ref 6)) 1 80 (sT60 w os b) (th9x5 w os) = some (sT61 w os b, th9x5 w os)
theorem pc9x26ff (w : World) : pc9x26Q false (w.withFollow "special-get-raises" false) := by
  intro os; kernel_rfl
theorem pc9x26ft (w : World) : pc9x26Q false (w.withFollow "special-get-raises" true) := by
  intro os; kernel_rfl
theorem pc9x26tf (w : World) : pc9x26Q true (w.withFollow "special-get-raises" false) := by
  intro os; kernel_rfl
theorem pc9x26tt (w : World) : pc9x26Q true (w.withFollow "special-get-raises" true) := by
  intro os; kernel_rfl
theorem pc9x26b : ∀ (b : Bool) (w : World), pc9x26Q b w
  | false, w => byRow2 "special-get-raises" (P := pc9x26Q false) pc9x26ff pc9x26ft w
  | true, w => byRow2 "special-get-raises" (P := pc9x26Q true) pc9x26tf pc9x26tt w
theorem pc9x26 : ∀ (w : World) (os : OsState), segF tabF pg w 11 (some (Value.ref 6)) 1 80 (sT60 w os (so w)) (th9x5 w os) = some (sT61 w os (so w), th9x5 w os) := fun w os => pc9x26b (so w) w os
def o162 (b : Bool) : Obj := ⟨(Value.type "set"), none, Data.set #[(917505, (Value.int 917505 379)), (917536, (Value.int 917536 385)), (917537, (Value.int 917537 386)), (917538, (Value.int 917538 387)), (917539, (Value.int 917539 388)), (917540, (Value.int 917540 389)), (917541, (Value.int 917541 390)), (917542, (Value.int 917542 391)), (917543, (Value.int 917543 392)), (917544, (Value.int 917544 393)), (917545, (Value.int 917545 394)), (917546, (Value.int 917546 395)), (917547, (Value.int 917547 396)), (917548, (Value.int 917548 397)), (917549, (Value.int 917549 398)), (917550, (Value.int 917550 399)), (917551, (Value.int 917551 400)), (917552, (Value.int 917552 401)), (917553, (Value.int 917553 402)), (917554, (Value.int 917554 403)), (917555, (Value.int 917555 404)), (917556, (Value.int 917556 405)), (917557, (Value.int 917557 406)), (917558, (Value.int 917558 407)), (917559, (Value.int 917559 408)), (917560, (Value.int 917560 409)), (917561, (Value.int 917561 410)), (917562, (Value.int 917562 411)), (917563, (Value.int 917563 412)), (917564, (Value.int 917564 413)), (917565, (Value.int 917565 414)), (917566, (Value.int 917566 415)), (917567, (Value.int 917567 416)), (917568, (Value.int 917568 417)), (917569, (Value.int 917569 418)), (917570, (Value.int 917570 419)), (917571, (Value.int 917571 420)), (917572, (Value.int 917572 421)), (917573, (Value.int 917573 422)), (917574, (Value.int 917574 423)), (917575, (Value.int 917575 424)), (917576, (Value.int 917576 425)), (917577, (Value.int 917577 426)), (917578, (Value.int 917578 427)), (917579, (Value.int 917579 428)), (917580, (Value.int 917580 429)), (917581, (Value.int 917581 430)), (917582, (Value.int 917582 431)), (917583, (Value.int 917583 432)), (917584, (Value.int 917584 433)), (917585, (Value.int 917585 434)), (917586, (Value.int 917586 435)), (917587, (Value.int 917587 436)), (917588, (Value.int 917588 437)), (917589, (Value.int 917589 438)), (917590, (Value.int 917590 439)), (917591, (Value.int 917591 440)), (917592, (Value.int 917592 441)), (917593, (Value.int 917593 442)), (917594, (Value.int 917594 443)), (917595, (Value.int 917595 444)), (917596, (Value.int 917596 445)), (917597, (Value.int 917597 446)), (917598, (Value.int 917598 447)), (917599, (Value.int 917599 448)), (917600, (Value.int 917600 449)), (917601, (Value.int 917601 450)), (917602, (Value.int 917602 451)), (917603, (Value.int 917603 452)), (917604, (Value.int 917604 453)), (917605, (Value.int 917605 454)), (917606, (Value.int 917606 455)), (917607, (Value.int 917607 456)), (917608, (Value.int 917608 457)), (917609, (Value.int 917609 458)), (917610, (Value.int 917610 459)), (917611, (Value.int 917611 460)), (917612, (Value.int 917612 461)), (917613, (Value.int 917613 462)), (917614, (Value.int 917614 463)), (917615, (Value.int 917615 464)), (917616, (Value.int 917616 465)), (917617, (Value.int 917617 466)), (917618, (Value.int 917618 467)), (917619, (Value.int 917619 468)), (917620, (Value.int 917620 469)), (917621, (Value.int 917621 470)), (917622, (Value.int 917622 471)), (917623, (Value.int 917623 472)), (917624, (Value.int 917624 473))] 93 ⟨511, #[1, 32, 33, 34, 35, 36, 37, 38, 39, 40, 41, 42, 43, 44, 45, 46, 47, 48, 49, 50, 51, 52, 53, 54, 55, 56, 57, 58, 59, 60, 61, 62, 63, 64, 65, 66, 67, 68, 69, 70, 71, 72, 73, 74, 75, 76, 77, 78, 79, 80, 81, 82, 83, 84, 85, 86, 87, 88, 89, 90, 91, 92, 93, 94, 95, 96, 97, 98, 99, 100, 101, 102, 103, 104, 105, 106, 107, 108, 109, 110, 111, 112, 113, 114, 115, 116, 117, 118, 119, 120], #[], 0, (!b), 3, true⟩, #[]⟩
def o163 (P : Params) : Obj := ⟨(Value.type "list_iterator"), none, Data.fields #[(Value.ref 101), (Value.int 90 0)], #[]⟩
def tr62 (P : Params) (b : Bool) : BT := (.node (boot_o_0 P) (.node (boot_o_1 P) (.node (o100 P) (.node (boot_o_7 P) (.node (o0 P) (.node (o0 P) (.node (o68 P) .nil .nil) (.node (o106 P) .nil .nil)) (.node (o47 P) (.node (o84 P) .nil .nil) .nil)) (.node (o11 P) (.node (o42 P) (.node (o75 P) .nil .nil) (.node (o163 P) .nil .nil)) (.node (o0 P) (.node (o99 P) .nil .nil) .nil))) (.node (o0 P) (.node (o7 P) (.node (o39 P) (.node (o0 P) .nil .nil) (.node (o0 P) .nil .nil)) (.node (o52 P) (.node (o87 P) .nil .nil) .nil)) (.node (o16 P) (.node (o0 P) (.node (o0 P) .nil .nil) .nil) (.node (o59 P) (.node (o0 P) .nil .nil) .nil)))) (.node (boot_o_5 P) (.node (boot_o_9 P) (.node (o6 P) (.node (o0 P) (.node (o1 P) .nil .nil) (.node (o115 P) .nil .nil)) (.node (o50 P) (.node (o0 P) .nil .nil) .nil)) (.node (o15 P) (.node (o1 P) (.node (o78 P) .nil .nil) .nil) (.node (o57 P) (.node (o1 P) .nil .nil) .nil))) (.node (o2 P) (.node (o9 P) (.node (o40 P) (.node (o73 P) .nil .nil) (.node (o118 P) .nil .nil)) (.node (o1 P) (.node (o98 P) .nil .nil) .nil)) (.node (o32 b) (.node (o45 P) (.node (o81 P) .nil .nil) .nil) (.node (o66 P) (.node (o104 P) .nil .nil) .nil))))) (.node (boot_o_2 P) (.node (boot_o_4 P) (.node (boot_o_8 P) (.node (o1 P) (.node (o36 P) (.node (o0 P) .nil .nil) (.node (o107 P) .nil .nil)) (.node (o49 b) (.node (o85 P) .nil .nil) .nil)) (.node (o14 P) (.node (o0 P) (.node (o76 P) .nil .nil) .nil) (.node (o56 P) (.node (o0 P) .nil .nil) .nil))) (.node (o101 P) (.node (o8 P) (.node (o0 P) (.node (o72 P) .nil .nil) (.node (o117 P) .nil .nil)) (.node (o0 P) (.node (o95 b) .nil .nil) .nil)) (.node (o17 P) (.node (o44 P) (.node (o80 P) .nil .nil) .nil) (.node (o65 b) (.node (o103 P) .nil .nil) .nil)))) (.node (boot_o_6 P) (.node (boot_o_10 P) (.node (o0 P) (.node (o1 P) (.node (o71 P) .nil .nil) (.node (o116 P) .nil .nil)) (.node (o0 P) (.node (o86 P) .nil .nil) .nil)) (.node (o0 P) (.node (o43 P) (.node (o79 P) .nil .nil) .nil) (.node (o58 P) (.node (o102 P) .nil .nil) .nil))) (.node (o3 P) (.node (o10 P) (.node (o41 P) (.node (o74 P) .nil .nil) (.node (o162 b) .nil .nil)) (.node (o55 P) (.node (o0 P) .nil .nil) .nil)) (.node (o35 P) (.node (o46 P) (.node (o82 P) .nil .nil) .nil) (.node (o0 P) (.node (o105 P) .nil .nil) .nil))))))
def sT62 (w : World) (os : OsState) (b : Bool) : SharedT := ⟨tr62 w.params b, 104, {}, #[], {}, 571, os⟩
abbrev pc9x27Q (b : Bool) (w : World) : Prop := ∀ os : OsState, segF tabF pg w 11 (some (Value.ref 6)) 1 80 (sT61 w os b) (th9x5 w os) = some (sT62 w os b, th9x5 w os)
theorem pc9x27ff (w : World) : pc9x27Q false (w.withFollow "special-get-raises" false) := by
  intro os; kernel_rfl
theorem pc9x27ft (w : World) : pc9x27Q false (w.withFollow "special-get-raises" true) := by
  intro os; kernel_rfl
theorem pc9x27tf (w : World) : pc9x27Q true (w.withFollow "special-get-raises" false) := by
  intro os; kernel_rfl
theorem pc9x27tt (w : World) : pc9x27Q true (w.withFollow "special-get-raises" true) := by
  intro os; kernel_rfl
theorem pc9x27b : ∀ (b : Bool) (w : World), pc9x27Q b w
  | false, w => byRow2 "special-get-raises" (P := pc9x27Q false) pc9x27ff pc9x27ft w
  | true, w => byRow2 "special-get-raises" (P := pc9x27Q true) pc9x27tf pc9x27tt w
theorem pc9x27 : ∀ (w : World) (os : OsState), segF tabF pg w 11 (some (Value.ref 6)) 1 80 (sT61 w os (so w)) (th9x5 w os) = some (sT62 w os (so w), th9x5 w os) := fun w os => pc9x27b (so w) w os
def o164 (b : Bool) : Obj := ⟨(Value.type "set"), none, Data.set #[(917505, (Value.int 917505 379)), (917536, (Value.int 917536 385)), (917537, (Value.int 917537 386)), (917538, (Value.int 917538 387)), (917539, (Value.int 917539 388)), (917540, (Value.int 917540 389)), (917541, (Value.int 917541 390)), (917542, (Value.int 917542 391)), (917543, (Value.int 917543 392)), (917544, (Value.int 917544 393)), (917545, (Value.int 917545 394)), (917546, (Value.int 917546 395)), (917547, (Value.int 917547 396)), (917548, (Value.int 917548 397)), (917549, (Value.int 917549 398)), (917550, (Value.int 917550 399)), (917551, (Value.int 917551 400)), (917552, (Value.int 917552 401)), (917553, (Value.int 917553 402)), (917554, (Value.int 917554 403)), (917555, (Value.int 917555 404)), (917556, (Value.int 917556 405)), (917557, (Value.int 917557 406)), (917558, (Value.int 917558 407)), (917559, (Value.int 917559 408)), (917560, (Value.int 917560 409)), (917561, (Value.int 917561 410)), (917562, (Value.int 917562 411)), (917563, (Value.int 917563 412)), (917564, (Value.int 917564 413)), (917565, (Value.int 917565 414)), (917566, (Value.int 917566 415)), (917567, (Value.int 917567 416)), (917568, (Value.int 917568 417)), (917569, (Value.int 917569 418)), (917570, (Value.int 917570 419)), (917571, (Value.int 917571 420)), (917572, (Value.int 917572 421)), (917573, (Value.int 917573 422)), (917574, (Value.int 917574 423)), (917575, (Value.int 917575 424)), (917576, (Value.int 917576 425)), (917577, (Value.int 917577 426)), (917578, (Value.int 917578 427)), (917579, (Value.int 917579 428)), (917580, (Value.int 917580 429)), (917581, (Value.int 917581 430)), (917582, (Value.int 917582 431)), (917583, (Value.int 917583 432)), (917584, (Value.int 917584 433)), (917585, (Value.int 917585 434)), (917586, (Value.int 917586 435)), (917587, (Value.int 917587 436)), (917588, (Value.int 917588 437)), (917589, (Value.int 917589 438)), (917590, (Value.int 917590 439)), (917591, (Value.int 917591 440)), (917592, (Value.int 917592 441)), (917593, (Value.int 917593 442)), (917594, (Value.int 917594 443)), (917595, (Value.int 917595 444)), (917596, (Value.int 917596 445)), (917597, (Value.int 917597 446)), (917598, (Value.int 917598 447)), (917599, (Value.int 917599 448)), (917600, (Value.int 917600 449)), (917601, (Value.int 917601 450)), (917602, (Value.int 917602 451)), (917603, (Value.int 917603 452)), (917604, (Value.int 917604 453)), (917605, (Value.int 917605 454)), (917606, (Value.int 917606 455)), (917607, (Value.int 917607 456)), (917608, (Value.int 917608 457)), (917609, (Value.int 917609 458)), (917610, (Value.int 917610 459)), (917611, (Value.int 917611 460)), (917612, (Value.int 917612 461)), (917613, (Value.int 917613 462)), (917614, (Value.int 917614 463)), (917615, (Value.int 917615 464)), (917616, (Value.int 917616 465)), (917617, (Value.int 917617 466)), (917618, (Value.int 917618 467)), (917619, (Value.int 917619 468)), (917620, (Value.int 917620 469)), (917621, (Value.int 917621 470)), (917622, (Value.int 917622 471)), (917623, (Value.int 917623 472)), (917624, (Value.int 917624 473)), (917625, (Value.int 917625 474)), (917626, (Value.int 917626 475)), (917627, (Value.int 917627 476)), (917628, (Value.int 917628 477))] 97 ⟨511, #[1, 32, 33, 34, 35, 36, 37, 38, 39, 40, 41, 42, 43, 44, 45, 46, 47, 48, 49, 50, 51, 52, 53, 54, 55, 56, 57, 58, 59, 60, 61, 62, 63, 64, 65, 66, 67, 68, 69, 70, 71, 72, 73, 74, 75, 76, 77, 78, 79, 80, 81, 82, 83, 84, 85, 86, 87, 88, 89, 90, 91, 92, 93, 94, 95, 96, 97, 98, 99, 100, 101, 102, 103, 104, 105, 106, 107, 108, 109, 110, 111, 112, 113, 114, 115, 116, 117, 118, 119, 120, 121, 122, 123, 124], #[], 0, (!b), 3, true⟩, #[]⟩
def o165 (P : Params) : Obj := ⟨(Value.type "list_iterator"), none, Data.fields #[(Value.ref 101), (Value.int 94 0)], #[]⟩
def tr63 (P : Params) (b : Bool) : BT := (.node (boot_o_0 P) (.node (boot_o_1 P) (.node (o100 P) (.node (boot_o_7 P) (.node (o0 P) (.node (o0 P) (.node (o68 P) .nil .nil) (.node (o106 P) .nil .nil)) (.node (o47 P) (.node (o84 P) .nil .nil) .nil)) (.node (o11 P) (.node (o42 P) (.node (o75 P) .nil .nil) (.node (o165 P) .nil .nil)) (.node (o0 P) (.node (o99 P) .nil .nil) .nil))) (.node (o0 P) (.node (o7 P) (.node (o39 P) (.node (o0 P) .nil .nil) (.node (o0 P) .nil .nil)) (.node (o52 P) (.node (o87 P) .nil .nil) .nil)) (.node (o16 P) (.node (o0 P) (.node (o0 P) .nil .nil) .nil) (.node (o59 P) (.node (o0 P) .nil .nil) .nil)))) (.node (boot_o_5 P) (.node (boot_o_9 P) (.node (o6 P) (.node (o0 P) (.node (o1 P) .nil .nil) (.node (o115 P) .nil .nil)) (.node (o50 P) (.node (o0 P) .nil .nil) .nil)) (.node (o15 P) (.node (o1 P) (.node (o78 P) .nil .nil) .nil) (.node (o57 P) (.node (o1 P) .nil .nil) .nil))) (.node (o2 P) (.node (o9 P) (.node (o40 P) (.node (o73 P) .nil .nil) (.node (o118 P) .nil .nil)) (.node (o1 P) (.node (o98 P) .nil .nil) .nil)) (.node (o32 b) (.node (o45 P) (.node (o81 P) .nil .nil) .nil) (.node (o66 P) (.node (o104 P) .nil .nil) .nil))))) (.node (boot_o_2 P) (.node (boot_o_4 P) (.node (boot_o_8 P) (.node (o1 P) (.node (o36 P) (.node (o0 P) .nil .nil) (.node (o107 P) .nil .nil)) (.node (o49 b) (.node (o85 P) .nil .nil) .nil)) (.node (o14 P) (.node (o0 P) (.node (o76 P) .nil .nil) .nil) (.node (o56 P) (.node (o0 P) .nil .nil) .nil))) (.node (o101 P) (.node (o8 P) (.node (o0 P) (.node (o72 P) .nil .nil) (.node (o117 P) .nil .nil)) (.node (o0 P) (.node (o95 b) .nil .nil) .nil)) (.node (o17 P) (.node (o44 P) (.node (o80 P) .nil .nil) .nil) (.node (o65 b) (.node (o103 P) .nil .nil) .nil)))) (.node (boot_o_6 P) (.node (boot_o_10 P) (.node (o0 P) (.node (o1 P) (.node (o71 P) .nil .nil) (.node (o116 P) .nil .nil)) (.node (o0 P) (.node (o86 P) .nil .nil) .nil)) (.node (o0 P) (.node (o43 P) (.node (o79 P) .nil .nil) .nil) (.node (o58 P) (.node (o102 P) .nil .nil) .nil))) (.node (o3 P) (.node (o10 P) (.node (o41 P) (.node (o74 P) .nil .nil) (.node (o164 b) .nil .nil)) (.node (o55 P) (.node (o0 P) .nil .nil) .nil)) (.node (o35 P) (.node (o46 P) (.node (o82 P) .nil .nil) .nil) (.node (o0 P) (.node (o105 P) .nil .nil) .nil))))))
def sT63 (w : World) (os : OsState) (b : Bool) : SharedT := ⟨tr63 w.params b, 104, {}, #[], {}, 575, os⟩
abbrev pc9x28Q (b : Bool) (w : World) : Prop := ∀ os : OsState, segF tabF pg w 11 (some (Value.ref 6)) 1 80 (sT62 w os b) (th9x5 w os) = some (sT63 w os b, th9x5 w os)
theorem pc9x28ff (w : World) : pc9x28Q false (w.withFollow "special-get-raises" false) := by
  intro os; kernel_rfl
theorem pc9x28ft (w : World) : pc9x28Q false (w.withFollow "special-get-raises" true) := by
  intro os; kernel_rfl
theorem pc9x28tf (w : World) : pc9x28Q true (w.withFollow "special-get-raises" false) := by
  intro os; kernel_rfl
theorem pc9x28tt (w : World) : pc9x28Q true (w.withFollow "special-get-raises" true) := by
  intro os; kernel_rfl
theorem pc9x28b : ∀ (b : Bool) (w : World), pc9x28Q b w
  | false, w => byRow2 "special-get-raises" (P := pc9x28Q false) pc9x28ff pc9x28ft w
  | true, w => byRow2 "special-get-raises" (P := pc9x28Q true) pc9x28tf pc9x28tt w
theorem pc9x28 : ∀ (w : World) (os : OsState), segF tabF pg w 11 (some (Value.ref 6)) 1 80 (sT62 w os (so w)) (th9x5 w os) = some (sT63 w os (so w), th9x5 w os) := fun w os => pc9x28b (so w) w os
def o166 (b : Bool) : Obj := ⟨(Value.type "set"), none, Data.set #[(917505, (Value.int 917505 379)), (917536, (Value.int 917536 385)), (917537, (Value.int 917537 386)), (917538, (Value.int 917538 387)), (917539, (Value.int 917539 388)), (917540, (Value.int 917540 389)), (917541, (Value.int 917541 390)), (917542, (Value.int 917542 391)), (917543, (Value.int 917543 392)), (917544, (Value.int 917544 393)), (917545, (Value.int 917545 394)), (917546, (Value.int 917546 395)), (917547, (Value.int 917547 396)), (917548, (Value.int 917548 397)), (917549, (Value.int 917549 398)), (917550, (Value.int 917550 399)), (917551, (Value.int 917551 400)), (917552, (Value.int 917552 401)), (917553, (Value.int 917553 402)), (917554, (Value.int 917554 403)), (917555, (Value.int 917555 404)), (917556, (Value.int 917556 405)), (917557, (Value.int 917557 406)), (917558, (Value.int 917558 407)), (917559, (Value.int 917559 408)), (917560, (Value.int 917560 409)), (917561, (Value.int 917561 410)), (917562, (Value.int 917562 411)), (917563, (Value.int 917563 412)), (917564, (Value.int 917564 413)), (917565, (Value.int 917565 414)), (917566, (Value.int 917566 415)), (917567, (Value.int 917567 416)), (917568, (Value.int 917568 417)), (917569, (Value.int 917569 418)), (917570, (Value.int 917570 419)), (917571, (Value.int 917571 420)), (917572, (Value.int 917572 421)), (917573, (Value.int 917573 422)), (917574, (Value.int 917574 423)), (917575, (Value.int 917575 424)), (917576, (Value.int 917576 425)), (917577, (Value.int 917577 426)), (917578, (Value.int 917578 427)), (917579, (Value.int 917579 428)), (917580, (Value.int 917580 429)), (917581, (Value.int 917581 430)), (917582, (Value.int 917582 431)), (917583, (Value.int 917583 432)), (917584, (Value.int 917584 433)), (917585, (Value.int 917585 434)), (917586, (Value.int 917586 435)), (917587, (Value.int 917587 436)), (917588, (Value.int 917588 437)), (917589, (Value.int 917589 438)), (917590, (Value.int 917590 439)), (917591, (Value.int 917591 440)), (917592, (Value.int 917592 441)), (917593, (Value.int 917593 442)), (917594, (Value.int 917594 443)), (917595, (Value.int 917595 444)), (917596, (Value.int 917596 445)), (917597, (Value.int 917597 446)), (917598, (Value.int 917598 447)), (917599, (Value.int 917599 448)), (917600, (Value.int 917600 449)), (917601, (Value.int 917601 450)), (917602, (Value.int 917602 451)), (917603, (Value.int 917603 452)), (917604, (Value.int 917604 453)), (917605, (Value.int 917605 454)), (917606, (Value.int 917606 455)), (917607, (Value.int 917607 456)), (917608, (Value.int 917608 457)), (917609, (Value.int 917609 458)), (917610, (Value.int 917610 459)), (917611, (Value.int 917611 460)), (917612, (Value.int 917612 461)), (917613, (Value.int 917613 462)), (917614, (Value.int 917614 463)), (917615, (Value.int 917615 464)), (917616, (Value.int 917616 465)), (917617, (Value.int 917617 466)), (917618, (Value.int 917618 467)), (917619, (Value.int 917619 468)), (917620, (Value.int 917620 469)), (917621, (Value.int 917621 470)), (917622, (Value.int 917622 471)), (917623, (Value.int 917623 472)), (917624, (Value.int 917624 473)), (917625, (Value.int 917625 474)), (917626, (Value.int 917626 475)), (917627, (Value.int 917627 476)), (917628, (Value.int 917628 477)), (917629, (Value.int 917629 478)), (917630, (Value.int 917630 479)), (917631, (Value.int 917631 480))] 100 ⟨511, #[1, 32, 33, 34, 35, 36, 37, 38, 39, 40, 41, 42, 43, 44, 45, 46, 47, 48, 49, 50, 51, 52, 53, 54, 55, 56, 57, 58, 59, 60, 61, 62, 63, 64, 65, 66, 67, 68, 69, 70, 71, 72, 73, 74, 75, 76, 77, 78, 79, 80, 81, 82, 83, 84, 85, 86, 87, 88, 89, 90, 91, 92, 93, 94, 95, 96, 97, 98, 99, 100, 101, 102, 103, 104, 105, 106, 107, 108, 109, 110, 111, 112, 113, 114, 115, 116, 117, 118, 119, 120, 121, 122, 123, 124, 125, 126, 127], #[], 0, (!b), 3, true⟩, #[]⟩
def o167 (P : Params) : Obj := ⟨(Value.type "list_iterator"), none, Data.fields #[(Value.ref 101), (Value.int 97 0)], #[]⟩
def tr64 (P : Params) (b : Bool) : BT := (.node (boot_o_0 P) (.node (boot_o_1 P) (.node (o100 P) (.node (boot_o_7 P) (.node (o0 P) (.node (o0 P) (.node (o68 P) .nil .nil) (.node (o106 P) .nil .nil)) (.node (o47 P) (.node (o84 P) .nil .nil) .nil)) (.node (o11 P) (.node (o42 P) (.node (o75 P) .nil .nil) (.node (o167 P) .nil .nil)) (.node (o0 P) (.node (o99 P) .nil .nil) .nil))) (.node (o0 P) (.node (o7 P) (.node (o39 P) (.node (o0 P) .nil .nil) (.node (o0 P) .nil .nil)) (.node (o52 P) (.node (o87 P) .nil .nil) .nil)) (.node (o16 P) (.node (o0 P) (.node (o0 P) .nil .nil) .nil) (.node (o59 P) (.node (o0 P) .nil .nil) .nil)))) (.node (boot_o_5 P) (.node (boot_o_9 P) (.node (o6 P) (.node (o0 P) (.node (o1 P) .nil .nil) (.node (o115 P) .nil .nil)) (.node (o50 P) (.node (o0 P) .nil .nil) .nil)) (.node (o15 P) (.node (o1 P) (.node (o78 P) .nil .nil) .nil) (.node (o57 P) (.node (o1 P) .nil .nil) .nil))) (.node (o2 P) (.node (o9 P) (.node (o40 P) (.node (o73 P) .nil .nil) (.node (o118 P) .nil .nil)) (.node (o1 P) (.node (o98 P) .nil .nil) .nil)) (.node (o32 b) (.node (o45 P) (.node (o81 P) .nil .nil) .nil) (.node (o66 P) (.node (o104 P) .nil .nil) .nil))))) (.node (boot_o_2 P) (.node (boot_o_4 P) (.node (boot_o_8 P) (.node (o1 P) (.node (o36 P) (.node (o0 P) .nil .nil) (.node (o107 P) .nil .nil)) (.node (o49 b) (.node (o85 P) .nil .nil) .nil)) (.node (o14 P) (.node (o0 P) (.node (o76 P) .nil .nil) .nil) (.node (o56 P) (.node (o0 P) .nil .nil) .nil))) (.node (o101 P) (.node (o8 P) (.node (o0 P) (.node (o72 P) .nil .nil) (.node (o117 P) .nil .nil)) (.node (o0 P) (.node (o95 b) .nil .nil) .nil)) (.node (o17 P) (.node (o44 P) (.node (o80 P) .nil .nil) .nil) (.node (o65 b) (.node (o103 P) .nil .nil) .nil)))) (.node (boot_o_6 P) (.node (boot_o_10 P) (.node (o0 P) (.node (o1 P) (.node (o71 P) .nil .nil) (.node (o116 P) .nil .nil)) (.node (o0 P) (.node (o86 P) .nil .nil) .nil)) (.node (o0 P) (.node (o43 P) (.node (o79 P) .nil .nil) .nil) (.node (o58 P) (.node (o102 P) .nil .nil) .nil))) (.node (o3 P) (.node (o10 P) (.node (o41 P) (.node (o74 P) .nil .nil) (.node (o166 b) .nil .nil)) (.node (o55 P) (.node (o0 P) .nil .nil) .nil)) (.node (o35 P) (.node (o46 P) (.node (o82 P) .nil .nil) .nil) (.node (o0 P) (.node (o105 P) .nil .nil) .nil))))))
def sT64 (w : World) (os : OsState) (b : Bool) : SharedT := ⟨tr64 w.params b, 104, {}, #[], {}, 578, os⟩
abbrev pc9x29Q (b : Bool) (w : World) : Prop := ∀ os : OsState, segF tabF pg w 11 (some (Value.ref 6)) 1 60 (sT63 w os b) (th9x5 w os) = some (sT64 w os b, th9x5 w os)
theorem pc9x29ff (w : World) : pc9x29Q false (w.withFollow "special-get-raises" false) := by
  intro os; kernel_rfl
theorem pc9x29ft (w : World) : pc9x29Q false (w.withFollow "special-get-raises" true) := by
  intro os; kernel_rfl
theorem pc9x29tf (w : World) : pc9x29Q true (w.withFollow "special-get-raises" false) := by
  intro os; kernel_rfl
theorem pc9x29tt (w : World) : pc9x29Q true (w.withFollow "special-get-raises" true) := by
  intro os; kernel_rfl
theorem pc9x29b : ∀ (b : Bool) (w : World), pc9x29Q b w
  | false, w => byRow2 "special-get-raises" (P := pc9x29Q false) pc9x29ff pc9x29ft w
  | true, w => byRow2 "special-get-raises" (P := pc9x29Q true) pc9x29tf pc9x29tt w
theorem pc9x29 : ∀ (w : World) (os : OsState), segF tabF pg w 11 (some (Value.ref 6)) 1 60 (sT63 w os (so w)) (th9x5 w os) = some (sT64 w os (so w), th9x5 w os) := fun w os => pc9x29b (so w) w os
def o168 (P : Params) : Obj := ⟨(Value.type "dict"), none, Data.dict #[⟨PyData.keyHash P (Str.ofString "__name__"), (Value.str (Str.ofString "__name__") 165), (Value.str (Str.ofString "cpy313.stringprep") 198)⟩, ⟨PyData.keyHash P (Str.ofString "__doc__"), (Value.str (Str.ofString "__doc__") 166), Value.none⟩, ⟨PyData.keyHash P (Str.ofString "__package__"), (Value.str (Str.ofString "__package__") 167), Value.none⟩, ⟨PyData.keyHash P (Str.ofString "__loader__"), (Value.str (Str.ofString "__loader__") 168), (ldV P)⟩, ⟨PyData.keyHash P (Str.ofString "__spec__"), (Value.str (Str.ofString "__spec__") 169), Value.none⟩, ⟨PyData.keyHash P (Str.ofString "__annotations__"), (Value.str (Str.ofString "__annotations__") 170), (Value.ref 6)⟩, ⟨PyData.keyHash P (Str.ofString "__builtins__"), (Value.str (Str.ofString "__builtins__") 171), (Value.ref 4)⟩, ⟨PyData.keyHash P (Str.ofString "__file__"), (Value.str (Str.ofString "__file__") 173), (Value.str (Str.ofString "/claim/cut.py") 172)⟩, ⟨PyData.keyHash P (Str.ofString "__cached__"), (Value.str (Str.ofString "__cached__") 174), Value.none⟩, ⟨PyData.keyHash P (Str.ofString "_parse_varint"), (Value.str (Str.ofString "_parse_varint") 197), (Value.ref 21)⟩, ⟨PyData.keyHash P (Str.ofString "b1_set"), (Value.str (Str.ofString "b1_set") 259), (Value.ref 29)⟩, ⟨PyData.keyHash P (Str.ofString "in_table_b1"), (Value.str (Str.ofString "in_table_b1") 266), (Value.ref 39)⟩, ⟨PyData.keyHash P (Str.ofString "in_table_c4"), (Value.str (Str.ofString "in_table_c4") 274), (Value.ref 46)⟩, ⟨PyData.keyHash P (Str.ofString "c6_set"), (Value.str (Str.ofString "c6_set") 288), (Value.ref 48)⟩, ⟨PyData.keyHash P (Str.ofString "in_table_c6"), (Value.str (Str.ofString "in_table_c6") 295), (Value.ref 58)⟩, ⟨PyData.keyHash P (Str.ofString "c7_set"), (Value.str (Str.ofString "c7_set") 323), (Value.ref 60)⟩, ⟨PyData.keyHash P (Str.ofString "in_table_c7"), (Value.str (Str.ofString "in_table_c7") 330), (Value.ref 70)⟩, ⟨PyData.keyHash P (Str.ofString "c8_set"), (Value.str (Str.ofString "c8_set") 371), (Value.ref 84)⟩, ⟨PyData.keyHash P (Str.ofString "in_table_c8"), (Value.str (Str.ofString "in_table_c8") 378), (Value.ref 94)⟩, ⟨PyData.keyHash P (Str.ofString "c9_set"), (Value.str (Str.ofString "c9_set") 578), (Value.ref 102)⟩] 20, #[]⟩
def o169 (P : Params) : Obj := ⟨(Value.type "list_iterator"), none, Data.fields #[Value.none, (Value.int 97 0)], #[]⟩
def o170 (P : Params) : Obj := ⟨(Value.type "StopIteration"), none, Data.fields #[(Value.ref 104), Value.none, Value.none, Value.none, (Value.bool false), Value.none], #[]⟩
def tr65 (P : Params) (b : Bool) : BT := (.node (boot_o_0 P) (.node (boot_o_1 P) (.node (o168 P) (.node (boot_o_7 P) (.node (o0 P) (.node (o0 P) (.node (o68 P) .nil .nil) (.node (o106 P) .nil .nil)) (.node (o47 P) (.node (o84 P) .nil .nil) .nil)) (.node (o11 P) (.node (o42 P) (.node (o75 P) .nil .nil) (.node (o169 P) .nil .nil)) (.node (o0 P) (.node (o99 P) .nil .nil) .nil))) (.node (o0 P) (.node (o7 P) (.node (o39 P) (.node (o0 P) .nil .nil) (.node (o0 P) .nil .nil)) (.node (o52 P) (.node (o87 P) .nil .nil) .nil)) (.node (o16 P) (.node (o0 P) (.node (o0 P) .nil .nil) .nil) (.node (o59 P) (.node (o0 P) .nil .nil) .nil)))) (.node (boot_o_5 P) (.node (boot_o_9 P) (.node (o6 P) (.node (o0 P) (.node (o1 P) .nil .nil) (.node (o115 P) .nil .nil)) (.node (o50 P) (.node (o0 P) .nil .nil) .nil)) (.node (o15 P) (.node (o1 P) (.node (o78 P) .nil .nil) (.node (o170 P) .nil .nil)) (.node (o57 P) (.node (o1 P) .nil .nil) .nil))) (.node (o2 P) (.node (o9 P) (.node (o40 P) (.node (o73 P) .nil .nil) (.node (o118 P) .nil .nil)) (.node (o1 P) (.node (o98 P) .nil .nil) .nil)) (.node (o32 b) (.node (o45 P) (.node (o81 P) .nil .nil) .nil) (.node (o66 P) (.node (o104 P) .nil .nil) .nil))))) (.node (boot_o_2 P) (.node (boot_o_4 P) (.node (boot_o_8 P) (.node (o1 P) (.node (o36 P) (.node (o0 P) .nil .nil) (.node (o107 P) .nil .nil)) (.node (o49 b) (.node (o85 P) .nil .nil) .nil)) (.node (o14 P) (.node (o0 P) (.node (o76 P) .nil .nil) (.node (o0 P) .nil .nil)) (.node (o56 P) (.node (o0 P) .nil .nil) .nil))) (.node (o101 P) (.node (o8 P) (.node (o0 P) (.node (o72 P) .nil .nil) (.node (o117 P) .nil .nil)) (.node (o0 P) (.node (o95 b) .nil .nil) .nil)) (.node (o17 P) (.node (o44 P) (.node (o80 P) .nil .nil) .nil) (.node (o65 b) (.node (o103 P) .nil .nil) .nil)))) (.node (boot_o_6 P) (.node (boot_o_10 P) (.node (o0 P) (.node (o1 P) (.node (o71 P) .nil .nil) (.node (o116 P) .nil .nil)) (.node (o0 P) (.node (o86 P) .nil .nil) .nil)) (.node (o0 P) (.node (o43 P) (.node (o79 P) .nil .nil) .nil) (.node (o58 P) (.node (o102 P) .nil .nil) .nil))) (.node (o3 P) (.node (o10 P) (.node (o41 P) (.node (o74 P) .nil .nil) (.node (o166 b) .nil .nil)) (.node (o55 P) (.node (o0 P) .nil .nil) .nil)) (.node (o35 P) (.node (o46 P) (.node (o82 P) .nil .nil) .nil) (.node (o0 P) (.node (o105 P) .nil .nil) .nil))))))
def sT65 (w : World) (os : OsState) (b : Bool) : SharedT := ⟨tr65 w.params b, 106, {}, #[], {}, 579, os⟩
theorem pc9e : ∀ (w : World) (os : OsState), runF tabF pg w 11 (some (Value.ref 6)) 1 27 (sT64 w os (so w)) (th9x5 w os) = some (.next, sT65 w os (so w), cd0, ⟨30, 0, 30, 6⟩) := by
  refine byRow2 "set-order" ?_ ?_ <;> refine byRow2 "special-get-raises" ?_ ?_ <;> intro w os <;> kernel_rfl
theorem pc9 : ∀ (w : World) (os : OsState), segRun treeTable pg w 11 (some (Value.ref 6)) 1 (87 + (442 + (408 + (408 + (374 + (59 + (122 + (80 + (80 + (80 + (82 + (80 + (80 + (80 + (80 + (80 + (80 + (80 + (80 + (80 + (80 + (80 + (80 + (80 + (82 + (80 + (80 + (80 + (80 + (60 + 27)))))))))))))))))))))))))))))) (sT34 w os (so w)).abs (piecesOf sts9 env0 cd0 ⟨28, 0, 29, 30⟩ fr0) = some (.next, (sT65 w os (so w)).abs, cd0, ⟨30, 0, 30, 6⟩) := fun w os => (seg_go (goOf (pc9x0 w os)) (seg_go (goOf (pc9x1 w os)) (seg_go (goOf (pc9x2 w os)) (seg_go (goOf (pc9x3 w os)) (seg_go (goOf (pc9x4 w os)) (seg_go (goOf (pc9x5 w os)) (seg_go (goOf (pc9x6 w os)) (seg_go (goOf (pc9x7 w os)) (seg_go (goOf (pc9x8 w os)) (seg_go (goOf (pc9x9 w os)) (seg_go (goOf (pc9x10 w os)) (seg_go (goOf (pc9x11 w os)) (seg_go (goOf (pc9x12 w os)) (seg_go (goOf (pc9x13 w os)) (seg_go (goOf (pc9x14 w os)) (seg_go (goOf (pc9x15 w os)) (seg_go (goOf (pc9x16 w os)) (seg_go (goOf (pc9x17 w os)) (seg_go (goOf (pc9x18 w os)) (seg_go (goOf (pc9x19 w os)) (seg_go (goOf (pc9x20 w os)) (seg_go (goOf (pc9x21 w os)) (seg_go (goOf (pc9x22 w os)) (seg_go (goOf (pc9x23 w os)) (seg_go (goOf (pc9x24 w os)) (seg_go (goOf (pc9x25 w os)) (seg_go (goOf (pc9x26 w os)) (seg_go (goOf (pc9x27 w os)) (seg_go (goOf (pc9x28 w os)) (seg_go (goOf (pc9x29 w os)) (runOf (pc9e w os))))))))))))))))))))))))))))))))
def sts10 : List Stmt := ((behindTheImports pg).drop 13).take 8
def o171 (P : Params) : Obj := ⟨(Value.type "dict"), none, Data.dict #[⟨PyData.keyHash P (Str.ofString "__name__"), (Value.str (Str.ofString "__name__") 165), (Value.str (Str.ofString "law_pe0023_01") 586)⟩, ⟨PyData.keyHash P (Str.ofString "__doc__"), (Value.str (Str.ofString "__doc__") 166), Value.none⟩, ⟨PyData.keyHash P (Str.ofString "__package__"), (Value.str (Str.ofString "__package__") 167), Value.none⟩, ⟨PyData.keyHash P (Str.ofString "__loader__"), (Value.str (Str.ofString "__loader__") 168), (ldV P)⟩, ⟨PyData.keyHash P (Str.ofString "__spec__"), (Value.str (Str.ofString "__spec__") 169), Value.none⟩, ⟨PyData.keyHash P (Str.ofString "__annotations__"), (Value.str (Str.ofString "__annotations__") 170), (Value.ref 6)⟩, ⟨PyData.keyHash P (Str.ofString "__builtins__"), (Value.str (Str.ofString "__builtins__") 171), (Value.ref 4)⟩, ⟨PyData.keyHash P (Str.ofString "__file__"), (Value.str (Str.ofString "__file__") 173), (Value.str (Str.ofString "/claim/cut.py") 172)⟩, ⟨PyData.keyHash P (Str.ofString "__cached__"), (Value.str (Str.ofString "__cached__") 174), Value.none⟩, ⟨PyData.keyHash P (Str.ofString "_parse_varint"), (Value.str (Str.ofString "_parse_varint") 197), (Value.ref 21)⟩, ⟨PyData.keyHash P (Str.ofString "b1_set"), (Value.str (Str.ofString "b1_set") 259), (Value.ref 29)⟩, ⟨PyData.keyHash P (Str.ofString "in_table_b1"), (Value.str (Str.ofString "in_table_b1") 266), (Value.ref 39)⟩, ⟨PyData.keyHash P (Str.ofString "in_table_c4"), (Value.str (Str.ofString "in_table_c4") 274), (Value.ref 46)⟩, ⟨PyData.keyHash P (Str.ofString "c6_set"), (Value.str (Str.ofString "c6_set") 288), (Value.ref 48)⟩, ⟨PyData.keyHash P (Str.ofString "in_table_c6"), (Value.str (Str.ofString "in_table_c6") 295), (Value.ref 58)⟩, ⟨PyData.keyHash P (Str.ofString "c7_set"), (Value.str (Str.ofString "c7_set") 323), (Value.ref 60)⟩, ⟨PyData.keyHash P (Str.ofString "in_table_c7"), (Value.str (Str.ofString "in_table_c7") 330), (Value.ref 70)⟩, ⟨PyData.keyHash P (Str.ofString "c8_set"), (Value.str (Str.ofString "c8_set") 371), (Value.ref 84)⟩, ⟨PyData.keyHash P (Str.ofString "in_table_c8"), (Value.str (Str.ofString "in_table_c8") 378), (Value.ref 94)⟩, ⟨PyData.keyHash P (Str.ofString "c9_set"), (Value.str (Str.ofString "c9_set") 578), (Value.ref 102)⟩, ⟨PyData.keyHash P (Str.ofString "in_table_c9"), (Value.str (Str.ofString "in_table_c9") 585), (Value.ref 112)⟩, ⟨PyData.keyHash P (Str.ofString "_law_ranges"), (Value.str (Str.ofString "_law_ranges") 593), (Value.ref 117)⟩, ⟨PyData.keyHash P (Str.ofString "_law_octets"), (Value.str (Str.ofString "_law_octets") 601), (Value.ref 124)⟩, ⟨PyData.keyHash P (Str.ofString "_law_packed"), (Value.str (Str.ofString "_law_packed") 607), (Value.ref 129)⟩, ⟨PyData.keyHash P (Str.ofString "_law_read"), (Value.str (Str.ofString "_law_read") 619), (Value.ref 136)⟩, ⟨PyData.keyHash P (Str.ofString "_law_right"), (Value.str (Str.ofString "_law_right") 625), (Value.ref 141)⟩, ⟨PyData.keyHash P (Str.ofString "law"), (Value.str (Str.ofString "law") 631), (Value.ref 146)⟩] 27, #[]⟩
def o172 (P : Params) : Obj := ⟨Value.none, none, Data.fields #[(Value.int 2 0), (Value.int 0 0), (Value.ref 20), (Value.int 12 0), (Value.int 0 0), (Value.ref 38), (Value.int 14 0), (Value.int 0 0), (Value.ref 45), (Value.int 22 0), (Value.int 0 0), (Value.ref 57), (Value.int 25 0), (Value.int 0 0), (Value.ref 69), (Value.int 28 0), (Value.int 0 0), (Value.ref 93), (Value.int 31 0), (Value.int 0 0), (Value.ref 111), (Value.int 34 0), (Value.int 0 0), (Value.ref 116), (Value.int 39 0), (Value.int 0 0), (Value.ref 123), (Value.int 45 0), (Value.int 0 0), (Value.ref 128), (Value.int 53 0), (Value.int 0 0), (Value.ref 135), (Value.int 64 0), (Value.int 0 0), (Value.ref 140), (Value.int 71 0), (Value.int 0 0), (Value.ref 145)], #[]⟩
def o173 (P : Params) : Obj := ⟨(Value.type "tuple"), none, Data.seq #[(Value.str (Str.ofString "code") 582)] 0, #[]⟩
def o174 (P : Params) : Obj := ⟨Value.none, none, Data.func ⟨(Str.ofString "in_table_c9"), (Str.ofString "in_table_c9"), stA 13, .stmts (stB 13), stS 13, 0, [], Value.none, Value.none, Value.none, Value.none, none, Value.none, Value.none, 0⟩, #[]⟩
def o175 (P : Params) : Obj := ⟨(Value.type "code"), none, Data.fields #[(Value.str (Str.ofString "in_table_c9") 579), (Value.str (Str.ofString "in_table_c9") 580), (Value.str (Str.ofString "/claim/cut.py") 581), (Value.int 31 0), (Value.int 1 0), (Value.int 0 0), (Value.int 0 0), (Value.int 3 0), (Value.ref 106), (Value.bool true), (Value.int 181 0), (Value.ref 107), Value.none, (Value.ref 108), (Value.ref 109), (Value.ref 110), (Value.int 583 0), (Value.int 31 0), (Value.str (Str.ofString "/claim/cut.py") 584)], #[]⟩
def o176 (P : Params) : Obj := ⟨(Value.type "function"), none, Data.func ⟨(Str.ofString "in_table_c9"), (Str.ofString "in_table_c9"), stA 13, .stmts (stB 13), stS 13, 3, [], Value.none, Value.none, Value.none, (Value.str (Str.ofString "cpy313.stringprep") 198), none, (Value.ref 111), Value.none, 0⟩, #[]⟩
def o177 (P : Params) : Obj := ⟨Value.none, none, Data.func ⟨(Str.ofString "_law_ranges"), (Str.ofString "_law_ranges"), stA 15, .stmts (stB 15), stS 15, 0, [], Value.none, Value.none, Value.none, Value.none, none, Value.none, Value.none, 0⟩, #[]⟩
def o178 (P : Params) : Obj := ⟨(Value.type "code"), none, Data.fields #[(Value.str (Str.ofString "_law_ranges") 588), (Value.str (Str.ofString "_law_ranges") 589), (Value.str (Str.ofString "/claim/cut.py") 590), (Value.int 34 0), (Value.int 0 0), (Value.int 0 0), (Value.int 0 0), (Value.int 3 0), (Value.ref 113), (Value.bool true), (Value.int 181 0), (Value.ref 114), Value.none, Value.none, Value.none, (Value.ref 115), (Value.int 591 0), (Value.int 34 0), (Value.str (Str.ofString "/claim/cut.py") 592)], #[]⟩
def o179 (P : Params) : Obj := ⟨(Value.type "function"), none, Data.func ⟨(Str.ofString "_law_ranges"), (Str.ofString "_law_ranges"), stA 15, .stmts (stB 15), stS 15, 3, [], Value.none, Value.none, Value.none, (Value.str (Str.ofString "law_pe0023_01") 586), none, (Value.ref 116), Value.none, 0⟩, #[]⟩
def o180 (P : Params) : Obj := ⟨(Value.type "tuple"), none, Data.seq #[(Value.str (Str.ofString "number") 597), (Value.str (Str.ofString "digits") 598)] 0, #[]⟩
def o181 (P : Params) : Obj := ⟨Value.none, none, Data.func ⟨(Str.ofString "_law_octets"), (Str.ofString "_law_octets"), stA 16, .stmts (stB 16), stS 16, 0, [], Value.none, Value.none, Value.none, Value.none, none, Value.none, Value.none, 0⟩, #[]⟩
def o182 (P : Params) : Obj := ⟨(Value.type "code"), none, Data.fields #[(Value.str (Str.ofString "_law_octets") 594), (Value.str (Str.ofString "_law_octets") 595), (Value.str (Str.ofString "/claim/cut.py") 596), (Value.int 39 0), (Value.int 1 0), (Value.int 0 0), (Value.int 0 0), (Value.int 3 0), (Value.ref 118), (Value.bool true), (Value.int 181 0), (Value.ref 119), Value.none, (Value.ref 120), (Value.ref 121), (Value.ref 122), (Value.int 599 0), (Value.int 39 0), (Value.str (Str.ofString "/claim/cut.py") 600)], #[]⟩
def o183 (P : Params) : Obj := ⟨(Value.type "function"), none, Data.func ⟨(Str.ofString "_law_octets"), (Str.ofString "_law_octets"), stA 16, .stmts (stB 16), stS 16, 3, [], Value.none, Value.none, Value.none, (Value.str (Str.ofString "law_pe0023_01") 586), none, (Value.ref 123), Value.none, 0⟩, #[]⟩
def o184 (P : Params) : Obj := ⟨Value.none, none, Data.func ⟨(Str.ofString "_law_packed"), (Str.ofString "_law_packed"), stA 17, .stmts (stB 17), stS 17, 0, [], Value.none, Value.none, Value.none, Value.none, none, Value.none, Value.none, 0⟩, #[]⟩
def o185 (P : Params) : Obj := ⟨(Value.type "code"), none, Data.fields #[(Value.str (Str.ofString "_law_packed") 602), (Value.str (Str.ofString "_law_packed") 603), (Value.str (Str.ofString "/claim/cut.py") 604), (Value.int 45 0), (Value.int 1 0), (Value.int 0 0), (Value.int 0 0), (Value.int 3 0), (Value.ref 125), (Value.bool true), (Value.int 181 0), (Value.ref 126), Value.none, Value.none, Value.none, (Value.ref 127), (Value.int 605 0), (Value.int 45 0), (Value.str (Str.ofString "/claim/cut.py") 606)], #[]⟩
def o186 (P : Params) : Obj := ⟨(Value.type "function"), none, Data.func ⟨(Str.ofString "_law_packed"), (Str.ofString "_law_packed"), stA 17, .stmts (stB 17), stS 17, 3, [], Value.none, Value.none, Value.none, (Value.str (Str.ofString "law_pe0023_01") 586), none, (Value.ref 128), Value.none, 0⟩, #[]⟩
def o187 (P : Params) : Obj := ⟨(Value.type "tuple"), none, Data.seq #[(Value.str (Str.ofString "octets") 611), (Value.str (Str.ofString "walker") 612), (Value.str (Str.ofString "tables") 613), (Value.str (Str.ofString "many") 614), (Value.str (Str.ofString "ends") 615), (Value.str (Str.ofString "k") 616)] 0, #[]⟩
def o188 (P : Params) : Obj := ⟨Value.none, none, Data.func ⟨(Str.ofString "_law_read"), (Str.ofString "_law_read"), stA 18, .stmts (stB 18), stS 18, 0, [], Value.none, Value.none, Value.none, Value.none, none, Value.none, Value.none, 0⟩, #[]⟩
def o189 (P : Params) : Obj := ⟨(Value.type "code"), none, Data.fields #[(Value.str (Str.ofString "_law_read") 608), (Value.str (Str.ofString "_law_read") 609), (Value.str (Str.ofString "/claim/cut.py") 610), (Value.int 53 0), (Value.int 1 0), (Value.int 0 0), (Value.int 0 0), (Value.int 3 0), (Value.ref 130), (Value.bool true), (Value.int 181 0), (Value.ref 131), Value.none, (Value.ref 132), (Value.ref 133), (Value.ref 134), (Value.int 617 0), (Value.int 53 0), (Value.str (Str.ofString "/claim/cut.py") 618)], #[]⟩
def o190 (P : Params) : Obj := ⟨(Value.type "function"), none, Data.func ⟨(Str.ofString "_law_read"), (Str.ofString "_law_read"), stA 18, .stmts (stB 18), stS 18, 3, [], Value.none, Value.none, Value.none, (Value.str (Str.ofString "law_pe0023_01") 586), none, (Value.ref 135), Value.none, 0⟩, #[]⟩
def o191 (P : Params) : Obj := ⟨Value.none, none, Data.func ⟨(Str.ofString "_law_right"), (Str.ofString "_law_right"), stA 19, .stmts (stB 19), stS 19, 0, [], Value.none, Value.none, Value.none, Value.none, none, Value.none, Value.none, 0⟩, #[]⟩
def o192 (P : Params) : Obj := ⟨(Value.type "code"), none, Data.fields #[(Value.str (Str.ofString "_law_right") 620), (Value.str (Str.ofString "_law_right") 621), (Value.str (Str.ofString "/claim/cut.py") 622), (Value.int 64 0), (Value.int 4 0), (Value.int 0 0), (Value.int 0 0), (Value.int 3 0), (Value.ref 137), (Value.bool true), (Value.int 181 0), (Value.ref 138), Value.none, Value.none, Value.none, (Value.ref 139), (Value.int 623 0), (Value.int 64 0), (Value.str (Str.ofString "/claim/cut.py") 624)], #[]⟩
def o193 (P : Params) : Obj := ⟨(Value.type "function"), none, Data.func ⟨(Str.ofString "_law_right"), (Str.ofString "_law_right"), stA 19, .stmts (stB 19), stS 19, 3, [], Value.none, Value.none, Value.none, (Value.str (Str.ofString "law_pe0023_01") 586), none, (Value.ref 140), Value.none, 0⟩, #[]⟩
def o194 (P : Params) : Obj := ⟨Value.none, none, Data.func ⟨(Str.ofString "law"), (Str.ofString "law"), stA 20, .stmts (stB 20), stS 20, 0, [], Value.none, Value.none, Value.none, Value.none, none, Value.none, Value.none, 0⟩, #[]⟩
def o195 (P : Params) : Obj := ⟨(Value.type "code"), none, Data.fields #[(Value.str (Str.ofString "law") 626), (Value.str (Str.ofString "law") 627), (Value.str (Str.ofString "/claim/cut.py") 628), (Value.int 71 0), (Value.int 1 0), (Value.int 0 0), (Value.int 0 0), (Value.int 3 0), (Value.ref 142), (Value.bool true), (Value.int 181 0), (Value.ref 143), Value.none, Value.none, Value.none, (Value.ref 144), (Value.int 629 0), (Value.int 71 0), (Value.str (Str.ofString "/claim/cut.py") 630)], #[]⟩
def o196 (P : Params) : Obj := ⟨(Value.type "function"), none, Data.func ⟨(Str.ofString "law"), (Str.ofString "law"), stA 20, .stmts (stB 20), stS 20, 3, [], Value.none, Value.none, Value.none, (Value.str (Str.ofString "law_pe0023_01") 586), none, (Value.ref 145), Value.none, 0⟩, #[]⟩
def tr66 (P : Params) (b : Bool) : BT := (.node (boot_o_0 P) (.node (boot_o_1 P) (.node (o171 P) (.node (boot_o_7 P) (.node (o0 P) (.node (o0 P) (.node (o68 P) (.node (o184 P) .nil .nil) .nil) (.node (o106 P) .nil .nil)) (.node (o47 P) (.node (o84 P) (.node (o1 P) .nil .nil) .nil) (.node (o175 P) .nil .nil))) (.node (o11 P) (.node (o42 P) (.node (o75 P) (.node (o189 P) .nil .nil) .nil) (.node (o169 P) .nil .nil)) (.node (o0 P) (.node (o99 P) .nil .nil) (.node (o1 P) .nil .nil)))) (.node (o0 P) (.node (o7 P) (.node (o39 P) (.node (o0 P) (.node (o1 P) .nil .nil) .nil) (.node (o0 P) .nil .nil)) (.node (o52 P) (.node (o87 P) .nil .nil) (.node (o177 P) .nil .nil))) (.node (o16 P) (.node (o0 P) (.node (o0 P) (.node (o191 P) .nil .nil) .nil) (.node (o1 P) .nil .nil)) (.node (o59 P) (.node (o0 P) .nil .nil) (.node (o182 P) .nil .nil))))) (.node (boot_o_5 P) (.node (boot_o_9 P) (.node (o6 P) (.node (o0 P) (.node (o1 P) (.node (o186 P) .nil .nil) .nil) (.node (o115 P) .nil .nil)) (.node (o50 P) (.node (o0 P) (.node (o195 P) .nil .nil) .nil) (.node (o0 P) .nil .nil))) (.node (o15 P) (.node (o1 P) (.node (o78 P) (.node (o0 P) .nil .nil) .nil) (.node (o170 P) .nil .nil)) (.node (o57 P) (.node (o1 P) .nil .nil) (.node (o0 P) .nil .nil)))) (.node (o2 P) (.node (o9 P) (.node (o40 P) (.node (o73 P) (.node (o0 P) .nil .nil) .nil) (.node (o118 P) .nil .nil)) (.node (o1 P) (.node (o98 P) .nil .nil) (.node (o179 P) .nil .nil))) (.node (o32 b) (.node (o45 P) (.node (o81 P) (.node (o193 P) .nil .nil) .nil) (.node (o0 P) .nil .nil)) (.node (o66 P) (.node (o104 P) .nil .nil) (.node (o0 P) .nil .nil)))))) (.node (boot_o_2 P) (.node (boot_o_4 P) (.node (boot_o_8 P) (.node (o1 P) (.node (o36 P) (.node (o0 P) (.node (o185 P) .nil .nil) .nil) (.node (o107 P) .nil .nil)) (.node (o49 b) (.node (o85 P) (.node (o194 P) .nil .nil) .nil) (.node (o176 P) .nil .nil))) (.node (o14 P) (.node (o0 P) (.node (o76 P) (.node (o190 P) .nil .nil) .nil) (.node (o0 P) .nil .nil)) (.node (o56 P) (.node (o0 P) .nil .nil) (.node (o180 P) .nil .nil)))) (.node (o172 P) (.node (o8 P) (.node (o0 P) (.node (o72 P) (.node (o187 P) .nil .nil) .nil) (.node (o117 P) .nil .nil)) (.node (o0 P) (.node (o95 b) .nil .nil) (.node (o178 P) .nil .nil))) (.node (o17 P) (.node (o44 P) (.node (o80 P) (.node (o192 P) .nil .nil) .nil) (.node (o173 P) .nil .nil)) (.node (o65 b) (.node (o103 P) .nil .nil) (.node (o183 P) .nil .nil))))) (.node (boot_o_6 P) (.node (boot_o_10 P) (.node (o0 P) (.node (o1 P) (.node (o71 P) (.node (o0 P) .nil .nil) .nil) (.node (o116 P) .nil .nil)) (.node (o0 P) (.node (o86 P) (.node (o196 P) .nil .nil) .nil) (.node (o1 P) .nil .nil))) (.node (o0 P) (.node (o43 P) (.node (o79 P) (.node (o1 P) .nil .nil) .nil) (.node (o0 P) .nil .nil)) (.node (o58 P) (.node (o102 P) .nil .nil) (.node (o181 P) .nil .nil)))) (.node (o3 P) (.node (o10 P) (.node (o41 P) (.node (o74 P) (.node (o188 P) .nil .nil) .nil) (.node (o166 b) .nil .nil)) (.node (o55 P) (.node (o0 P) .nil .nil) (.node (o0 P) .nil .nil))) (.node (o35 P) (.node (o46 P) (.node (o82 P) (.node (o0 P) .nil .nil) .nil) (.node (o174 P) .nil .nil)) (.node (o0 P) (.node (o105 P) .nil .nil) (.node (o1 P) .nil .nil)))))))
def sT66 (w : World) (os : OsState) (b : Bool) : SharedT := ⟨tr66 w.params b, 147, {}, #[], {}, 632, os⟩
theorem pc10r : ∀ (w : World) (os : OsState), runF tabF pg w 11 (some (Value.ref 6)) 1 207 (sT65 w os (so w)) (piecesOf sts10 env0 cd0 ⟨30, 0, 30, 6⟩ fr0) = some (.next, sT66 w os (so w), cd0, ⟨71, 0, 78, 96⟩) := by
  intro w os; kernel_rfl
theorem pc10 : ∀ (w : World) (os : OsState), segRun treeTable pg w 11 (some (Value.ref 6)) 1 207 (sT65 w os (so w)).abs (piecesOf sts10 env0 cd0 ⟨30, 0, 30, 6⟩ fr0) = some (.next, (sT66 w os (so w)).abs, cd0, ⟨71, 0, 78, 96⟩) := fun w os => runOf (pc10r w os)
def hpF (P : Params) : Heap := (fun b => ⟨#[boot_o_0 P, boot_o_1 P, boot_o_2 P, o171 P, boot_o_4 P, boot_o_5 P, boot_o_6 P, boot_o_7 P, boot_o_8 P, boot_o_9 P, boot_o_10 P, o0 P, o172 P, o2 P, o3 P, o0 P, o1 P, o6 P, o0 P, o7 P, o8 P, o9 P, o10 P, o11 P, o14 P, o15 P, o0 P, o16 P, o17 P, o32 b, o35 P, o0 P, o36 P, o0 P, o1 P, o39 P, o0 P, o40 P, o41 P, o42 P, o0 P, o1 P, o43 P, o0 P, o44 P, o45 P, o46 P, o47 P, o49 b, o50 P, o0 P, o52 P, o0 P, o1 P, o55 P, o0 P, o56 P, o57 P, o58 P, o59 P, o65 b, o66 P, o0 P, o68 P, o0 P, o1 P, o71 P, o0 P, o72 P, o73 P, o74 P, o75 P, o76 P, o78 P, o79 P, o0 P, o80 P, o81 P, o82 P, o84 P, o85 P, o0 P, o86 P, o87 P, o95 b, o98 P, o0 P, o99 P, o0 P, o1 P, o102 P, o0 P, o103 P, o104 P, o105 P, o106 P, o107 P, o115 P, o116 P, o0 P, o117 P, o118 P, o166 b, o169 P, o0 P, o170 P, o0 P, o1 P, o173 P, o0 P, o174 P, o175 P, o176 P, o0 P, o1 P, o177 P, o178 P, o179 P, o0 P, o1 P, o180 P, o0 P, o181 P, o182 P, o183 P, o0 P, o1 P, o184 P, o185 P, o186 P, o0 P, o1 P, o187 P, o0 P, o188 P, o189 P, o190 P, o0 P, o1 P, o191 P, o192 P, o193 P, o0 P, o1 P, o194 P, o195 P, o196 P], {}⟩) (P.followText "set-order")
theorem pcFin : ∀ (w : World) (os : OsState), topRun treeTable pg w 11 (some (Value.ref 6)) 2 (sT66 w os (so w)).abs ⟨doneF .next, cd0, ⟨71, 0, 78, 96⟩, fr0⟩ = some ⟨hpF w.params, #[], {}, 632, os⟩ := by
  intro w os; kernel_rfl
theorem body_is : behindTheImports pg = (sts0 ++ (sts1 ++ (sts2 ++ (sts3 ++ (sts4 ++ (sts5 ++ (sts6 ++ (sts7 ++ (sts8 ++ (sts9 ++ (sts10 ++ []))))))))))) := by kernel_rfl
theorem pcRest : ∀ (w : World) (os : OsState), topRun treeTable pg w 11 (some (Value.ref 6)) (50 + ((97 + (272 + (59 + (122 + (80 + (80 + (80 + (82 + (80 + (20 + 27)))))))))) + (60 + ((58 + (117 + 25)) + (30 + ((58 + (140 + (92 + (46 + 25)))) + (30 + ((90 + (85 + (110 + (102 + (59 + (122 + (80 + (80 + (20 + 27))))))))) + (30 + ((87 + (442 + (408 + (408 + (374 + (59 + (122 + (80 + (80 + (80 + (82 + (80 + (80 + (80 + (80 + (80 + (80 + (80 + (80 + (80 + (80 + (80 + (80 + (80 + (82 + (80 + (80 + (80 + (80 + (60 + 27)))))))))))))))))))))))))))))) + (207 + 2))))))))))) (sT0 w os (so w)).abs (restOf (sts0 ++ (sts1 ++ (sts2 ++ (sts3 ++ (sts4 ++ (sts5 ++ (sts6 ++ (sts7 ++ (sts8 ++ (sts9 ++ (sts10 ++ []))))))))))) env0 cd0 ⟨0, 0, 0, 0⟩ fr0) = some ⟨hpF w.params, #[], {}, 632, os⟩ := fun w os => (piece_app (pc0 w os) (piece_app (pc1 w os) (piece_app (pc2 w os) (piece_app (pc3 w os) (piece_app (pc4 w os) (piece_app (pc5 w os) (piece_app (pc6 w os) (piece_app (pc7 w os) (piece_app (pc8 w os) (piece_app (pc9 w os) (piece_app (pc10 w os) (piece_nil (pcFin w os)))))))))))))
abbrev steps0 : Nat := 12 + (1 + (50 + ((97 + (272 + (59 + (122 + (80 + (80 + (80 + (82 + (80 + (20 + 27)))))))))) + (60 + ((58 + (117 + 25)) + (30 + ((58 + (140 + (92 + (46 + 25)))) + (30 + ((90 + (85 + (110 + (102 + (59 + (122 + (80 + (80 + (20 + 27))))))))) + (30 + ((87 + (442 + (408 + (408 + (374 + (59 + (122 + (80 + (80 + (80 + (82 + (80 + (80 + (80 + (80 + (80 + (80 + (80 + (80 + (80 + (80 + (80 + (80 + (80 + (82 + (80 + (80 + (80 + (80 + (60 + 27)))))))))))))))))))))))))))))) + (207 + 2))))))))))))
theorem pcRun : ∀ (w : World) (os : OsState), topRun treeTable pg w 11 (some (Value.ref 6)) steps0 ⟨boot_heap w.params, #[], boot_drawn, boot_toks, os⟩ (topStub pg) = some ⟨hpF w.params, #[], {}, 632, os⟩ := fun w os => go_top (pcPre w os) (piece_block (pcBlock w os) (by rw [body_is]; exact pcRest w os))
end Mine
end
noncomputable section
open PySem PySem.W PySem.Calls PyProof.Rows PySem.SeqAt
set_option maxRecDepth 100000
set_option maxHeartbeats 400000
set_option linter.unusedVariables false
namespace Mine
def intOf (v : Value) : Int := match v with | .int k _ => k | _ => 0
def okE (e : Int × Value) : Bool := match e.2 with | .int k _ => decide (e.1 = hashInt k) && e.2.scannable | _ => false
theorem set_of {w : World} {h : Heap} {a : Addr} {o : Obj} {es : Array (Int × Value)} {ep : Nat} {t : SetTable} {S : Int → Bool} (ks : List Int) (ho : h.get? a = some o) (hx : o.ExactSet) (hd : o.data = .set es ep t)
    (ok : es.toList.all okE = true) (hks : es.toList.map (fun e => intOf e.2) = ks) (hS : ∀ k, S k = true ↔ k ∈ ks) (hz : decide (es.size < scanBound) = true) (hf : t.fits es.size = true) : ∃ n, h.SetOf (intKind pg w) a S n := by
  have key : ∀ e ∈ es.toList, ∃ k t, e.2 = .int k t ∧ e.1 = hashInt k ∧ e.2.scannable = true := fun e he => by
    have := List.all_eq_true.mp ok e he
    unfold okE at this
    split at this
    · rename_i k t hv
      simp only [Bool.and_eq_true, decide_eq_true_eq] at this
      exact ⟨k, t, hv, this.1, this.2⟩
    · cases this
  refine ⟨_, o, es, ep, t, ho, hx, hd, fun e he => ?_, fun k => ?_, of_decide_eq_true hz, hf, rfl⟩
  · obtain ⟨k, t, h1, h2, h3⟩ := key e he
    exact ⟨⟨k, by rw [h1]; exact beq_self_eq_true _, h2⟩, h3⟩
  · rw [hS, ← hks, List.mem_map]
    constructor
    · rintro ⟨e, he, rfl⟩
      obtain ⟨k, t, h1, _⟩ := key e he
      exact ⟨e, he, by rw [h1]; exact beq_self_eq_true _⟩
    · rintro ⟨e, he, h⟩
      obtain ⟨k', t, h1, _⟩ := key e he
      refine ⟨e, he, ?_⟩
      rw [h1] at h ⊢
      exact eq_of_beq h
theorem rng_mem {a : Int} {n : Nat} {k : Int} : k ∈ (List.range n).map (fun (i : Nat) => a + (i : Int)) ↔ a ≤ k ∧ k < a + n := by
  rw [List.mem_map]
  constructor
  · rintro ⟨i, hi, rfl⟩
    have := List.mem_range.mp hi
    omega
  · rintro ⟨h1, h2⟩
    exact ⟨(k - a).toNat, List.mem_range.mpr (by omega), by omega⟩
def fieldsOfObj (o : Obj) : Array Value := match o.data with | .fields vs => vs | _ => #[]
theorem fn_of {h : Heap} {a c : Addr} {o oc : Obj} {nm : Str} {ps : Arguments} {body : List Stmt} {sc : Scope} {pm doc : Value} {t : Tok} (ho : h.get? a = some o) (hd : o.data = .func (Calls.docDef nm ps body sc pm (.ref c) doc))
    (hc : h.get? c = some oc) (hf : oc.data = .fields (fieldsOfObj oc)) (h1 : (fieldsOfObj oc)[1]? = some (.str nm t)) : ∃ cd, Fn h a nm ps body sc cd :=
  ⟨.ref c, ⟨o, pm, doc, ho, hd⟩, ⟨c, oc, _, t, rfl, hc, hf, h1⟩⟩
section
variable (w : World)
theorem hp_ns : (hpF w.params).isNs mainGlobals = true := by kernel_rfl
theorem hp_bs : (hpF w.params).isNs builtinsNs = true := by kernel_rfl
theorem hp_cs : (hpF w.params).isNs cStatics = true := by kernel_rfl
theorem hp_lim : (hpF w.params).nsMap cStatics "sys.recursionlimit" = none := by kernel_rfl
theorem hp_tab : (tab.all fun p => decide ((hpF w.params).nsMap mainGlobals p.1 = some (.ref p.2))) = true := by kernel_rfl
theorem hp_free : (bnames.all fun x => ((hpF w.params).nsMap mainGlobals x).isNone) = true := by kernel_rfl
theorem hp_boot : (bnames.all fun x => decide ((hpF w.params).nsMap builtinsNs x = bootBuiltins x)) = true := by kernel_rfl
theorem hp_pv : ∃ cd, Fn (hpF w.params) 21 "_parse_varint" (stA 1) (stB 1) (stS 1) cd :=
  fn_of (c := 20) (o := (o9 w.params)) (oc := (o8 w.params)) (pm := (Value.str (Str.ofString "cpy313.dis") 187)) (doc := Value.none) (t := 190) (by kernel_rfl) (by kernel_rfl) (by kernel_rfl) (by kernel_rfl) (by kernel_rfl)
theorem hp_b1 : ∃ cd, Fn (hpF w.params) 39 "in_table_b1" (stA 4) (stB 4) (stS 4) cd :=
  fn_of (c := 38) (o := (o42 w.params)) (oc := (o41 w.params)) (pm := (Value.str (Str.ofString "cpy313.stringprep") 198)) (doc := Value.none) (t := 261) (by kernel_rfl) (by kernel_rfl) (by kernel_rfl) (by kernel_rfl) (by kernel_rfl)
theorem hp_c4 : ∃ cd, Fn (hpF w.params) 46 "in_table_c4" (stA 5) (stB 5) (stS 5) cd :=
  fn_of (c := 45) (o := (o46 w.params)) (oc := (o45 w.params)) (pm := (Value.str (Str.ofString "cpy313.stringprep") 198)) (doc := Value.none) (t := 268) (by kernel_rfl) (by kernel_rfl) (by kernel_rfl) (by kernel_rfl) (by kernel_rfl)
theorem hp_c6 : ∃ cd, Fn (hpF w.params) 58 "in_table_c6" (stA 7) (stB 7) (stS 7) cd :=
  fn_of (c := 57) (o := (o58 w.params)) (oc := (o57 w.params)) (pm := (Value.str (Str.ofString "cpy313.stringprep") 198)) (doc := Value.none) (t := 290) (by kernel_rfl) (by kernel_rfl) (by kernel_rfl) (by kernel_rfl) (by kernel_rfl)
theorem hp_c7 : ∃ cd, Fn (hpF w.params) 70 "in_table_c7" (stA 9) (stB 9) (stS 9) cd :=
  fn_of (c := 69) (o := (o74 w.params)) (oc := (o73 w.params)) (pm := (Value.str (Str.ofString "cpy313.stringprep") 198)) (doc := Value.none) (t := 325) (by kernel_rfl) (by kernel_rfl) (by kernel_rfl) (by kernel_rfl) (by kernel_rfl)
theorem hp_c8 : ∃ cd, Fn (hpF w.params) 94 "in_table_c8" (stA 11) (stB 11) (stS 11) cd :=
  fn_of (c := 93) (o := (o105 w.params)) (oc := (o104 w.params)) (pm := (Value.str (Str.ofString "cpy313.stringprep") 198)) (doc := Value.none) (t := 373) (by kernel_rfl) (by kernel_rfl) (by kernel_rfl) (by kernel_rfl) (by kernel_rfl)
theorem hp_c9 : ∃ cd, Fn (hpF w.params) 112 "in_table_c9" (stA 13) (stB 13) (stS 13) cd :=
  fn_of (c := 111) (o := (o176 w.params)) (oc := (o175 w.params)) (pm := (Value.str (Str.ofString "cpy313.stringprep") 198)) (doc := Value.none) (t := 580) (by kernel_rfl) (by kernel_rfl) (by kernel_rfl) (by kernel_rfl) (by kernel_rfl)
theorem hp_rg : ∃ cd, Fn (hpF w.params) 117 "_law_ranges" (stA 15) (stB 15) (stS 15) cd :=
  fn_of (c := 116) (o := (o179 w.params)) (oc := (o178 w.params)) (pm := (Value.str (Str.ofString "law_pe0023_01") 586)) (doc := Value.none) (t := 589) (by kernel_rfl) (by kernel_rfl) (by kernel_rfl) (by kernel_rfl) (by kernel_rfl)
theorem hp_oc : ∃ cd, Fn (hpF w.params) 124 "_law_octets" (stA 16) (stB 16) (stS 16) cd :=
  fn_of (c := 123) (o := (o183 w.params)) (oc := (o182 w.params)) (pm := (Value.str (Str.ofString "law_pe0023_01") 586)) (doc := Value.none) (t := 595) (by kernel_rfl) (by kernel_rfl) (by kernel_rfl) (by kernel_rfl) (by kernel_rfl)
theorem hp_pk : ∃ cd, Fn (hpF w.params) 129 "_law_packed" (stA 17) (stB 17) (stS 17) cd :=
  fn_of (c := 128) (o := (o186 w.params)) (oc := (o185 w.params)) (pm := (Value.str (Str.ofString "law_pe0023_01") 586)) (doc := Value.none) (t := 603) (by kernel_rfl) (by kernel_rfl) (by kernel_rfl) (by kernel_rfl) (by kernel_rfl)
theorem hp_rd : ∃ cd, Fn (hpF w.params) 136 "_law_read" (stA 18) (stB 18) (stS 18) cd :=
  fn_of (c := 135) (o := (o190 w.params)) (oc := (o189 w.params)) (pm := (Value.str (Str.ofString "law_pe0023_01") 586)) (doc := Value.none) (t := 609) (by kernel_rfl) (by kernel_rfl) (by kernel_rfl) (by kernel_rfl) (by kernel_rfl)
theorem hp_ri : ∃ cd, Fn (hpF w.params) 141 "_law_right" (stA 19) (stB 19) (stS 19) cd :=
  fn_of (c := 140) (o := (o193 w.params)) (oc := (o192 w.params)) (pm := (Value.str (Str.ofString "law_pe0023_01") 586)) (doc := Value.none) (t := 621) (by kernel_rfl) (by kernel_rfl) (by kernel_rfl) (by kernel_rfl) (by kernel_rfl)
theorem sb1_t : ∃ es ep t, (o32 true).data = .set es ep t ∧ es.toList.all okE = true ∧ es.toList.map (fun e => intOf e.2) = [65024, 65025, 65026, 65027, 65028, 65029, 6150, 65030, 65031, 65032, 65033, 6155, 6156, 6157, 8203, 8204, 8205, 65034, 65035, 65036, 65037, 65038, 65039, 173, 847, 8288, 65279] ∧ decide (es.size < scanBound) = true ∧ t.fits es.size = true :=
  ⟨_, _, _, rfl, by decide +kernel, by decide +kernel, by decide +kernel, by decide +kernel⟩
theorem sb1_f : ∃ es ep t, (o32 false).data = .set es ep t ∧ es.toList.all okE = true ∧ es.toList.map (fun e => intOf e.2) = [65024, 65025, 65026, 65027, 65028, 65029, 6150, 65030, 65031, 65032, 65033, 6155, 6156, 6157, 8203, 8204, 8205, 65034, 65035, 65036, 65037, 65038, 65039, 173, 847, 8288, 65279] ∧ decide (es.size < scanBound) = true ∧ t.fits es.size = true :=
  ⟨_, _, _, rfl, by decide +kernel, by decide +kernel, by decide +kernel, by decide +kernel⟩
theorem hp_sb1 : ∃ n, (hpF w.params).SetOf (intKind pg w) 29 isB1 n := by
  have hS : ∀ k, isB1 k = true ↔ k ∈ ([65024, 65025, 65026, 65027, 65028, 65029, 6150, 65030, 65031, 65032, 65033, 6155, 6156, 6157, 8203, 8204, 8205, 65034, 65035, 65036, 65037, 65038, 65039, 173, 847, 8288, 65279] : List Int) := fun k => by
    simp only [isB1, Bool.or_eq_true, Bool.and_eq_true, decide_eq_true_eq, List.mem_cons, List.not_mem_nil, or_false]
    omega
  have ho : (hpF w.params).get? 29 = some (o32 (w.params.followText "set-order")) := by kernel_rfl
  cases hb : w.params.followText "set-order" with
  | true =>
    rw [hb] at ho
    obtain ⟨es, ep, t, h1, h2, h3, h4, h5⟩ := sb1_t
    exact set_of _ ho ⟨rfl, rfl, rfl⟩ h1 h2 h3 hS h4 h5
  | false =>
    rw [hb] at ho
    obtain ⟨es, ep, t, h1, h2, h3, h4, h5⟩ := sb1_f
    exact set_of _ ho ⟨rfl, rfl, rfl⟩ h1 h2 h3 hS h4 h5
theorem sc6_t : ∃ es ep t, (o49 true).data = .set es ep t ∧ es.toList.all okE = true ∧ es.toList.map (fun e => intOf e.2) = [65529, 65530, 65531, 65532, 65533] ∧ decide (es.size < scanBound) = true ∧ t.fits es.size = true :=
  ⟨_, _, _, rfl, by decide +kernel, by decide +kernel, by decide +kernel, by decide +kernel⟩
theorem sc6_f : ∃ es ep t, (o49 false).data = .set es ep t ∧ es.toList.all okE = true ∧ es.toList.map (fun e => intOf e.2) = [65529, 65530, 65531, 65532, 65533] ∧ decide (es.size < scanBound) = true ∧ t.fits es.size = true :=
  ⟨_, _, _, rfl, by decide +kernel, by decide +kernel, by decide +kernel, by decide +kernel⟩
theorem hp_sc6 : ∃ n, (hpF w.params).SetOf (intKind pg w) 48 isC6 n := by
  have hS : ∀ k, isC6 k = true ↔ k ∈ ([65529, 65530, 65531, 65532, 65533] : List Int) := fun k => by
    simp only [isC6, Bool.and_eq_true, decide_eq_true_eq, List.mem_cons, List.not_mem_nil, or_false]
    omega
  have ho : (hpF w.params).get? 48 = some (o49 (w.params.followText "set-order")) := by kernel_rfl
  cases hb : w.params.followText "set-order" with
  | true =>
    rw [hb] at ho
    obtain ⟨es, ep, t, h1, h2, h3, h4, h5⟩ := sc6_t
    exact set_of _ ho ⟨rfl, rfl, rfl⟩ h1 h2 h3 hS h4 h5
  | false =>
    rw [hb] at ho
    obtain ⟨es, ep, t, h1, h2, h3, h4, h5⟩ := sc6_f
    exact set_of _ ho ⟨rfl, rfl, rfl⟩ h1 h2 h3 hS h4 h5
theorem sc7_t : ∃ es ep t, (o65 true).data = .set es ep t ∧ es.toList.all okE = true ∧ es.toList.map (fun e => intOf e.2) = [12272, 12273, 12274, 12275, 12276, 12277, 12278, 12279, 12280, 12281, 12282, 12283] ∧ decide (es.size < scanBound) = true ∧ t.fits es.size = true :=
  ⟨_, _, _, rfl, by decide +kernel, by decide +kernel, by decide +kernel, by decide +kernel⟩
theorem sc7_f : ∃ es ep t, (o65 false).data = .set es ep t ∧ es.toList.all okE = true ∧ es.toList.map (fun e => intOf e.2) = [12272, 12273, 12274, 12275, 12276, 12277, 12278, 12279, 12280, 12281, 12282, 12283] ∧ decide (es.size < scanBound) = true ∧ t.fits es.size = true :=
  ⟨_, _, _, rfl, by decide +kernel, by decide +kernel, by decide +kernel, by decide +kernel⟩
theorem hp_sc7 : ∃ n, (hpF w.params).SetOf (intKind pg w) 60 isC7 n := by
  have hS : ∀ k, isC7 k = true ↔ k ∈ ([12272, 12273, 12274, 12275, 12276, 12277, 12278, 12279, 12280, 12281, 12282, 12283] : List Int) := fun k => by
    simp only [isC7, Bool.and_eq_true, decide_eq_true_eq, List.mem_cons, List.not_mem_nil, or_false]
    omega
  have ho : (hpF w.params).get? 60 = some (o65 (w.params.followText "set-order")) := by kernel_rfl
  cases hb : w.params.followText "set-order" with
  | true =>
    rw [hb] at ho
    obtain ⟨es, ep, t, h1, h2, h3, h4, h5⟩ := sc7_t
    exact set_of _ ho ⟨rfl, rfl, rfl⟩ h1 h2 h3 hS h4 h5
  | false =>
    rw [hb] at ho
    obtain ⟨es, ep, t, h1, h2, h3, h4, h5⟩ := sc7_f
    exact set_of _ ho ⟨rfl, rfl, rfl⟩ h1 h2 h3 hS h4 h5
theorem sc8_t : ∃ es ep t, (o95 true).data = .set es ep t ∧ es.toList.all okE = true ∧ es.toList.map (fun e => intOf e.2) = [832, 833, 8234, 8235, 8236, 8237, 8206, 8207, 8238, 8298, 8299, 8300, 8301, 8302, 8303] ∧ decide (es.size < scanBound) = true ∧ t.fits es.size = true :=
  ⟨_, _, _, rfl, by decide +kernel, by decide +kernel, by decide +kernel, by decide +kernel⟩
theorem sc8_f : ∃ es ep t, (o95 false).data = .set es ep t ∧ es.toList.all okE = true ∧ es.toList.map (fun e => intOf e.2) = [832, 833, 8234, 8235, 8236, 8237, 8206, 8207, 8238, 8298, 8299, 8300, 8301, 8302, 8303] ∧ decide (es.size < scanBound) = true ∧ t.fits es.size = true :=
  ⟨_, _, _, rfl, by decide +kernel, by decide +kernel, by decide +kernel, by decide +kernel⟩
theorem hp_sc8 : ∃ n, (hpF w.params).SetOf (intKind pg w) 84 isC8 n := by
  have hS : ∀ k, isC8 k = true ↔ k ∈ ([832, 833, 8234, 8235, 8236, 8237, 8206, 8207, 8238, 8298, 8299, 8300, 8301, 8302, 8303] : List Int) := fun k => by
    simp only [isC8, Bool.or_eq_true, Bool.and_eq_true, decide_eq_true_eq, List.mem_cons, List.not_mem_nil, or_false]
    omega
  have ho : (hpF w.params).get? 84 = some (o95 (w.params.followText "set-order")) := by kernel_rfl
  cases hb : w.params.followText "set-order" with
  | true =>
    rw [hb] at ho
    obtain ⟨es, ep, t, h1, h2, h3, h4, h5⟩ := sc8_t
    exact set_of _ ho ⟨rfl, rfl, rfl⟩ h1 h2 h3 hS h4 h5
  | false =>
    rw [hb] at ho
    obtain ⟨es, ep, t, h1, h2, h3, h4, h5⟩ := sc8_f
    exact set_of _ ho ⟨rfl, rfl, rfl⟩ h1 h2 h3 hS h4 h5
theorem sc9_t : ∃ es ep t, (o166 true).data = .set es ep t ∧ es.toList.all okE = true ∧ es.toList.map (fun e => intOf e.2) = (917505 :: (List.range 96).map fun (i : Nat) => 917536 + (i : Int)) ∧ decide (es.size < scanBound) = true ∧ t.fits es.size = true :=
  ⟨_, _, _, rfl, by decide +kernel, by decide +kernel, by decide +kernel, by decide +kernel⟩
theorem sc9_f : ∃ es ep t, (o166 false).data = .set es ep t ∧ es.toList.all okE = true ∧ es.toList.map (fun e => intOf e.2) = (917505 :: (List.range 96).map fun (i : Nat) => 917536 + (i : Int)) ∧ decide (es.size < scanBound) = true ∧ t.fits es.size = true :=
  ⟨_, _, _, rfl, by decide +kernel, by decide +kernel, by decide +kernel, by decide +kernel⟩
theorem hp_sc9 : ∃ n, (hpF w.params).SetOf (intKind pg w) 102 isC9 n := by
  have hS : ∀ k, isC9 k = true ↔ k ∈ ((917505 :: (List.range 96).map fun (i : Nat) => 917536 + (i : Int)) : List Int) := fun k => by
    rw [List.mem_cons, rng_mem]
    simp only [isC9, Bool.or_eq_true, Bool.and_eq_true, decide_eq_true_eq]
    omega
  have ho : (hpF w.params).get? 102 = some (o166 (w.params.followText "set-order")) := by kernel_rfl
  cases hb : w.params.followText "set-order" with
  | true =>
    rw [hb] at ho
    obtain ⟨es, ep, t, h1, h2, h3, h4, h5⟩ := sc9_t
    exact set_of _ ho ⟨rfl, rfl, rfl⟩ h1 h2 h3 hS h4 h5
  | false =>
    rw [hb] at ho
    obtain ⟨es, ep, t, h1, h2, h3, h4, h5⟩ := sc9_f
    exact set_of _ ho ⟨rfl, rfl, rfl⟩ h1 h2 h3 hS h4 h5
theorem base_hpF : Base w (hpF w.params) where
  ns := ⟨_, _, Heap.Ns.of_isNs (hp_ns w), Heap.Ns.of_isNs (hp_bs w), fun x a h => of_decide_eq_true (List.all_eq_true.mp (hp_tab w) _ h), fun x h => Option.isNone_iff_eq_none.mp (List.all_eq_true.mp (hp_free w) _ h), fun x h => of_decide_eq_true (List.all_eq_true.mp (hp_boot w) _ h)⟩
  lim := ⟨_, Heap.Ns.of_isNs (hp_cs w), hp_lim w⟩
  pv := hp_pv w
  b1 := hp_b1 w
  c4 := hp_c4 w
  c6 := hp_c6 w
  c7 := hp_c7 w
  c8 := hp_c8 w
  c9 := hp_c9 w
  rg := hp_rg w
  oc := hp_oc w
  pk := hp_pk w
  rd := hp_rd w
  ri := hp_ri w
  sb1 := hp_sb1 w
  sc6 := hp_sc6 w
  sc7 := hp_sc7 w
  sc8 := hp_sc8 w
  sc9 := hp_sc9 w
end
end Mine
end
noncomputable section
open PySem PySem.W PySem.Calls PyProof.Rows PySem.SeqAt
set_option maxRecDepth 100000
set_option maxHeartbeats 4000000
set_option linter.unusedVariables false
namespace Mine
theorem pg_open : opening pg = plainProg pg.main.scope.names := by kernel_rfl
theorem pg_fence (s : Shared) : fenceModules? pg s = some s := by kernel_rfl
theorem hp_size (w : World) : ((boot_heap w.params).isNs mainGlobals && (#[] : Array GenState).size == 0, (boot_heap w.params).objs.size, (boot_heap w.params).nsMap mainGlobals "__annotations__") = (true, 11, some (.ref 6)) := by kernel_rfl
theorem look_a (w : World) (os : OsState) : (staticsOk (importedModules pg.main.body) (boot_heap w.params) (hpF w.params) && namesBound pg (hpF w.params) && gensDone ⟨hpF w.params, #[], {}, 632, os⟩ && laidKept (boot_heap w.params) (hpF w.params)) = true := by kernel_rfl
theorem look_b (w : World) (os : OsState) : openSeen qV looseV (importedModules pg.main.body) (fun _ => true) true ⟨hpF w.params, #[], {}, 632, os⟩ = openGood qV looseV := by kernel_rfl
theorem left_of {M : Nat} (run : ∀ (w : World) (os : OsState), topRun treeTable pg w 11 (some (Value.ref 6)) M ⟨boot_heap w.params, #[], boot_drawn, boot_toks, os⟩ (topStub pg) = some ⟨hpF w.params, #[], {}, 632, os⟩) (le : Nat.ble M 13090 = true) :
    LeftO pg qV looseV (fun _ => true) (fun s => s.heap) (fun w => hpF w.params) 13090 :=
  LeftO.of_pieces (H₀ := boot_heap) (H₁ := hpF) (gs₀ := #[]) (gs₁ := #[]) (d₀ := boot_drawn) (d₁ := {}) (k₀ := boot_toks) (k₁ := 632) (m₀ := 11) (ann := some (Value.ref 6)) (M := M)
    (boot_open pg_open (by decide +kernel) pg_fence) hp_size run le fun w => funext fun os => Prod.ext (look_a w os) (Prod.ext (look_b w os) rfl)
theorem holds_of {M : Nat} (run : ∀ (w : World) (os : OsState), topRun treeTable pg w 11 (some (Value.ref 6)) M ⟨boot_heap w.params, #[], boot_drawn, boot_toks, os⟩ (topStub pg) = some ⟨hpF w.params, #[], {}, 632, os⟩) (le : Nat.ble M 13090 = true) :
    PySem.Challenge.rw_pe0023_01.Holds := joined hpF (left_of run le) base_hpF
end Mine
end
set_option maxRecDepth 100000 in
set_option maxHeartbeats 8000000 in
theorem PySem.Challenge.cw_pe0023_01_holds : PySem.Challenge.rw_pe0023_01.Holds := by
  exact Mine.holds_of Mine.pcRun (by decide +kernel)

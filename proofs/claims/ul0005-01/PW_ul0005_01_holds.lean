import PyProof.Rows.All
import Wide.All
import OpenK.AllK
import Wide.FinOn
import PySem.Challenge.RW_ul0005_01
open PySem PySem.W PySem.Spec PySem.Calls PyProof.Rows PyProof.V
set_option Elab.async false
set_option maxRecDepth 100000
set_option maxHeartbeats 8000000
namespace Mine
-- the library's head is asked for its fragment (hd.heap_1) alone here: the head itself is shown in topp
theorem stage0 {l : OpenLaw} (hc : l.Holds) (_h : l.Holds → l.row.Holds) : l.Holds := hc
theorem stage1 {r : OpenRow} (H : Hook) (_e : H = H) (_hw : r.toRowW.promised) (hc : r.Holds) : r.Holds := hc
section
local macro_rules | `(tactic| o_law) => `(tactic| (refine stage0 ?hc fun hh => ?_; rotate_left))
local macro_rules | `(tactic| o_head $H) => `(tactic| (refine stage1 $H rfl ?hw ?_; rotate_left; exact And.right (by assumption)))
open_top hd for PySem.Challenge.rw_ul0005_01
end
set_option maxHeartbeats 3000000
-- kit
/-- what a call of a def of the text needs of the caller, and what it gives back -/
abbrev Ctr (w : World) (f : Addr) (news : List (Addr × Obj)) (vs : List Value) (dpN unN : Nat) (Ret : Nat → (Value → List (Addr × Obj) → Prop) → Prop) : Prop :=
  ∀ {p : Program} {loose : List Str} {mean : ExcName → Option Value} {mg mb : Str → Option Value} {dp un : Nat} {gd : Option (List Code)} {cn : Str} {cs : Scope} {a : Addr} {ccd : Value} {cl : List (Str × Addr)} {outer : List Env} {A₀ : Around} {base h₀ : Heap} {L : Addr} {m : Str → Option Value} {s : Shared} {Q E : Value → Shared → Prop},
    Below A₀ base outer h₀ → Fr h₀ L s.heap m → (hd.heap_1 w.params).In h₀ → News h₀ L s.heap news → Top p loose mean mg mb h₀ → cs.kind = .function → dp + dpN < recursionLimit → un + unN < cLine → @LT.lt Nat _ 51 L →
    Ret L (fun v news' => ∀ h' tk', Fr h₀ L h' m → News h₀ L h' news' → Q v { s with heap := h', toks := tk' }) →
    wpAny (model PySem.Challenge.rw_ul0005_01.row.prog w) (ktrTop dp un gd cn cs L a ccd cl outer) (call (.ref f) vs) Q E s
theorem news_more {h₀ h : Heap} {L : Addr} {news : List (Addr × Obj)} {p : Addr × Obj} (N : News h₀ L h news) (hp : p ∈ news) : News h₀ L h (p :: news) := fun q hq => by
  rcases List.mem_cons.mp hq with rfl | hq
  · exact N _ hp
  · exact N _ hq
theorem news_sub {h₀ h : Heap} {L : Addr} {news news' : List (Addr × Obj)} (N : News h₀ L h news) (hs : ∀ p ∈ news', p ∈ news) : News h₀ L h news' := fun q hq => N q (hs q hq)
/-- a goal at which the walk is to stand still -/
def Halt (P : Prop) : Prop := P
theorem Halt.of {P : Prop} (h : Halt P) : P := h
/-- all of the ledger's rest lies below the frame -/
structure Lo (L : Nat) (news : List (Addr × Obj)) : Prop where
  lt : ∀ p ∈ news, p.1 < L
theorem Lo.ne {L d : Nat} {news : List (Addr × Obj)} (x : Lo L news) (h : L ≤ d) : ∀ p ∈ news, p.1 ≠ d := fun p hp => Nat.ne_of_lt (Nat.lt_of_lt_of_le (x.lt p hp) h)
theorem Lo.tail {L : Nat} {p : Addr × Obj} {news : List (Addr × Obj)} (x : Lo L (p :: news)) : Lo L news := ⟨fun q hq => x.lt q (.tail _ hq)⟩
theorem Lo.ne1 {L d : Nat} {p : Addr × Obj} {news : List (Addr × Obj)} (x : Lo L (p :: news)) (h : L ≤ d) : ∀ p ∈ news, p.1 ≠ d := x.tail.ne h
theorem Lo.ne2 {L d : Nat} {p q : Addr × Obj} {news : List (Addr × Obj)} (x : Lo L (p :: q :: news)) (h : L ≤ d) : ∀ p ∈ news, p.1 ≠ d := x.tail.tail.ne h
theorem Lo.ne3 {L d : Nat} {p q r : Addr × Obj} {news : List (Addr × Obj)} (x : Lo L (p :: q :: r :: news)) (h : L ≤ d) : ∀ p ∈ news, p.1 ≠ d := x.tail.tail.tail.ne h
theorem lt_frames {h₀ g h : Heap} {L L' : Addr} {m m' : Str → Option Value} (FG : Fr h₀ L g m) (F : Fr g L' h m') : @LT.lt Nat _ L L' := Nat.lt_of_lt_of_le FG.ns.lt F.above
theorem allLt_mem {d : Addr} {news : List (Addr × Obj)} (h : AllLt d news) : ∀ p ∈ news, p.1 < d := by
  induction news with
  | nil => intro p hp; cases hp
  | cons q r ih =>
    intro p hp
    rcases List.mem_cons.mp hp with e | hp
    · rw [e]; exact h.1
    · exact ih h.2 p hp
theorem allLt_ne {d : Addr} {news : List (Addr × Obj)} (h : AllLt d news) : ∀ p ∈ news, p.1 ≠ d := fun p hp => Nat.ne_of_lt (allLt_mem h p hp)
theorem rep_foldl (v : Value) : ∀ k : Nat, ∀ a : Array Value, List.foldl (fun x1 x2 => x1 ++ x2) a (List.replicate k #[v]) = a ++ (List.replicate k v).toArray
  | 0, a => by simp
  | k + 1, a => by
    rw [List.replicate_succ, List.foldl_cons, rep_foldl v k]
    apply Array.ext'
    simp [List.replicate_succ]
theorem ints_rep (t : Tok) : ∀ k : Nat, IntsAre (List.replicate k (.int 0 t)) (List.replicate k 0)
  | 0 => .nil
  | k + 1 => .cons _ _ (ints_rep t k)
theorem zeros_rule {w : World} {prog : Program} {A : Around} {h₀ : Heap} {L : Addr} {m : Str → Option Value} {s : Shared} {news : List (Addr × Obj)} {E : Value → Shared → Prop} {l : Addr} {t : Tok} {k : Nat} {x : Int} {u : Tok} {Q : Value → Shared → Prop}
    (F : Fr h₀ L s.heap m) (N : News h₀ L s.heap news) (hl : (l, listOf #[.int 0 t] k) ∈ news) (hlo : 0 ≤ x) (hhi : x ≤ 1000)
    (h : ∀ D h' vs, Fr h₀ L h' m → News h₀ L h' ((D, listOf vs.toArray 0) :: news) → (∀ p ∈ news, p.1 < D) → IntsAre vs (List.replicate x.toNat 0) → Q (.ref D) { s with heap := h' }) :
    wpAny (model prog w) A (binaryOp .Mult (.ref l) (.int x u)) Q E s := by
  refine mul_list F N (N _ hl).1 (by omega) (by omega) (by simp; omega) fun h' F' N' => ?_
  have e : (if (#[Value.int 0 t] : Array Value).isEmpty = true then 0 else x.toNat) = x.toNat := by simp
  rw [e, rep_foldl] at N'
  simp only [Array.empty_append] at N'
  exact h _ h' _ F' N' (fun p hp => Heap.lt_size (N p hp).1) (ints_rep t _)
section
variable {prog : Program} {w : World} {A A₀ : Around} {s : Shared} {K : Frag} {L : Addr} {h₀ base : Heap} {m mg mb : Str → Option Value} {news : List (Addr × Obj)} {p : Program} {loose : List Str} {mean : ExcName → Option Value}
theorem enter_def {env : Env} {outer : List Env} {R : Result → Shared → Prop} {name qual : Str} {params : Arguments} {body : List Stmt} {scope : Scope} {dV kV doc pm cdv ct oc : Value} {an od : Option Addr} {osl : Array (Option Value)} {f : Addr} {args : Args} {binds : List (Str × Value)}
    (B : Below A₀ base outer h₀) (F : Fr h₀ L s.heap m) (X₀ : K.In h₀) (N : News h₀ L s.heap news) (T : Top p loose mean mg mb h₀) (hA : A.frames = some (env :: outer)) (hf : env.frame = some L) (hke : env.scope.kind = .function)
    (ho : K.lookup f = some ⟨oc, od, .func (fnOf name qual params body scope dV kV doc pm an cdv ct), osl⟩) (hcd : codeIn K cdv qual = true) (hroom : A.depth < recursionLimit)
    (hbind : BindsTo s (fnOf name qual params body scope dV kV doc pm an cdv ct) args binds) (hloc : ∀ y ∈ binds, scope.names.lookup y.1 = some .local)
    (h : ∀ g L' h₁, Fr h₀ L g m → Fr g L' h₁ (fun y => binds.reverse.lookup y) → News g L' h₁ news → Below A base (env :: outer) g → K.In g → Top p loose mean mg mb g → Lo L' news →
      wpAny (model prog w) (A.deeper (envOf qual scope L' f cdv)) (execs body (envOf qual scope L' f cdv))
        (fun fl s' => LeaveK h₀ L m g R (match fl with | .ret v => v | _ => .none) s')
        (fun e s' => wpAny (model prog w) (A.deeper (envOf qual scope L' f cdv)) (leaving (envOf qual scope L' f cdv) e) (fun _ s'' => R (.error e) s'') (fun e' s'' => R (.error e') s'') s')
        { s with heap := h₁, toks := s.toks + binds.length })
    (hco : scope.isCoroutine = false) (hgen : scope.isGenerator = false) (hk : scope.kind = .function)
    (hcell : ∀ x ∈ scope.names, x.2 ≠ .cell) : codeAny (model prog w) A (.call (.ref f) args) R s :=
  callX_plain (cl := []) B F N T.nolimit hA hf hke ((X₀.keeps F.keep) _ _ ho) rfl (codeRec_of (X₀.keeps F.keep) hcd) hroom hbind hloc (fun g L' h₁ FG F' N' B' st lo => h g L' h₁ FG F' N' B' (X₀.keeps st) (T.keeps st) ⟨lo⟩) hcell hco hgen hk
theorem enter_nest {env : Env} {outer : List Env} {R : Result → Shared → Prop} {name qual : Str} {params : Arguments} {body : List Stmt} {scope : Scope} {cl : List (Str × Addr)} {doc pm ctv : Value} {c' : Addr} {f : Addr} {args : Args} {binds : List (Str × Value)}
    (B : Below A₀ base outer h₀) (F : Fr h₀ L s.heap m) (X₀ : K.In h₀) (N : News h₀ L s.heap news) (T : Top p loose mean mg mb h₀) (hA : A.frames = some (env :: outer)) (hf : env.frame = some L) (hke : env.scope.kind = .function)
    (ho : (f, fnMade name qual params body scope cl doc pm c' ctv) ∈ news) (hcd : s.heap.CodeRec (.ref c') qual) (hroom : A.depth < recursionLimit)
    (hbind : BindsTo s (fnX name qual params body scope cl .none .none doc pm none (.ref c') ctv) args binds) (hloc : ∀ y ∈ binds, scope.names.lookup y.1 = some .local)
    (h : ∀ g L' h₁, Fr h₀ L g m → Fr g L' h₁ (fun y => binds.reverse.lookup y) → News g L' h₁ news → Below A base (env :: outer) g → K.In g → Top p loose mean mg mb g → Lo L' news →
      wpAny (model prog w) (A.deeper (envX qual scope L' f (.ref c') cl)) (execs body (envX qual scope L' f (.ref c') cl))
        (fun fl s' => LeaveK h₀ L m g R (match fl with | .ret v => v | _ => .none) s')
        (fun e s' => wpAny (model prog w) (A.deeper (envX qual scope L' f (.ref c') cl)) (leaving (envX qual scope L' f (.ref c') cl) e) (fun _ s'' => R (.error e) s'') (fun e' s'' => R (.error e') s'') s')
        { s with heap := h₁, toks := s.toks + binds.length })
    (hco : scope.isCoroutine = false) (hgen : scope.isGenerator = false) (hk : scope.kind = .function)
    (hcell : ∀ x ∈ scope.names, x.2 ≠ .cell) : codeAny (model prog w) A (.call (.ref f) args) R s :=
  callX_plain (cl := cl) B F N T.nolimit hA hf hke (N _ ho).1 rfl hcd hroom hbind hloc (fun g L' h₁ FG F' N' B' st lo => h g L' h₁ FG F' N' B' (X₀.keeps st) (T.keeps st) ⟨lo⟩) hcell hco hgen hk
end
theorem zeros_to {w : World} {prog : Program} {A : Around} {h₀ : Heap} {L : Addr} {m : Str → Option Value} {s : Shared} {news : List (Addr × Obj)} {E : Value → Shared → Prop} {l : Addr} {t : Tok} {k d : Nat} {x : Int} {u : Tok} {Q : Value → Shared → Prop}
    (F : Fr h₀ L s.heap m) (N : News h₀ L s.heap news) (hl : (l, listOf #[.int 0 t] k) ∈ news) (e : x = (d : Int)) (hd : d ≤ 1000)
    (h : ∀ D h' vs, Fr h₀ L h' m → News h₀ L h' ((D, listOf vs.toArray 0) :: news) → (∀ p ∈ news, p.1 < D) → IntsAre vs (List.replicate d 0) → Q (.ref D) { s with heap := h' }) :
    wpAny (model prog w) A (binaryOp .Mult (.ref l) (.int x u)) Q E s := by
  subst e
  exact zeros_rule F N hl (by omega) (by omega) (by rw [Int.toNat_natCast]; exact h)
theorem len_to {w : World} {prog : Program} {A : Around} {h₀ : Heap} {L : Addr} {s : Shared} {news : List (Addr × Obj)} {E : Value → Shared → Prop} {l : Addr} {k d : Nat} {vs : List Value} {ns : List Int} {Q : Value → Shared → Prop}
    (N : News h₀ L s.heap news) (hl : (l, listOf vs.toArray k) ∈ news) (hi : IntsAre vs ns) (e : ns.length = d) (hd : d < 2 ^ 62)
    (h : ∀ t tk, Q (.int (d : Int) t) { s with toks := tk }) : wpAny (model prog w) A (call (.builtin "len") [.ref l]) Q E s := by
  refine len_ints_fit (News.isList N hl) hi (by omega) ?_
  rw [e]; exact h _ _
theorem append_to {w : World} {prog : Program} {A : Around} {h₀ : Heap} {L : Addr} {m : Str → Option Value} {s : Shared} {news news' : List (Addr × Obj)} {E : Value → Shared → Prop} {D : Addr} {n : Nat} {vs : List Value} {x : Value} {Q : Value → Shared → Prop}
    (F : Fr h₀ L s.heap m) (N : News h₀ L s.heap news) (U : Upd D (listOf vs.toArray n) (listOf (vs ++ [x]).toArray (n + 1)) news news') (hz : vs.length ≤ 1000)
    (h : ∀ h', Fr h₀ L h' m → News h₀ L h' news' → Q .none { s with heap := h' }) : wpAny (model prog w) A (call (.builtin "list.append") [.ref D, x]) Q E s := by
  have e : vs.toArray.push x = (vs ++ [x]).toArray := by simp
  refine append_K F N (its := vs.toArray) (n := n) (x := x) (by rw [e]; exact U) h (by rw [List.size_toArray, sizeLine_eq]; omega)
theorem news_name0 {h₀ h : Heap} {L : Addr} {p : Addr × Obj} {r : List (Addr × Obj)} {G : Prop} (_N : News h₀ L h (p :: r)) (k : ∀ a, a = p.1 → G) : G := k _ rfl
theorem news_name1 {h₀ h : Heap} {L : Addr} {o p : Addr × Obj} {r : List (Addr × Obj)} {G : Prop} (_N : News h₀ L h (o :: p :: r)) (k : ∀ a, a = p.1 → G) : G := k _ rfl
theorem news_pull1 {h₀ h : Heap} {L : Addr} {a p : Addr × Obj} {r : List (Addr × Obj)} (N : News h₀ L h (a :: p :: r)) : News h₀ L h (p :: a :: r) := news_sub N fun q hq => by
  simp only [List.mem_cons] at hq ⊢
  rcases hq with h | h | h
  · exact .inr (.inl h)
  · exact .inl h
  · exact .inr (.inr h)
theorem news_pull2 {h₀ h : Heap} {L : Addr} {a b p : Addr × Obj} {r : List (Addr × Obj)} (N : News h₀ L h (a :: b :: p :: r)) : News h₀ L h (p :: a :: b :: r) := news_sub N fun q hq => by
  simp only [List.mem_cons] at hq ⊢
  rcases hq with h | h | h | h
  · exact .inr (.inr (.inl h))
  · exact .inl h
  · exact .inr (.inl h)
  · exact .inr (.inr (.inr h))
section
variable {prog : Program} {w : World} {A : Around} {E : Value → Shared → Prop} {s : Shared} {a n b r : Int} {t u : Tok} {Q : Value → Shared → Prop}
theorem rshift_to (hn : 0 ≤ n) (e : a.fdiv (2 ^ n.toNat) = r) (h : Q (.int r s.toks) { s with toks := s.toks + 1 }) : wpAny (model prog w) A (binaryOp .RShift (.int a t) (.int n u)) Q E s :=
  rshift_int hn (by rw [e]; exact h)
theorem lshift_to (hn : 0 ≤ n) (hb : a.natAbs < 2 ^ 65536) (hn2 : n ≤ 65536) (e : a * 2 ^ n.toNat = r) (h : Q (.int r s.toks) { s with toks := s.toks + 1 }) : wpAny (model prog w) A (binaryOp .LShift (.int a t) (.int n u)) Q E s :=
  lshift_int hn (by have := (intBits_le_iff (m := 65536) (x := a)).mpr hb; omega) (by rw [e]; exact h)
theorem mul_to (hb : a.natAbs < 2 ^ 64) (e : a * b = r) (h : Q (.int r s.toks) { s with toks := s.toks + 1 }) : wpAny (model prog w) A (binaryOp .Mult (.int a t) (.int b u)) Q E s :=
  mul_int (by rw [e]; exact h) (IntMulOk.of_left (intBits_le_iff.mpr hb))
theorem xor_to (e : Builtin.bitXor a b = r) (h : Q (.int r s.toks) { s with toks := s.toks + 1 }) : wpAny (model prog w) A (binaryOp .BitXor (.int a t) (.int b u)) Q E s :=
  xor_int (by rw [e]; exact h)
theorem pow_to (hn : 0 ≤ n) (hn2 : n ≤ 1000) (ha : a.natAbs < 2 ^ 64) (e : a ^ n.toNat = r) (h : Q (.int r s.toks) { s with toks := s.toks + 1 }) : wpAny (model prog w) A (binaryOp .Pow (.int a t) (.int n u)) Q E s :=
  pow_int_small hn (by omega) ha (by rw [e]; exact h)
end
local macro_rules | `(tactic| walk_at "pyIter ref") => `(tactic| k_dflt (k_extra "my iter"))
local macro_rules | `(tactic| walk_at "call ref") => `(tactic| k_dflt (k_extra "my call"))
local macro_rules | `(tactic| k_all) => `(tactic| first | assumption | exact allLt_ne (by assumption) | exact allLt_ne (And.right (by assumption)) | exact allLt_ne (And.right (And.right (by assumption))) | exact allLt_ne (And.right (And.right (And.right (by assumption)))) | exact allLt_ne (And.right (And.right (And.right (And.right (by assumption))))) | exact allLt_ne (And.right (And.right (And.right (And.right (And.right (by assumption)))))) | exact Lo.ne (by assumption) (by omega) | exact Lo.ne1 (by assumption) (by omega) | exact Lo.ne2 (by assumption) (by omega) | exact Lo.ne3 (by assumption) (by omega))
local macro_rules | `(tactic| walk_at "binaryOp Mult ref int") => `(tactic| k_dflt (k_extra "my zeros"))
local macro_rules | `(tactic| walk_at "call builtin:len") => `(tactic| k_dflt (k_extra "my len"))
local macro_rules | `(tactic| walk_at "binaryOp RShift int int") => `(tactic| k_dflt (k_extra "my rshift"))
local macro_rules | `(tactic| walk_at "binaryOp LShift int int") => `(tactic| k_dflt (k_extra "my lshift"))
local macro_rules | `(tactic| walk_at "binaryOp Mult int int") => `(tactic| k_dflt (k_extra "my mult"))
local macro_rules | `(tactic| walk_at "binaryOp BitXor int int") => `(tactic| k_dflt (k_extra "my xor"))
local macro_rules | `(tactic| walk_at "binaryOp Pow int int") => `(tactic| k_dflt (k_extra "my pow"))
local macro_rules | `(tactic| k_mem) => `(tactic| assumption)
local macro_rules | `(tactic| walk_at "MINE tailmem") => `(tactic| first | assumption | (refine List.Mem.tail _ ?_; walk_at "MINE tailmem"))
local macro_rules | `(tactic| walk_at "call builtin:divmod") => `(tactic| k_dflt (k_extra "my divmod"))
local macro_rules | `(tactic| walk_at "call builtin:list.append") => `(tactic| k_dflt (k_extra "my append"))
local macro_rules | `(tactic| walk_at "call builtin:list.reverse") => `(tactic| k_dflt (k_extra "my reverse"))
local macro_rules | `(tactic| walk_at "exec For Name Name cons nil") => `(tactic| k_dflt (k_extra "my for2"))
local macro_rules | `(tactic| walk_at "exec For Name Call cons nil") => `(tactic| k_dflt (k_extra "my for"))
local macro_rules | `(tactic| walk_at "exec Raise some none") => `(tactic| k_dflt (k_extra "my raise"))
local macro_rules | `(tactic| walk_at "storeName") => `(tactic| k_dflt (k_extra "my store"))
-- plain1
/-- k figures of X to the base 2 ^ M, the lowest first -/
def dg (M : Nat) : Nat → Nat → List Int
  | 0, _ => []
  | k + 1, X => ((X % 2 ^ M : Nat) : Int) :: dg M k (X / 2 ^ M)
theorem dg_len (M : Nat) : ∀ k X, (dg M k X).length = k
  | 0, _ => rfl
  | k + 1, X => by simp [dg, dg_len M k]
theorem dg_mod (M : Nat) : ∀ k X, dg M k (X % 2 ^ (M * k)) = dg M k X
  | 0, _ => rfl
  | k + 1, X => by
    have e1 : X % 2 ^ (M * (k + 1)) % 2 ^ M = X % 2 ^ M := by
      rw [Nat.mod_mod_of_dvd]
      exact Nat.pow_dvd_pow 2 (by rw [Nat.mul_succ]; omega)
    have e2 : X % 2 ^ (M * (k + 1)) / 2 ^ M = X / 2 ^ M % 2 ^ (M * k) := by
      rw [Nat.mul_succ, Nat.add_comm, Nat.pow_add, Nat.mod_mul_right_div_self]
    simp only [dg, e1, e2, dg_mod M k]
theorem dg_add (M : Nat) : ∀ j k X, dg M (j + k) X = dg M j X ++ dg M k (X / 2 ^ (M * j))
  | 0, k, X => by simp [dg]
  | j + 1, k, X => by
    have e : j + 1 + k = (j + k) + 1 := by omega
    rw [e]
    simp only [dg, dg_add M j k, List.cons_append]
    rw [Nat.div_div_eq_div_mul, ← Nat.pow_add]
    congr 4
    rw [Nat.mul_succ, Nat.add_comm]
theorem dg_one (M X : Nat) (h : X < 2 ^ M) : dg M 1 X = [(X : Int)] := by simp [dg, Nat.mod_eq_of_lt h]
theorem land_high (X s : Nat) : X &&& (X / 2 ^ s * 2 ^ s) = X / 2 ^ s * 2 ^ s := by
  have e : X / 2 ^ s * 2 ^ s = (X >>> s) <<< s := by rw [Nat.shiftLeft_eq, Nat.shiftRight_eq_div_pow]
  rw [e]
  apply Nat.eq_of_testBit_eq
  intro i
  rw [Nat.testBit_and, Nat.testBit_shiftLeft, Nat.testBit_shiftRight]
  by_cases h : s ≤ i
  · have : s + (i - s) = i := by omega
    simp [h, this]
  · simp [h]
theorem fdiv_cast (X s : Nat) : ((X : Nat) : Int).fdiv (2 ^ s) = ((X / 2 ^ s : Nat) : Int) := by
  have h2 : ((2 : Int) ^ s) = ((2 ^ s : Nat) : Int) := by norm_cast
  rw [h2, Int.fdiv_eq_ediv_of_nonneg _ (Int.natCast_nonneg _)]
  norm_cast
theorem xor_low (X s : Nat) : Builtin.bitXor (X : Int) (((X / 2 ^ s : Nat) : Int) * 2 ^ s) = ((X % 2 ^ s : Nat) : Int) := by
  have h2 : (((X / 2 ^ s : Nat) : Int) * 2 ^ s) = ((X / 2 ^ s * 2 ^ s : Nat) : Int) := by norm_cast
  rw [h2, bitXor_and]
  have h3 : Builtin.bitAnd (X : Int) ((X / 2 ^ s * 2 ^ s : Nat) : Int) = ((X &&& (X / 2 ^ s * 2 ^ s) : Nat) : Int) := by
    first | rfl | (unfold Builtin.bitAnd; simp; done) | (unfold Builtin.bitAnd; rfl)
  rw [h3, land_high]
  have := Nat.div_add_mod X (2 ^ s)
  rw [Nat.mul_comm] at this
  omega
-- plain2
/-- bits of X -/
def bl (X : Nat) : Nat := if X = 0 then 0 else X.log2 + 1
theorem bl_bits (X : Nat) : Builtin.Int.intBits (X : Int) = bl X := by
  unfold Builtin.Int.intBits bl
  by_cases h : X = 0
  · subst h; rfl
  · have h2 : ((X : Int) == 0) = false := by
      rw [beq_eq_false_iff_ne]; omega
    rw [h2, if_neg h]
    simp
theorem lt_bl (X : Nat) : X < 2 ^ bl X := by
  have h := (intBits_le_iff (m := bl X) (x := (X : Int))).mp (by rw [bl_bits]; exact Nat.le_refl _)
  simpa using h
theorem bl_le (X m : Nat) (h : X < 2 ^ m) : bl X ≤ m := by
  have := (intBits_le_iff (m := m) (x := (X : Int))).mpr (by simpa using h)
  rwa [bl_bits] at this
/-- as many figures to the base 2 ^ M as X has -/
def nlen (M X : Nat) : Nat := (bl X + M - 1) / M
theorem nlen_lt (M X : Nat) (hM : 1 ≤ M) : X < 2 ^ (M * nlen M X) := by
  refine Nat.lt_of_lt_of_le (lt_bl X) (Nat.pow_le_pow_right (by decide) ?_)
  unfold nlen
  have h := Nat.div_add_mod (bl X + M - 1) M
  have h2 := Nat.mod_lt (bl X + M - 1) (show 0 < M by omega)
  omega
theorem nlen_le (M X m : Nat) (hM : 1 ≤ M) (h : X < 2 ^ m) : nlen M X ≤ m := by
  have h1 := bl_le X m h
  unfold nlen
  have h2 : (bl X + M - 1) / M ≤ bl X := by
    rw [Nat.div_le_iff_le_mul_add_pred (by omega)]
    have := Nat.mul_le_mul (Nat.le_refl (bl X)) hM
    have e : M * bl X = bl X * M := Nat.mul_comm _ _
    omega
  omega
theorem nlen_zero (M : Nat) (hM : 1 ≤ M) : nlen M 0 = 0 := by
  unfold nlen bl
  rw [if_pos rfl]
  exact Nat.div_eq_of_lt (by omega)
theorem nlen_pos (M X : Nat) (hM : 1 ≤ M) (hX : X ≠ 0) : 1 ≤ nlen M X := by
  unfold nlen bl
  rw [if_neg hX, Nat.le_div_iff_mul_le (by omega)]
  omega
theorem nlen_int (M X : Nat) (hM : 1 ≤ M) : ((Builtin.Int.intBits (X : Int) : Int) + (M : Int) - 1).fdiv (M : Int) = ((nlen M X : Nat) : Int) := by
  rw [bl_bits, Int.fdiv_eq_ediv_of_nonneg _ (Int.natCast_nonneg _)]
  unfold nlen
  have e : (bl X : Int) + (M : Int) - 1 = ((bl X + M - 1 : Nat) : Int) := by omega
  rw [e]
  norm_cast
theorem rep_one (d : Nat) : (List.replicate d (0 : Int)).length = d := List.length_replicate
-- plain3
/-- the number that figures to the base 2 ^ M make, the lowest first -/
def dv (M : Nat) : List Int → Int
  | [] => 0
  | d :: r => d + 2 ^ M * dv M r
theorem dv_append (M : Nat) : ∀ xs ys : List Int, dv M (xs ++ ys) = dv M xs + 2 ^ (M * xs.length) * dv M ys
  | [], ys => by simp [dv]
  | d :: r, ys => by
    simp only [List.cons_append, dv, dv_append M r ys, List.length_cons, Nat.mul_succ]
    rw [Int.pow_add, Int.mul_add, ← Int.mul_assoc, Int.add_assoc, Int.mul_comm (2 ^ (M * r.length)) (2 ^ M)]
theorem dv_one (M : Nat) (d : Int) : dv M [d] = d := by simp [dv]
theorem dv_bound (M : Nat) (hM : M ≤ 64) : ∀ ds : List Int, (∀ d ∈ ds, d.natAbs < 2 ^ 64) → (dv M ds).natAbs < 2 ^ (65 * ds.length + 1)
  | [], _ => by simp [dv]
  | d :: r, h => by
    have h1 := h d (.head _)
    have h2 := dv_bound M hM r fun x hx => h x (.tail _ hx)
    simp only [dv, List.length_cons]
    have h3 : (d + 2 ^ M * dv M r).natAbs ≤ d.natAbs + 2 ^ M * (dv M r).natAbs := by
      refine Nat.le_trans (Int.natAbs_add_le _ _) ?_
      rw [Int.natAbs_mul]
      have : ((2 : Int) ^ M).natAbs = 2 ^ M := by rw [Int.natAbs_pow]; rfl
      rw [this]
      exact Nat.le_refl _
    have h4 : 2 ^ M * (dv M r).natAbs ≤ 2 ^ 64 * (2 ^ (65 * r.length + 1) - 1) :=
      Nat.mul_le_mul (Nat.pow_le_pow_right (by decide) hM) (by omega)
    have h5 : (2 : Nat) ^ (65 * (r.length + 1) + 1) = 2 ^ 65 * 2 ^ (65 * r.length + 1) := by rw [← Nat.pow_add]; congr 1; omega
    have h6 : 1 ≤ (2 : Nat) ^ (65 * r.length + 1) := Nat.one_le_two_pow
    rw [h5]
    generalize (2 : Nat) ^ (65 * r.length + 1) = z at *
    omega
theorem dv_small (M : Nat) (hM : M ≤ 64) (ds : List Int) (hd : ∀ d ∈ ds, d.natAbs < 2 ^ 64) (hl : ds.length ≤ 64) : (dv M ds).natAbs < 2 ^ 65536 :=
  Nat.lt_of_lt_of_le (dv_bound M hM ds hd) (Nat.pow_le_pow_right (by decide) (by omega))
theorem cut_two (ds : List Int) (l j k : Nat) (hj : j ≤ k) : (ds.drop l).take k = (ds.drop l).take j ++ (ds.drop (l + j)).take (k - j) := by
  have e : k = j + (k - j) := by omega
  conv => lhs; rw [e, List.take_add, List.drop_drop]
theorem cut_len (ds : List Int) (l k : Nat) (h : l + k ≤ ds.length) : ((ds.drop l).take k).length = k := by
  rw [List.length_take, List.length_drop]; omega
theorem cut_one (ds : List Int) (l : Nat) (h : l + 1 ≤ ds.length) : (ds.drop l).take 1 = [ds.getD l 0] := by
  have hl : l < ds.length := by omega
  have e : ds.drop l = ds[l] :: ds.drop (l + 1) := List.drop_eq_getElem_cons hl
  rw [e, List.take_succ_cons, List.take_zero, List.getD_eq_getElem?_getD, List.getElem?_eq_getElem hl]
  rfl
theorem cut_mem {ds : List Int} {l k : Nat} {d : Int} (h : d ∈ (ds.drop l).take k) : d ∈ ds := List.mem_of_mem_drop (List.mem_of_mem_take h)
-- plain4
theorem dg_mem (M : Nat) : ∀ (k X : Nat) (z : Int), z ∈ dg M k X → 0 ≤ z ∧ z < 2 ^ M
  | 0, _, _, h => nomatch h
  | k + 1, X, z, h => by
    rcases List.mem_cons.mp h with rfl | h
    · refine ⟨Int.natCast_nonneg _, ?_⟩
      have := Nat.mod_lt X (Nat.two_pow_pos M)
      have e : ((2 : Int) ^ M) = ((2 ^ M : Nat) : Int) := by norm_cast
      rw [e]; exact Int.ofNat_lt.mpr this
    · exact dg_mem M k _ z h
theorem dv_dg (M : Nat) : ∀ (k X : Nat), X < 2 ^ (M * k) → dv M (dg M k X) = (X : Int)
  | 0, X, h => by
    have : X = 0 := by simpa using h
    subst this; rfl
  | k + 1, X, h => by
    have h2 : X / 2 ^ M < 2 ^ (M * k) := by
      rw [Nat.div_lt_iff_lt_mul (Nat.two_pow_pos _), ← Nat.pow_add]
      exact h
    simp only [dg, dv, dv_dg M k _ h2]
    have := Nat.mod_add_div X (2 ^ M)
    have e : ((2 : Int) ^ M) = ((2 ^ M : Nat) : Int) := by norm_cast
    rw [e]
    exact_mod_cast this
theorem two_pow_cast (M : Nat) : ((2 : Int) ^ M) = ((2 ^ M : Nat) : Int) := by norm_cast
theorem long_step {r z : Int} {M B : Nat} (h0 : 0 ≤ r) (h1 : r < (B : Int)) (z0 : 0 ≤ z) (z1 : z < 2 ^ M) (hB : B < 2 ^ 48) (hM : M ≤ 48) :
    0 ≤ r * 2 ^ M + z ∧ r * 2 ^ M + z < 2 ^ 1000 ∧ 0 ≤ (r * 2 ^ M + z).fdiv B ∧ (r * 2 ^ M + z).fdiv B < 2 ^ M ∧ 0 ≤ (r * 2 ^ M + z).fmod B ∧ (r * 2 ^ M + z).fmod B < (B : Int) ∧ (r * 2 ^ M + z).fdiv B * (B : Int) + (r * 2 ^ M + z).fmod B = r * 2 ^ M + z := by
  obtain ⟨R, rfl⟩ := Int.eq_ofNat_of_zero_le h0
  obtain ⟨Z, rfl⟩ := Int.eq_ofNat_of_zero_le z0
  have e := two_pow_cast M
  have hBp : 0 < B := by omega
  have eA : (R : Int) * 2 ^ M + (Z : Int) = ((R * 2 ^ M + Z : Nat) : Int) := by rw [e]; norm_cast
  have hR : R < B := by omega
  have hZ : Z < 2 ^ M := by rw [e] at z1; exact Int.ofNat_lt.mp z1
  have hlt : R * 2 ^ M + Z < B * 2 ^ M := by
    have := Nat.mul_le_mul (show R + 1 ≤ B by omega) (Nat.le_refl (2 ^ M))
    rw [Nat.succ_mul] at this
    omega
  have hpow : (2 : Nat) ^ M ≤ 2 ^ 48 := Nat.pow_le_pow_right (by decide) hM
  have hbig : B * 2 ^ M ≤ 2 ^ 48 * 2 ^ 48 := Nat.mul_le_mul (by omega) hpow
  rw [eA, e, Int.fdiv_eq_ediv_of_nonneg _ (Int.natCast_nonneg _), Int.fmod_eq_emod_of_nonneg _ (Int.natCast_nonneg _)]
  have hq : (R * 2 ^ M + Z) / B < 2 ^ M := by
    rw [Nat.div_lt_iff_lt_mul hBp, Nat.mul_comm (2 ^ M) B]; exact hlt
  have hr := Nat.mod_lt (R * 2 ^ M + Z) hBp
  have hdm := Nat.div_add_mod (R * 2 ^ M + Z) B
  rw [Nat.mul_comm] at hdm
  generalize R * 2 ^ M + Z = Y at *
  refine ⟨Int.natCast_nonneg _, ?_, ?_, ?_, ?_, ?_, ?_⟩
  · have : (Y : Int) < ((2 ^ 48 * 2 ^ 48 : Nat) : Int) := by exact_mod_cast Nat.lt_of_lt_of_le hlt hbig
    refine Int.lt_trans this ?_
    decide +kernel
  · exact_mod_cast Nat.zero_le _
  · exact_mod_cast hq
  · exact_mod_cast Nat.zero_le _
  · exact_mod_cast hr
  · exact_mod_cast hdm
theorem long_end {q r : Int} {X B : Nat} (h : q * (B : Int) + r = (X : Int)) (h0 : 0 ≤ r) (h1 : r < (B : Int)) : q = ((X / B : Nat) : Int) ∧ r = ((X % B : Nat) : Int) := by
  have hB : (0 : Int) < B := by omega
  have e : (X : Int) / (B : Int) = q ∧ (X : Int) % (B : Int) = r := (Int.ediv_emod_unique hB).mpr ⟨by rw [← h, Int.mul_comm, Int.add_comm], h0, h1⟩
  rw [← e.1, ← e.2]
  exact ⟨by norm_cast, by norm_cast⟩
-- plain5
/-- one step of the way home: what is left, the height, the figure -/
def homeStep (k N : Nat) (h : Int) : Nat × Int × Int :=
  if 0 < h then (N / 256, h - (((N % 256 : Nat) : Int) - 128), ((N % 256 : Nat) : Int) - 128)
  else (N % 256 ^ k, h - (((N / 256 ^ k : Nat) : Int) - 128), ((N / 256 ^ k : Nat) : Int) - 128)
def homeList : Nat → Nat → Int → List Int
  | 0, _, _ => []
  | k + 1, N, h => (homeStep k N h).2.2 :: homeList k (homeStep k N h).1 (homeStep k N h).2.1
theorem homeStep_le (k N : Nat) (h : Int) : (homeStep k N h).1 ≤ N := by
  unfold homeStep
  split
  · exact Nat.div_le_self _ _
  · exact Nat.mod_le _ _
theorem homeList_len : ∀ (k N : Nat) (h : Int), (homeList k N h).length = k
  | 0, _, _ => rfl
  | k + 1, N, h => by simp [homeList, homeList_len k]
theorem homeStep_up {k N : Nat} {h : Int} (hh : 0 < h) : homeStep k N h = (N / 256, h - (((N % 256 : Nat) : Int) - 128), ((N % 256 : Nat) : Int) - 128) := if_pos hh
theorem homeStep_down {k N : Nat} {h : Int} (hh : ¬ 0 < h) : homeStep k N h = (N % 256 ^ k, h - (((N / 256 ^ k : Nat) : Int) - 128), ((N / 256 ^ k : Nat) : Int) - 128) := if_neg hh
theorem home_next {m i N Nc : Nat} {h0 hc : Int} {bs : List Int} (him : i < m) (e : bs ++ homeList (m - i) Nc hc = homeList m N h0) :
    (bs ++ [(homeStep (m - 1 - i) Nc hc).2.2]) ++ homeList (m - (i + 1)) (homeStep (m - 1 - i) Nc hc).1 (homeStep (m - 1 - i) Nc hc).2.1 = homeList m N h0 := by
  have e1 : m - i = (m - 1 - i) + 1 := by omega
  have e2 : m - (i + 1) = m - 1 - i := by omega
  rw [e1] at e
  rw [e2, ← e]
  simp [homeList]
-- loops

/-- what a turn of one of my loops owes -/
def Turn (h₀ : Heap) (L : Addr) (s₁ : Shared) (I : Addr) (it : Obj) (R : (Str → Option Value) → List (Addr × Obj) → Prop) (Q : Flow → Shared → Prop) (f : Flow) (s₂ : Shared) : Prop := UnrPost h₀ L s₁ I it R Q f s₂
def Kept {σ : Type} (Led : σ → List (Addr × Obj)) (ps : σ → List (Str × Value)) (x : Str) (stored : List Str) (m₀ : Str → Option Value) (P : σ → Prop) (m : Str → Option Value) (nx : List (Addr × Obj)) : Prop :=
  ∃ c : σ, nx = Led c ∧ (∀ p ∈ ps c, m p.1 = some p.2) ∧ (∀ z, z ≠ x → (∀ p ∈ ps c, z ≠ p.1) → stored.contains z = false → m z = m₀ z) ∧ P c
/-- each object of the ledger's is of another make, or lies below the frame -/
def NoCls (L : Nat) (S : Obj → Prop) (l : List (Addr × Obj)) : Prop := ∀ p ∈ l, ¬ S p.2 ∨ @LT.lt Nat _ p.1 L
theorem noCls_nil {L : Nat} {S : Obj → Prop} : NoCls L S [] := fun _ h => nomatch h
theorem noCls_cons {L : Nat} {S : Obj → Prop} {p : Addr × Obj} {l : List (Addr × Obj)} (h : ¬ S p.2) (r : NoCls L S l) : NoCls L S (p :: l) := fun q hq => by
  rcases List.mem_cons.mp hq with rfl | hq
  · exact .inl h
  · exact r q hq
theorem noCls_lo {L : Nat} {S : Obj → Prop} {l : List (Addr × Obj)} (x : Lo L l) : NoCls L S l := fun q hq => .inr (x.lt q hq)
theorem noCls_app {L : Nat} {S : Obj → Prop} {l r : List (Addr × Obj)} (x : NoCls L S l) (y : NoCls L S r) : NoCls L S (l ++ r) := fun q hq => (List.mem_append.mp hq).elim (x q) (y q)
def IsRev (o : Obj) : Prop := o.cls = .type "list_reverseiterator"
def IsDown (o : Obj) : Prop := ∃ x y : Int, o = { cls := .type "range_iterator", data := .fields #[rawInt x, rawInt y, rawInt (-1)] }
theorem isRev_list (its : Array Value) (n : Nat) : ¬ IsRev (listOf its n) := fun h => by
  have h2 := Value.type.inj h
  exact absurd h2 (by decide)
theorem isDown_list (its : Array Value) (n : Nat) : ¬ IsDown (listOf its n) := fun ⟨_, _, h⟩ => by
  have h2 := Value.type.inj (congrArg Obj.cls h)
  exact absurd h2 (by decide)
theorem offI_rev {L I : Nat} {it : Obj} (hc : it.cls = .type "list_reverseiterator") (hI : L < I) {l : List (Addr × Obj)} (h : NoCls L IsRev l) : OffI I it l := by
  induction l with
  | nil => trivial
  | cons p r ih =>
    refine ⟨?_, ih fun q hq => h q (.tail _ hq)⟩
    rcases h p (.head _) with h1 | h1
    · exact .inr (by rw [hc]; exact h1)
    · exact .inl (Nat.ne_of_lt (Nat.lt_trans h1 hI))
theorem news_ne {h₀ h : Heap} {L a b : Addr} {o o' : Obj} {l : List (Addr × Obj)} (N : News h₀ L h l) (ha : (a, o) ∈ l) (hb : (b, o') ∈ l) (hn : o ≠ o') : @Ne Nat a b := fun e => hn (by
  have h1 := (N _ ha).1
  have h2 := (N _ hb).1
  dsimp only at h1 h2
  rw [show a = b from e, h2] at h1
  exact (Option.some.inj h1).symm)
section
variable {prog : Program} {w : World} {A : Around} {E : Value → Shared → Prop} {s : Shared} {env : Env} {h₀ : Heap} {x : Str} {body : List Stmt} {Q : Flow → Shared → Prop}
theorem turn_end {σ : Type} {Led : σ → List (Addr × Obj)} {ps : σ → List (Str × Value)} {stored : List Str} {m₀ : Str → Option Value} {P : σ → Prop} {L I : Addr} {it : Obj} {s₁ : Shared} {h' : Heap} {tk : Nat} {m' : Str → Option Value} {all : List (Addr × Obj)} (c : σ) {S : Obj → Prop}
    (F : Fr h₀ L h' m') (N : News h₀ L h' all) (hI : (I, it) ∈ all) (hc : S it) (sub : ∀ p ∈ Led c, p ∈ all) (off : NoCls L S (Led c)) (hLI : @LT.lt Nat _ L I)
    (hk : ∀ p ∈ ps c, m' p.1 = some p.2) (hr : ∀ z, z ≠ x → (∀ p ∈ ps c, z ≠ p.1) → stored.contains z = false → m' z = m₀ z) (hp : P c) :
    Turn h₀ L s₁ I it (Kept Led ps x stored m₀ P) Q .next { s₁ with heap := h', toks := tk } := by
  show UnrEnd _ _ _ _ _ _ _
  refine UnrEnd.intro F N (Led c) (fun p hp => ?_) (fun p hp e => ?_) ⟨c, rfl, hk, hr, hp⟩
  · rcases List.mem_cons.mp hp with rfl | hp
    · exact hI
    · exact sub p hp
  · have h1 := (N _ (sub p hp)).1
    have h2 := (N _ hI).1
    rw [e] at h1
    have h3 := Option.some.inj (h1.symm.trans h2)
    rcases off p hp with h4 | h4
    · exact h4 (by rw [h3]; exact hc)
    · exact Nat.lt_irrefl _ (Nat.lt_trans hLI (e ▸ h4))
theorem rev_loop {σ : Type} {I ax : Addr} {lo : Obj} {vs : List Value} {ns : List Int} {n : Nat} {m₀ : Str → Option Value} (Led : σ → List (Addr × Obj)) (ps : σ → List (Str × Value)) (stored : List Str) (P : List Int → σ → Prop) (c₀ : σ)
    (hh : A.handled = none) (F : Fr h₀ env.locals s.heap m₀) (N : News h₀ env.locals s.heap ((I, revObj ax ((vs.length : Int) - 1)) :: Led c₀)) (hLI : @LT.lt Nat _ env.locals I) (hoff : NoCls env.locals IsRev (Led c₀)) (hm : ∀ c, (ax, lo) ∈ Led c) (hc : lo.cls = .type "list") (hd : lo.data = .seq vs.toArray n) (hi : IntsAre vs ns)
    (hk : ∀ p ∈ ps c₀, m₀ p.1 = some p.2) (hp : P ns.reverse c₀)
    (turn : ∀ (c : σ) (z : Int) (rs : List Int) (t : Tok) (u : Str → Option Value) (it : Obj) h tk, IsRev it → P (z :: rs) c →
      Fr h₀ env.locals h (fun y => if y = x then some (.int z t) else kstB (fun q => if stored.contains q then u q else m₀ q) (ps c) y) → News h₀ env.locals h ((I, it) :: Led c) →
      wpAny (model prog w) A (execs body env) (Turn h₀ env.locals { s with heap := h, toks := tk } I it (Kept Led ps x stored m₀ (P rs)) Q) E { s with heap := h, toks := tk })
    (done : ∀ (c : σ) (u : Str → Option Value) h tk, P [] c → Fr h₀ env.locals h (fun y => if y = x then u y else kstB (fun q => if stored.contains q then u q else m₀ q) (ps c) y) → News h₀ env.locals h (Led c) → Q .next { s with heap := h, toks := tk }) :
    wpAny (model prog w) A (pyIter (.ref I)) (fun it s₂ => LoopAtV prog w A h₀ env x body Q E it s₂) E s := by
  refine iter_revUnr (lo := lo) hh F N (offI_rev rfl hLI hoff) (hm c₀) hc hd ?_
  have key : ∀ (us : List Value) (rs : List Int), IntsAre us rs → ∀ m nx, Kept Led ps x stored m₀ (P rs) m nx → RevRest prog w A E h₀ env x body Q s I (ax, lo) us m nx := by
    intro us rs hir
    induction hir with
    | nil =>
      rintro m nx ⟨c, rfl, h1, h2, h3⟩
      exact RevRest.zero fun h tk F' N' => done c m h tk h3 (kst_frOut h1 h2 F') N'
    | @cons z t us' rs' hir ih =>
      rintro m nx ⟨c, rfl, h1, h2, h3⟩
      refine RevRest.succ fun it h tk hcl F' N' => ?_
      refine wpAny_mono (turn c z rs' t m it h tk hcl h3 (kst_fr h1 h2 F') N') (fun f s₂ p => ?_) fun _ _ e => e
      have up : UnrEnd h₀ env.locals { s with heap := h, toks := tk } I it (Kept Led ps x stored m₀ (P rs')) s₂ →
          UnrEnd h₀ env.locals { s with heap := h, toks := tk } I it (fun m' n' => (ax, lo) ∈ n' ∧ RevRest prog w A E h₀ env x body Q s I (ax, lo) us' m' n') s₂ := by
        rintro ⟨h', tk', m', news', e, F'', N'', ho, r⟩
        refine ⟨h', tk', m', news', e, F'', N'', ho, ?_, ih m' news' r⟩
        obtain ⟨c', rfl, _⟩ := r
        exact hm c'
      cases f with
      | ret v => exact p
      | brk => exact p
      | next => exact up p
      | cont => exact up p
  exact key _ _ hi.reverse _ _ ⟨c₀, rfl, hk, fun _ _ _ _ => rfl, hp⟩
theorem down_loop {σ : Type} {r : Addr} {a₀ b₀ : Int} {t₀ u₀ v₀ : Tok} {n : Nat} {m₀ : Str → Option Value} (Led : σ → List (Addr × Obj)) (ps : σ → List (Str × Value)) (stored : List Str) (P : Nat → σ → Prop) (c₀ : σ)
    (hh : A.handled = none) (hr : IsRange s.heap r a₀ b₀ (-1) t₀ u₀ v₀) (hsmall : Builtin.Range.small a₀ b₀ (-1) = true) (hn : Builtin.Range.rangeSize a₀ b₀ (-1) = (n : Int)) (F : Fr h₀ env.locals s.heap m₀) (N : News h₀ env.locals s.heap (Led c₀))
    (hk : ∀ p ∈ ps c₀, m₀ p.1 = some p.2) (hp : P 0 c₀)
    (turn : ∀ (c : σ) (I : Addr) (i : Nat) (t : Tok) (u : Str → Option Value) (it : Obj) h tk, IsDown it → @LT.lt Nat _ env.locals I → i < n → P i c →
      Fr h₀ env.locals h (fun y => if y = x then some (.int (a₀ - (i : Int)) t) else kstB (fun q => if stored.contains q then u q else m₀ q) (ps c) y) → News h₀ env.locals h ((I, it) :: Led c) →
      wpAny (model prog w) A (execs body env) (Turn h₀ env.locals { s with heap := h, toks := tk } I it (Kept Led ps x stored m₀ (P (i + 1))) Q) E { s with heap := h, toks := tk })
    (done : ∀ (c : σ) (u : Str → Option Value) h tk, P n c → Fr h₀ env.locals h (fun y => if y = x then u y else kstB (fun q => if stored.contains q then u q else m₀ q) (ps c) y) → News h₀ env.locals h (Led c) → Q .next { s with heap := h, toks := tk }) :
    wpAny (model prog w) A (pyIter (.ref r)) (fun it s₂ => LoopAtV prog w A h₀ env x body Q E it s₂) E s := by
  refine wpAny_pyIter_range hr hsmall ?_
  have W : Walks prog w A s.heap.objs.size [s.heap.objs.size] [s.heap.objs.size] n (fun i v => i < n ∧ ∃ t, v = .int (a₀ + i * (-1)) t)
      (fun i h => IsRangeIter h s.heap.objs.size (a₀ + (i : Nat) * (-1)) ((n : Int) - (i : Nat)) (-1)) := (Walks.range hh _ a₀ (-1) n).bound
  have hnew := next_is_new F
  refine ⟨_, _, _, n, _, _, m₀, Led c₀, fun i m nx => Kept Led ps x stored m₀ (P i) m nx, rfl, W, ?_, ?_, ?_, (by show IsRangeIter _ _ _ _ _; rw [hn]; simpa using Heap.get?_push_size _ rfl), F.push _, (fun p hp => ⟨Heap.get?_push_of_some _ (N p hp).1, (N p hp).2⟩), ⟨c₀, rfl, hk, fun _ _ _ _ => rfl, hp⟩, ?_, ?_⟩
  · intro hm
    exact absurd F.ns.lt ((List.mem_singleton.mp hm) ▸ Nat.lt_irrefl _)
  · intro b hb
    rw [List.mem_singleton.mp hb]
    exact hnew
  · intro p hp hI
    exact absurd (Heap.lt_size (N p hp).1) ((List.mem_singleton.mp hI) ▸ Nat.lt_irrefl _)
  · rintro i v m₁ news₁ s₁ own ⟨hh', tk', rfl⟩ hin ⟨_, t, rfl⟩ ⟨c, rfl, h1, h2, h3⟩ hoff hown hget hall hst F₁ N₁
    have hst' : ∃ it : Obj, hh'.get? s.heap.objs.size = some it ∧ IsDown it := ⟨_, hst, _, _, rfl⟩
    obtain ⟨it, hit, hcl⟩ := hst'
    have hmem := hall s.heap.objs.size (List.mem_singleton.mpr rfl) hnew _ hit
    have e1 : a₀ + (i : Int) * (-1) = a₀ - (i : Int) := by omega
    rw [e1] at F₁
    have N₂ : News h₀ env.locals hh' ((s.heap.objs.size, it) :: Led c) := fun p hp => by
      rcases List.mem_cons.mp hp with rfl | hp
      · exact N₁ _ (List.mem_append_left _ hmem)
      · exact N₁ _ (List.mem_append_right _ hp)
    refine wpAny_mono (turn c _ i t m₁ it hh' tk' hcl F.ns.lt hin h3 (kst_fr h1 h2 F₁) N₂) (fun f s₂ p => ?_) fun _ _ e => e
    have fin : UnrEnd h₀ env.locals { s with heap := hh', toks := tk' } s.heap.objs.size it (Kept Led ps x stored m₀ (P (i + 1))) s₂ →
        LoopStepU h₀ env.locals [s.heap.objs.size] own (fun m nx => Kept Led ps x stored m₀ (P (i + 1)) m nx) { s with heap := hh', toks := tk' } .next s₂ := by
      rintro ⟨h', tk, m', news', e, F', N', ho, r⟩
      refine ⟨rfl, h', tk, m', news', e, F', fun p hp => ?_, fun p hp hI => ho p hp (List.mem_singleton.mp hI), r⟩
      rcases List.mem_append.mp hp with hp | hp
      · have h4 : p.1 = s.heap.objs.size := List.mem_singleton.mp (hown p hp)
        have h5 : hh'.get? p.1 = some p.2 := hget p hp
        have h6 : p = (s.heap.objs.size, it) := by
          rw [h4, hit] at h5
          exact Prod.ext h4 (Option.some.inj h5).symm
        rw [h6]; exact N' _ (List.mem_cons_self ..)
      · exact N' _ (List.mem_cons_of_mem _ hp)
    cases f with
    | ret v => exact .ret p
    | brk => exact .brk p
    | next => exact .next (fin p)
    | cont => exact .cont (fin p)
  · rintro h' tk m' news' F' N' _ ⟨c, rfl, h1, h2, h3⟩
    exact done c m' h' tk h3 (kst_frOut h1 h2 F') N'
end
-- loops2
def IsUp (o : Obj) : Prop := ∃ x y : Int, o = { cls := .type "range_iterator", data := .fields #[rawInt x, rawInt y, rawInt 1] }
theorem isUp_list (its : Array Value) (n : Nat) : ¬ IsUp (listOf its n) := fun ⟨_, _, h⟩ => by
  have h2 := Value.type.inj (congrArg Obj.cls h)
  exact absurd h2 (by decide)
section
variable {prog : Program} {w : World} {A : Around} {E : Value → Shared → Prop} {s : Shared} {env : Env} {h₀ : Heap} {x : Str} {body : List Stmt} {Q : Flow → Shared → Prop}
theorem up_loop {σ : Type} {r : Addr} {b₀ : Int} {t₀ u₀ v₀ : Tok} {n : Nat} {m₀ : Str → Option Value} (Led : σ → List (Addr × Obj)) (ps : σ → List (Str × Value)) (stored : List Str) (P : Nat → σ → Prop) (c₀ : σ)
    (hh : A.handled = none) (hr : IsRange s.heap r 0 b₀ 1 t₀ u₀ v₀) (hsmall : Builtin.Range.small 0 b₀ 1 = true) (hn : Builtin.Range.rangeSize 0 b₀ 1 = (n : Int)) (F : Fr h₀ env.locals s.heap m₀) (N : News h₀ env.locals s.heap (Led c₀))
    (hk : ∀ p ∈ ps c₀, m₀ p.1 = some p.2) (hp : P 0 c₀)
    (turn : ∀ (c : σ) (I : Addr) (i : Nat) (t : Tok) (u : Str → Option Value) (it : Obj) h tk, IsUp it → @LT.lt Nat _ env.locals I → i < n → P i c →
      Fr h₀ env.locals h (fun y => if y = x then some (.int ((i : Int)) t) else kstB (fun q => if stored.contains q then u q else m₀ q) (ps c) y) → News h₀ env.locals h ((I, it) :: Led c) →
      wpAny (model prog w) A (execs body env) (Turn h₀ env.locals { s with heap := h, toks := tk } I it (Kept Led ps x stored m₀ (P (i + 1))) Q) E { s with heap := h, toks := tk })
    (done : ∀ (c : σ) (u : Str → Option Value) h tk, P n c → Fr h₀ env.locals h (fun y => if y = x then u y else kstB (fun q => if stored.contains q then u q else m₀ q) (ps c) y) → News h₀ env.locals h (Led c) → Q .next { s with heap := h, toks := tk }) :
    wpAny (model prog w) A (pyIter (.ref r)) (fun it s₂ => LoopAtV prog w A h₀ env x body Q E it s₂) E s := by
  refine wpAny_pyIter_range hr hsmall ?_
  have W : Walks prog w A s.heap.objs.size [s.heap.objs.size] [s.heap.objs.size] n (fun i v => i < n ∧ ∃ t, v = .int (0 + i * 1) t)
      (fun i h => IsRangeIter h s.heap.objs.size (0 + (i : Nat) * 1) ((n : Int) - (i : Nat)) 1) := (Walks.range hh _ 0 1 n).bound
  have hnew := next_is_new F
  refine ⟨_, _, _, n, _, _, m₀, Led c₀, fun i m nx => Kept Led ps x stored m₀ (P i) m nx, rfl, W, ?_, ?_, ?_, (by show IsRangeIter _ _ _ _ _; rw [hn]; simpa using Heap.get?_push_size _ rfl), F.push _, (fun p hp => ⟨Heap.get?_push_of_some _ (N p hp).1, (N p hp).2⟩), ⟨c₀, rfl, hk, fun _ _ _ _ => rfl, hp⟩, ?_, ?_⟩
  · intro hm
    exact absurd F.ns.lt ((List.mem_singleton.mp hm) ▸ Nat.lt_irrefl _)
  · intro b hb
    rw [List.mem_singleton.mp hb]
    exact hnew
  · intro p hp hI
    exact absurd (Heap.lt_size (N p hp).1) ((List.mem_singleton.mp hI) ▸ Nat.lt_irrefl _)
  · rintro i v m₁ news₁ s₁ own ⟨hh', tk', rfl⟩ hin ⟨_, t, rfl⟩ ⟨c, rfl, h1, h2, h3⟩ hoff hown hget hall hst F₁ N₁
    have hst' : ∃ it : Obj, hh'.get? s.heap.objs.size = some it ∧ IsUp it := ⟨_, hst, _, _, rfl⟩
    obtain ⟨it, hit, hcl⟩ := hst'
    have hmem := hall s.heap.objs.size (List.mem_singleton.mpr rfl) hnew _ hit
    have e1 : 0 + (i : Int) * 1 = (i : Int) := by omega
    rw [e1] at F₁
    have N₂ : News h₀ env.locals hh' ((s.heap.objs.size, it) :: Led c) := fun p hp => by
      rcases List.mem_cons.mp hp with rfl | hp
      · exact N₁ _ (List.mem_append_left _ hmem)
      · exact N₁ _ (List.mem_append_right _ hp)
    refine wpAny_mono (turn c _ i t m₁ it hh' tk' hcl F.ns.lt hin h3 (kst_fr h1 h2 F₁) N₂) (fun f s₂ p => ?_) fun _ _ e => e
    have fin : UnrEnd h₀ env.locals { s with heap := hh', toks := tk' } s.heap.objs.size it (Kept Led ps x stored m₀ (P (i + 1))) s₂ →
        LoopStepU h₀ env.locals [s.heap.objs.size] own (fun m nx => Kept Led ps x stored m₀ (P (i + 1)) m nx) { s with heap := hh', toks := tk' } .next s₂ := by
      rintro ⟨h', tk, m', news', e, F', N', ho, r⟩
      refine ⟨rfl, h', tk, m', news', e, F', fun p hp => ?_, fun p hp hI => ho p hp (List.mem_singleton.mp hI), r⟩
      rcases List.mem_append.mp hp with hp | hp
      · have h4 : p.1 = s.heap.objs.size := List.mem_singleton.mp (hown p hp)
        have h5 : hh'.get? p.1 = some p.2 := hget p hp
        have h6 : p = (s.heap.objs.size, it) := by
          rw [h4, hit] at h5
          exact Prod.ext h4 (Option.some.inj h5).symm
        rw [h6]; exact N' _ (List.mem_cons_self ..)
      · exact N' _ (List.mem_cons_of_mem _ hp)
    cases f with
    | ret v => exact .ret p
    | brk => exact .brk p
    | next => exact .next (fin p)
    | cont => exact .cont (fin p)
  · rintro h' tk m' news' F' N' _ ⟨c, rfl, h1, h2, h3⟩
    exact done c m' h' tk h3 (kst_frOut h1 h2 F') N'
end
-- small
theorem isnt_spec (w : World) (news : List (Addr × Obj)) (x : Int) (t : Tok) :
    Ctr w 21 news [.int x t] 1 8 (fun _ K => K (.bool (decide (256 ≤ x))) news) := by
  unfold Ctr
  k_fill
  intros
  rename_i hret
  (refine wpAny_call ?_; k_dflt (refine' enter_def ?k1 ?k2 ?k3 ?k4 ?k5 ?kA ?kF ?kK ?k6 ?k7 ?k8 ?k9 ?kB ?_ ?c2 ?c3 ?c4 ?c5; (case kA => exact rfl); (case kF => exact rfl); (case kK => first | exact rfl | assumption); (case k1 => k_asm); (case k2 => k_asm); (case k3 => k_asm); (case k4 => k_asm); (case k5 => k_asm); (case k6 => k_is); (case k7 => k_is); (case k8 => ktr_room); (case k9 => exact BindsTo.of_eq rfl); (case c5 => decide); (case kB => exact locs rfl); (case c2 => exact rfl); (case c3 => exact rfl); (case c4 => exact rfl); k_whole; intro zg' zL' zh' zFG' zF' zN' zB' zX' zT' zlo'; have zhLL := lt_frames zFG' zF'; (try dsimp only); k_unmd; k_fold))
  k_with_none
  k_steps
  exact hret _ _ (by k_asm) (by k_asm)
theorem eof_spec (w : World) (news : List (Addr × Obj)) (x : Int) (t : Tok) :
    Ctr w 28 news [.int x t] 1 8 (fun _ K => K (.bool (decide (x = 0))) news) := by
  unfold Ctr
  k_fill
  intros
  rename_i hret
  (refine wpAny_call ?_; k_dflt (refine' enter_def ?k1 ?k2 ?k3 ?k4 ?k5 ?kA ?kF ?kK ?k6 ?k7 ?k8 ?k9 ?kB ?_ ?c2 ?c3 ?c4 ?c5; (case kA => exact rfl); (case kF => exact rfl); (case kK => first | exact rfl | assumption); (case k1 => k_asm); (case k2 => k_asm); (case k3 => k_asm); (case k4 => k_asm); (case k5 => k_asm); (case k6 => k_is); (case k7 => k_is); (case k8 => ktr_room); (case k9 => exact BindsTo.of_eq rfl); (case c5 => decide); (case kB => exact locs rfl); (case c2 => exact rfl); (case c3 => exact rfl); (case c4 => exact rfl); k_whole; intro zg' zL' zh' zFG' zF' zN' zB' zX' zT' zlo'; have zhLL := lt_frames zFG' zF'; (try dsimp only); k_unmd; k_fold))
  k_with_none
  k_steps
  exact hret _ _ (by k_asm) (by k_asm)
def coll (x y : Str) : Int := b2i (decide (y.cps.toList < x.cps.toList)) - b2i (decide (x.cps.toList < y.cps.toList))
theorem strcoll_spec (w : World) (news : List (Addr × Obj)) (x y : Str) (t u : Tok) :
    Ctr w 77 news [.str x t, .str y u] 1 8 (fun _ K => ∀ t, K (.int (coll x y) t) news) := by
  unfold Ctr
  k_fill
  intros
  rename_i hret
  (refine wpAny_call ?_; k_dflt (refine' enter_def ?k1 ?k2 ?k3 ?k4 ?k5 ?kA ?kF ?kK ?k6 ?k7 ?k8 ?k9 ?kB ?_ ?c2 ?c3 ?c4 ?c5; (case kA => exact rfl); (case kF => exact rfl); (case kK => first | exact rfl | assumption); (case k1 => k_asm); (case k2 => k_asm); (case k3 => k_asm); (case k4 => k_asm); (case k5 => k_asm); (case k6 => k_is); (case k7 => k_is); (case k8 => ktr_room); (case k9 => exact BindsTo.of_eq rfl); (case c5 => decide); (case kB => exact locs rfl); (case c2 => exact rfl); (case c3 => exact rfl); (case c4 => exact rfl); k_whole; intro zg' zL' zh' zFG' zF' zN' zB' zX' zT' zlo'; have zhLL := lt_frames zFG' zF'; (try dsimp only); k_unmd; k_fold))
  k_with_none
  k_steps
  exact hret _ _ _ (by k_asm) (by k_asm)
-- inner
def stAt (p : Program) (n : Nat) : Stmt := p.main.body.getD n (.Pass default)
def sBody : Stmt → List Stmt
  | .FunctionDef _ _ b _ _ _ _ _ _ _ => b
  | _ => []
def sArgs : Stmt → Arguments
  | .FunctionDef _ a _ _ _ _ _ _ _ _ => a
  | _ => default
def sScope : Stmt → Scope
  | .FunctionDef _ _ _ _ _ _ s _ _ _ => s
  | _ => default
def innerSt : Stmt := (sBody (stAt PySem.Challenge.pw_ul0005_01 9)).getD 1 (.Pass default)
def innerQ : Str := Str.ofString "_int2digits" ++ ".<locals>." ++ Str.ofString "inner"
theorem inner_spec (w : World) (M : Nat) (hM : 1 ≤ M) (hM2 : M ≤ 64) (D f c' cA cI cN : Addr) (oA oI oN oc : Obj) (cvs : Array Value) (tq tN : Tok) (dc pm ctv : Value) (nD : Nat) (rest : List (Addr × Obj))
    (hD : ∀ p ∈ rest, p.1 ≠ D) (mf : (f, fnMade (Str.ofString "inner") innerQ (sArgs innerSt) (sBody innerSt) (sScope innerSt) [(Str.ofString "n", cN), (Str.ofString "inner", cI), (Str.ofString "a_digits", cA)] dc pm c' ctv) ∈ rest)
    (mc : (c', oc) ∈ rest) (ec : oc.data = .fields cvs) (ec2 : cvs[1]? = some (.str innerQ tq)) (mA : (cA, oA) ∈ rest) (eA : oA.data = .cell (some (.ref D))) (mI : (cI, oI) ∈ rest) (eI : oI.data = .cell (some (.ref f)))
    (mN : (cN, oN) ∈ rest) (eN : oN.data = .cell (some (.int (M : Int) tN))) : ∀ (k : Nat), 1 ≤ k → ∀ (X l : Nat) (x a b : Int) (t1 t2 t3 : Tok) (vs : List Value) (pre mid post : List Int),
    x = (X : Int) → a = (l : Int) → b = ((l + k : Nat) : Int) → l + k ≤ 64 → X < 2 ^ (M * k) → pre.length = l → mid.length = k → IntsAre vs (pre ++ mid ++ post) →
    Ctr w f ((D, listOf vs.toArray nD) :: rest) [.int x t1, .int a t2, .int b t3] (k + 1) (8 * k + 8) (fun _ K => ∀ vs', IntsAre vs' (pre ++ dg M k X ++ post) → K .none ((D, listOf vs'.toArray nD) :: rest)) := by
  intro k
  induction k using Nat.strongRecOn with
  | ind k ih =>
  intro hk1 X l x a b t1 t2 t3 vs pre mid post hx ha hb hlk hX hpre hmid hI
  subst hx ha hb
  unfold Ctr
  k_fill
  intro p loose mean mg mb dp un gd cn cs a' ccd cl outer A₀ base h₀ L m s Q E B F X' N T hk hd hu h51 hret
  (refine wpAny_call ?_; k_dflt (refine' enter_nest ?k1 ?k2 ?k3 ?k4 ?k5 ?kA ?kF ?kK ?k6 ?k7 ?k8 ?k9 ?kB ?_ ?c2 ?c3 ?c4 ?c5; (case kA => exact rfl); (case kF => exact rfl); (case kK => first | exact rfl | assumption); (case k1 => k_asm); (case k2 => k_asm); (case k3 => k_asm); (case k4 => k_asm); (case k5 => k_asm); (case k6 => k_mem); (case k7 => exact codeRec_news (by k_asm) (by k_mem) (by assumption) (by assumption)); (case k8 => ktr_room); (case k9 => exact BindsTo.of_eq rfl); (case c5 => decide); (case kB => exact locs rfl); (case c2 => exact rfl); (case c3 => exact rfl); (case c4 => exact rfl); k_whole; intro zg' zL' zh' zFG' zF' zN' zB' zX' zT' zlo'; have zhLL := lt_frames zFG' zF'; (try dsimp only); k_unmd; k_fold))
  conv in (sBody innerSt) => whnf
  have CH := codeHd_of_K (c := 48) (P := 44) X' (by kernel_rfl)
  obtain ⟨j, hj⟩ : ∃ j, j = k / 2 := ⟨_, rfl⟩
  have hMj : M * j ≤ 64 * 64 := Nat.mul_le_mul hM2 (by omega)
  k_with_none
  k_with "my rshift" => first
    | (refine rshift_to (r := ((l + j : Nat) : Int)) (by decide) (by show Int.fdiv _ 2 = _; rw [Int.fdiv_eq_ediv_of_nonneg _ (by decide)]; omega) ?_)
    | (refine rshift_to (r := ((X / 2 ^ (M * j) : Nat) : Int)) (by exact Int.natCast_nonneg _) (by rw [Int.toNat_natCast, fdiv_cast]) ?_)
  k_with "my mult" => (refine mul_to (r := ((M * j : Nat) : Int)) (by omega) (by rw [Int.natCast_mul, Int.mul_comm]; congr 1; omega) ?_)
  k_with "my lshift" => (refine lshift_to (r := ((X / 2 ^ (M * j) : Nat) : Int) * 2 ^ (M * j)) (by exact Int.natCast_nonneg _) ?_ (by omega) (by rw [Int.toNat_natCast]) ?_)
  k_with "my xor" => (refine xor_to (xor_low X (M * j)) ?_)
  k_with "my call" => refine Halt.of ?_
  k_steps
  · have h1 : k = 1 := by omega
    subst h1
    have hX1 : X < 2 ^ M := by simpa using hX
    obtain ⟨y, hy⟩ : ∃ y, mid = [y] := by
      match mid, hmid with
      | [y], _ => exact ⟨y, rfl⟩
    subst hy
    refine hret _ ?_ _ _ (by k_asm) (by k_asm)
    rw [dg_one M X hX1]
    have e : (pre ++ [y] ++ post).set ((l : Int)).toNat (X : Int) = pre ++ [(X : Int)] ++ post := by
      rw [Int.toNat_natCast, ← hpre]
      simp [List.append_assoc]
    rw [← e]
    assumption
  · have h3 : X / 2 ^ (M * j) ≤ X := Nat.div_le_self _ _
    have h4 : (2 : Nat) ^ (M * k) ≤ 2 ^ 4096 := Nat.pow_le_pow_right (by decide) (Nat.le_trans (Nat.mul_le_mul hM2 (show k ≤ 64 by omega)) (by decide))
    have h5 : (2 : Nat) ^ 4096 ≤ 2 ^ 65536 := Nat.pow_le_pow_right (by decide) (by decide)
    rw [Int.natAbs_natCast]
    omega
  · have hj1 : 1 ≤ j := by omega
    have hj2 : j < k := by omega
    unfold Halt
    refine' ih j hj2 hj1 (X % 2 ^ (M * j)) l _ _ _ _ _ _ _ pre (mid.take j) (mid.drop j ++ post) rfl rfl rfl (by omega) (Nat.mod_lt _ (Nat.two_pow_pos _)) hpre (by rw [List.length_take]; omega) ?e ?k1 ?k2 ?k3 ?k4 ?k5 ?k6 ?k7 ?k8 ?k9 ?_
    case e =>
      have e : pre ++ mid.take j ++ (mid.drop j ++ post) = pre ++ mid ++ post := by
        rw [List.append_assoc, ← List.append_assoc (mid.take j), List.take_append_drop, List.append_assoc]
      rw [e]; exact hI
    ((case k1 => k_asm); (case k2 => k_asm); (case k3 => k_asm); (case k4 => k_asm); (case k5 => k_asm); (case k6 => first | exact rfl | assumption); (case k7 => ktr_room); (case k8 => ktr_units); (case k9 => omega))
    intro vs1 hI1 h1 tk1 F1 N1
    dsimp only
    k_with "my call" => skip
    k_with_none
    k_with "my call" => refine Halt.of ?_
    k_steps
    · unfold Halt
      have hjk : (((l + k : Nat)) : Int) = (((l + j) + (k - j) : Nat) : Int) := by congr 1; omega
      have hlt : X / 2 ^ (M * j) < 2 ^ (M * (k - j)) := by
        rw [Nat.div_lt_iff_lt_mul (Nat.two_pow_pos _), ← Nat.pow_add]
        have : M * (k - j) + M * j = M * k := by rw [← Nat.mul_add]; congr 1; omega
        rw [this]; exact hX
      refine ih (k - j) (by omega) (by omega) (X / 2 ^ (M * j)) (l + j) _ _ _ _ _ _ _ (pre ++ dg M j (X % 2 ^ (M * j))) (mid.drop j) post rfl rfl hjk (by omega) hlt (by rw [List.length_append, dg_len]; omega) (by rw [List.length_drop]; omega) (by simpa only [List.append_assoc] using hI1) (by k_asm) (by k_asm) (by k_asm) (by k_asm) (by k_asm) (by first | exact rfl | assumption) (by ktr_room) (by ktr_units) (by omega) ?_
      intro vs2 hI2 h2 tk2 F2 N2
      dsimp only
      k_steps
      refine hret _ ?_ _ _ (by k_asm) (by k_asm)
      have e : pre ++ dg M k X ++ post = pre ++ dg M j (X % 2 ^ (M * j)) ++ dg M (k - j) (X / 2 ^ (M * j)) ++ post := by
        have : k = j + (k - j) := by omega
        rw [dg_mod]
        conv => lhs; rw [this, dg_add]
        simp only [List.append_assoc]
      rw [e]; exact hI2
-- digs
def Grown44 (T : List (Addr × Obj)) : Prop := ∃ (c' : Addr) (oc : Obj) (cvs : Array Value) (tq : Tok), T = [(44, tabObj #[rawInt 39, rawInt 4, .ref c']), (c', oc)] ∧ oc.data = .fields cvs ∧ cvs[1]? = some (.str innerQ tq) ∧ @LT.lt Nat _ 51 c'
theorem grown44_of {h₀ h : Heap} {L : Addr} {l : List (Addr × Obj)} {c' : Addr} {oc : Obj} {cvs : Array Value} {tq : Tok} (_N : News h₀ L h l) (m : (44, tabObj (#[] ++ #[rawInt (39 : Nat), rawInt (4 : Nat), .ref c'])) ∈ l) (mc : (c', oc) ∈ l) (e1 : oc.data = .fields cvs) (e2 : cvs[1]? = some (.str innerQ tq)) (hc : @LT.lt Nat _ 51 c') :
    ∃ T, Grown44 T ∧ ∀ p ∈ T, p ∈ l := ⟨[(44, tabObj #[rawInt 39, rawInt 4, .ref c']), (c', oc)], ⟨c', oc, cvs, tq, rfl, e1, e2, hc⟩, fun p hp => by
  rcases List.mem_cons.mp hp with rfl | hp
  · exact m
  · rw [List.mem_singleton.mp hp]; exact mc⟩
theorem digs_first (w : World) (news : List (Addr × Obj)) (x n : Int) (X M : Nat) (t u : Tok) (ex : x = (X : Int)) (en : n = (M : Int)) (hX : X < 2 ^ 48) (hM : 1 ≤ M) (hM2 : M ≤ 64) (h44 : ∀ p ∈ news, p.1 ≠ 44) :
    Ctr w 49 ((44, tabObj #[]) :: news) [.int x t, .int n u] 60 600 (fun L K => ∀ D vs T, @LT.lt Nat _ L D → Grown44 T → IntsAre vs (dg M (nlen M X) X) → K (.ref D) ((D, listOf vs.toArray 0) :: (T ++ news))) := by
  subst ex en
  unfold Ctr
  k_fill
  intro p loose mean mg mb dp un gd cn cs a ccd cl outer A₀ base h₀ L m s Q E B F X' N T hk hd hu h51 hret
  (refine wpAny_call ?_; k_dflt (refine' code_defC ?k1 ?k2 ?k3 ?k4 ?k5 ?kA ?kF ?kK ?k6 ?k7 ?k8 ?k9 ?kB ?kD ?_ ?c2 ?c3 ?c4; (case kA => exact rfl); (case kF => exact rfl); (case kK => first | exact rfl | assumption); (case k1 => k_asm); (case k2 => k_asm); (case k3 => k_asm); (case k4 => k_asm); (case k5 => k_asm); (case k6 => k_is); (case k7 => k_is); (case k8 => ktr_room); (case k9 => first | exact BindsTo.of_eq rfl | exact binds_K (by k_in) rfl (by k_is) rfl rfl rfl | fail "k_enter: no rule for these arguments"); (case kB => exact rfl); (case kD => decide +kernel); (case c2 => exact rfl); (case c3 => exact rfl); (case c4 => exact rfl); k_whole; intro zg' zL' zh' ztk' zcells' zFG' zF' zN' zY' zB' zX' zT' zl1; have zlo' := Lo.mk zl1; have zhLL := lt_frames zFG' zF'; (try k_lt zl1); k_cells zY'; (try simp only [List.cons_append, List.nil_append] at zN'); (try dsimp only); k_unmd; k_fold))
  (with_reducible rename Frag.In _ _ => Xg)
  have CH := codeHd_of_K (c := 48) (P := 44) Xg (by kernel_rfl)
  have hle := nlen_le M X 48 hM hX
  k_with_none
  k_with "my zeros" => (refine' zeros_to (d := nlen M X) ?k1 ?k2 ?k3 ?k4 ?k5 ?_; (case k1 => k_asm); (case k2 => k_asm); (case k3 => k_mem); (case k4 => exact nlen_int M X hM); (case k5 => omega); k_whole; intro D' h' vs' F' N' l1 i1; (k_lt l1))
  k_with "my len" => (refine' len_to ?k1 ?k2 ?k3 ?k4 ?k5 ?_; (case k1 => k_asm); (case k2 => k_mem); (case k3 => assumption); (case k4 => exact rep_one _); (case k5 => omega); intro t' tk')
  k_with "my call" => refine Halt.of ?_
  k_steps
  · unfold Halt
    (with_reducible rename News _ _ _ _ => NN)
    have N2 := news_pull2 NN
    have hX0 : X ≠ 0 := by omega
    refine inner_spec w M hM hM2 _ _ _ _ _ _ _ _ _ _ _ _ _ _ _ _ 0 _ ?hD (by k_mem) (by k_mem) (by assumption) (by assumption) (by k_mem) (by with_unfolding_all assumption) (by k_mem) (by with_unfolding_all assumption) (by k_mem) (by with_unfolding_all assumption) (nlen M X) (nlen_pos M X hM hX0) X 0 _ _ _ _ _ _ _ [] (List.replicate (nlen M X) 0) [] rfl rfl (by rw [Nat.zero_add]) (by omega) (nlen_lt M X hM) rfl (rep_one _) (by rw [List.nil_append, List.append_nil]; assumption) (by k_asm) (by k_asm) (by k_asm) N2 (by k_asm) (by first | exact rfl | assumption) (by ktr_room) (by ktr_units) (by omega) ?_
    case hD => k_all
    intro vs2 hI2 h2 tk2 F2 N3
    dsimp only
    k_steps
    simp only [List.nil_append, List.append_nil] at hI2
    (with_reducible rename News _ _ _ _ => N4)
    obtain ⟨T', hT', hs⟩ := grown44_of N4 (by k_mem) (by k_mem) (by assumption) (by assumption) (by omega)
    refine hret _ _ T' (by omega) hT' hI2 _ _ (by k_asm) (news_sub N4 fun p hp => ?_)
    rcases List.mem_cons.mp hp with rfl | hp
    · k_mem
    · rcases List.mem_append.mp hp with hp | hp
      · exact hs p hp
      · walk_at "MINE tailmem"
  · have hX0 : X = 0 := by omega
    subst hX0
    (with_reducible rename News _ _ _ _ => N4)
    obtain ⟨T', hT', hs⟩ := grown44_of N4 (by k_mem) (by k_mem) (by assumption) (by assumption) (by omega)
    have hI0 : IntsAre vs' (dg M (nlen M 0) 0) := by
      rw [nlen_zero M hM] at *
      assumption
    refine hret _ _ T' (by omega) hT' hI0 _ _ (by k_asm) (news_sub N4 fun p hp => ?_)
    rcases List.mem_cons.mp hp with rfl | hp
    · k_mem
    · rcases List.mem_append.mp hp with hp | hp
      · exact hs p hp
      · walk_at "MINE tailmem"
theorem grown44_mem {T l : List (Addr × Obj)} (h : Grown44 T) (hs : ∀ p ∈ T, p ∈ l) : ∃ (c' : Addr) (oc : Obj) (cvs : Array Value) (tq : Tok), (44, tabObj #[rawInt 39, rawInt 4, .ref c']) ∈ l ∧ (c', oc) ∈ l ∧ oc.data = .fields cvs ∧ cvs[1]? = some (.str innerQ tq) := by
  obtain ⟨c', oc, cvs, tq, rfl, e1, e2, _⟩ := h
  exact ⟨c', oc, cvs, tq, hs _ (.head _), hs _ (.tail _ (.head _)), e1, e2⟩
theorem digs_next (w : World) (news T : List (Addr × Obj)) (x n : Int) (X M : Nat) (t u : Tok) (ex : x = (X : Int)) (en : n = (M : Int)) (hX : X < 2 ^ 48) (hM : 1 ≤ M) (hM2 : M ≤ 64) (hT : Grown44 T) (hTs : ∀ p ∈ T, p ∈ news) :
    Ctr w 49 news [.int x t, .int n u] 60 600 (fun L K => ∀ D vs, @LT.lt Nat _ L D → IntsAre vs (dg M (nlen M X) X) → K (.ref D) ((D, listOf vs.toArray 0) :: news)) := by
  subst ex en
  unfold Ctr
  k_fill
  intro p loose mean mg mb dp un gd cn cs a ccd cl outer A₀ base h₀ L m s Q E B F X' N T hk hd hu h51 hret
  obtain ⟨c', oc, cvs, tq, m1, m2, e1, e2⟩ := grown44_mem hT hTs
  have N2 := news_more (news_more N m2) (List.Mem.tail _ m1)
  clear N
  (refine wpAny_call ?_; k_dflt (refine' code_defC ?k1 ?k2 ?k3 ?k4 ?k5 ?kA ?kF ?kK ?k6 ?k7 ?k8 ?k9 ?kB ?kD ?_ ?c2 ?c3 ?c4; (case kA => exact rfl); (case kF => exact rfl); (case kK => first | exact rfl | assumption); (case k1 => k_asm); (case k2 => k_asm); (case k3 => k_asm); (case k4 => k_asm); (case k5 => k_asm); (case k6 => k_is); (case k7 => k_is); (case k8 => ktr_room); (case k9 => first | exact BindsTo.of_eq rfl | exact binds_K (by k_in) rfl (by k_is) rfl rfl rfl | fail "k_enter: no rule for these arguments"); (case kB => exact rfl); (case kD => decide +kernel); (case c2 => exact rfl); (case c3 => exact rfl); (case c4 => exact rfl); k_whole; intro zg' zL' zh' ztk' zcells' zFG' zF' zN' zY' zB' zX' zT' zl1; have zlo' := Lo.mk zl1; have zhLL := lt_frames zFG' zF'; (try k_lt zl1); k_cells zY'; (try simp only [List.cons_append, List.nil_append] at zN'); (try dsimp only); k_unmd; k_fold))
  (with_reducible rename Frag.In _ _ => Xg)
  have CH := codeHd_of_K (c := 48) (P := 44) Xg (by kernel_rfl)
  have hle := nlen_le M X 48 hM hX
  k_with_none
  k_with "my zeros" => (refine' zeros_to (d := nlen M X) ?k1 ?k2 ?k3 ?k4 ?k5 ?_; (case k1 => k_asm); (case k2 => k_asm); (case k3 => k_mem); (case k4 => exact nlen_int M X hM); (case k5 => omega); k_whole; intro D' h' vs' F' N' l1 i1; (k_lt l1))
  k_with "my len" => (refine' len_to ?k1 ?k2 ?k3 ?k4 ?k5 ?_; (case k1 => k_asm); (case k2 => k_mem); (case k3 => assumption); (case k4 => exact rep_one _); (case k5 => omega); intro t' tk')
  k_with "my call" => refine Halt.of ?_
  k_steps
  · unfold Halt
    (with_reducible rename News _ _ _ _ => NN)
    have N2 := news_pull1 NN
    have hX0 : X ≠ 0 := by omega
    refine inner_spec w M hM hM2 _ _ _ _ _ _ _ _ _ _ _ _ _ _ _ _ 0 _ ?hD (by k_mem) (by k_mem) e1 e2 (by k_mem) (by with_unfolding_all assumption) (by k_mem) (by with_unfolding_all assumption) (by k_mem) (by with_unfolding_all assumption) (nlen M X) (nlen_pos M X hM hX0) X 0 _ _ _ _ _ _ _ [] (List.replicate (nlen M X) 0) [] rfl rfl (by rw [Nat.zero_add]) (by omega) (nlen_lt M X hM) rfl (rep_one _) (by rw [List.nil_append, List.append_nil]; assumption) (by k_asm) (by k_asm) (by k_asm) N2 (by k_asm) (by first | exact rfl | assumption) (by ktr_room) (by ktr_units) (by omega) ?_
    case hD => k_all
    intro vs2 hI2 h2 tk2 F2 N3
    dsimp only
    k_steps
    simp only [List.nil_append, List.append_nil] at hI2
    (with_reducible rename News _ _ _ _ => N4)
    refine hret _ _ (by omega) hI2 _ _ (by k_asm) (news_sub N4 fun p hp => ?_)
    rcases List.mem_cons.mp hp with rfl | hp
    · k_mem
    · walk_at "MINE tailmem"
  · have hX0 : X = 0 := by omega
    subst hX0
    (with_reducible rename News _ _ _ _ => N4)
    have hI0 : IntsAre vs' (dg M (nlen M 0) 0) := by
      rw [nlen_zero M hM] at *
      assumption
    refine hret _ _ (by omega) hI0 _ _ (by k_asm) (news_sub N4 fun p hp => ?_)
    rcases List.mem_cons.mp hp with rfl | hp
    · k_mem
    · walk_at "MINE tailmem"
-- inner2
def innerSt2 : Stmt := (sBody (stAt PySem.Challenge.pw_ul0005_01 10)).getD 0 (.Pass default)
def innerQ2 : Str := Str.ofString "_digits2int" ++ ".<locals>." ++ Str.ofString "inner"
theorem inner2_spec (w : World) (M : Nat) (hM2 : M ≤ 64) (D f c' cD cI cN : Addr) (oD oI oN oc : Obj) (cvs : Array Value) (tq tN : Tok) (dc pm ctv : Value) (nD : Nat) (dvs : List Value) (ds : List Int) (rest : List (Addr × Obj))
    (mD : (D, listOf dvs.toArray nD) ∈ rest) (hI : IntsAre dvs ds) (hds : ∀ d ∈ ds, d.natAbs < 2 ^ 64) (hdl : ds.length ≤ 64)
    (mf : (f, fnMade (Str.ofString "inner") innerQ2 (sArgs innerSt2) (sBody innerSt2) (sScope innerSt2) [(Str.ofString "n", cN), (Str.ofString "inner", cI), (Str.ofString "digits", cD)] dc pm c' ctv) ∈ rest)
    (mc : (c', oc) ∈ rest) (ec : oc.data = .fields cvs) (ec2 : cvs[1]? = some (.str innerQ2 tq)) (mA : (cD, oD) ∈ rest) (eA : oD.data = .cell (some (.ref D))) (mI : (cI, oI) ∈ rest) (eI : oI.data = .cell (some (.ref f)))
    (mN : (cN, oN) ∈ rest) (eN : oN.data = .cell (some (.int (M : Int) tN))) : ∀ (k : Nat), 1 ≤ k → ∀ (l : Nat) (a b : Int) (t1 t2 : Tok),
    a = (l : Int) → b = ((l + k : Nat) : Int) → l + k ≤ ds.length →
    Ctr w f rest [.int a t1, .int b t2] (k + 1) (8 * k + 8) (fun _ K => ∀ t, K (.int (dv M ((ds.drop l).take k)) t) rest) := by
  intro k
  induction k using Nat.strongRecOn with
  | ind k ih =>
  intro hk1 l a b t1 t2 ha hb hlk
  subst ha hb
  unfold Ctr
  k_fill
  intro p loose mean mg mb dp un gd cn cs a' ccd cl outer A₀ base h₀ L m s Q E B F X' N T hk hd hu h51 hret
  replace N := news_more N mD
  have hsub : ∀ p ∈ rest, p ∈ (D, listOf dvs.toArray nD) :: rest := fun p hp => .tail _ hp
  (refine wpAny_call ?_; k_dflt (refine' enter_nest ?k1 ?k2 ?k3 ?k4 ?k5 ?kA ?kF ?kK ?k6 ?k7 ?k8 ?k9 ?kB ?_ ?c2 ?c3 ?c4 ?c5; (case kA => exact rfl); (case kF => exact rfl); (case kK => first | exact rfl | assumption); (case k1 => k_asm); (case k2 => k_asm); (case k3 => k_asm); (case k4 => k_asm); (case k5 => k_asm); (case k6 => k_mem); (case k7 => exact codeRec_news (by k_asm) (by k_mem) (by assumption) (by assumption)); (case k8 => ktr_room); (case k9 => exact BindsTo.of_eq rfl); (case c5 => decide); (case kB => exact locs rfl); (case c2 => exact rfl); (case c3 => exact rfl); (case c4 => exact rfl); k_whole; intro zg' zL' zh' zFG' zF' zN' zB' zX' zT' zlo'; have zhLL := lt_frames zFG' zF'; (try dsimp only); k_unmd; k_fold))
  conv in (sBody innerSt2) => whnf
  have CH := codeHd_of_K (c := 48) (P := 44) X' (by kernel_rfl)
  obtain ⟨j, hj⟩ : ∃ j, j = k / 2 := ⟨_, rfl⟩
  k_with_none
  k_with "my rshift" => (refine rshift_to (r := ((l + j : Nat) : Int)) (by decide) (by show Int.fdiv _ 2 = _; rw [Int.fdiv_eq_ediv_of_nonneg _ (by decide)]; omega) ?_)
  k_with "my mult" => (refine mul_to (r := ((M * j : Nat) : Int)) (by omega) (by rw [Int.natCast_mul, Int.mul_comm]; congr 1; omega) ?_)
  k_with "my call" => refine Halt.of ?_
  k_steps
  · have h1 : k = 1 := by omega
    subst h1
    have e : dv M ((ds.drop l).take 1) = ds.getD ((l : Int)).toNat 0 := by
      rw [cut_one ds l hlk, dv_one, Int.toNat_natCast]
    rw [e] at hret
    (with_reducible rename News _ _ _ _ => N4)
    exact hret _ _ _ (by k_asm) (news_sub N4 hsub)
  · have hj1 : 1 ≤ j := by omega
    have hj2 : j < k := by omega
    have hMj : M * j ≤ 64 * 64 := Nat.mul_le_mul hM2 (by omega)
    unfold Halt
    (with_reducible rename News _ _ _ _ => NN)
    have hjk : (((l + k : Nat)) : Int) = (((l + j) + (k - j) : Nat) : Int) := by congr 1; omega
    refine ih (k - j) (by omega) (by omega) (l + j) _ _ _ _ rfl hjk (by omega) (by k_asm) (by k_asm) (by k_asm) (news_sub NN hsub) (by k_asm) (by first | exact rfl | assumption) (by ktr_room) (by ktr_units) (by omega) ?_
    intro t4 h1 tk1 F1 N1
    replace N1 := news_more N1 mD
    dsimp only
    k_with_none
    k_with "my lshift" => (refine lshift_to (r := dv M ((ds.drop (l + j)).take (k - j)) * 2 ^ (M * j)) (by exact Int.natCast_nonneg _) (dv_small M hM2 _ (fun d hd => hds d (cut_mem hd)) (by rw [cut_len _ _ _ (by omega)]; omega)) (by omega) (by rw [Int.toNat_natCast]) ?_)
    k_with "my call" => refine Halt.of ?_
    k_steps
    unfold Halt
    (with_reducible rename News _ _ _ _ => NN2)
    refine ih j hj2 hj1 l _ _ _ _ rfl rfl (by omega) (by k_asm) (by k_asm) (by k_asm) (news_sub NN2 hsub) (by k_asm) (by first | exact rfl | assumption) (by ktr_room) (by ktr_units) (by omega) ?_
    intro t5 h2 tk2 F2 N2
    replace N2 := news_more N2 mD
    dsimp only
    k_steps
    have e : dv M ((ds.drop l).take k) = dv M ((ds.drop (l + j)).take (k - j)) * 2 ^ (M * j) + dv M ((ds.drop l).take j) := by
      rw [cut_two ds l j k (by omega), dv_append, cut_len _ _ _ (by omega), Int.add_comm, Int.mul_comm]
    rw [e] at hret
    (with_reducible rename News _ _ _ _ => N4)
    exact hret _ _ _ (by k_asm) (news_sub N4 hsub)
-- d2i
def Grown51 (T : List (Addr × Obj)) : Prop := ∃ (c' : Addr) (oc : Obj) (cvs : Array Value) (tq : Tok), T = [(51, tabObj #[rawInt 54, rawInt 4, .ref c']), (c', oc)] ∧ oc.data = .fields cvs ∧ cvs[1]? = some (.str innerQ2 tq) ∧ @LT.lt Nat _ 51 c'
def Tbl51 (T : List (Addr × Obj)) : Prop := T = [(51, tabObj #[])] ∨ Grown51 T
theorem grown51_of {h₀ h : Heap} {L : Addr} {l : List (Addr × Obj)} {c' : Addr} {oc : Obj} {cvs : Array Value} {tq : Tok} (_N : News h₀ L h l) (m : (51, tabObj (#[] ++ #[rawInt (54 : Nat), rawInt (4 : Nat), .ref c'])) ∈ l) (mc : (c', oc) ∈ l) (e1 : oc.data = .fields cvs) (e2 : cvs[1]? = some (.str innerQ2 tq)) (hc : @LT.lt Nat _ 51 c') :
    ∃ T, Grown51 T ∧ ∀ p ∈ T, p ∈ l := ⟨[(51, tabObj #[rawInt 54, rawInt 4, .ref c']), (c', oc)], ⟨c', oc, cvs, tq, rfl, e1, e2, hc⟩, fun p hp => by
  rcases List.mem_cons.mp hp with rfl | hp
  · exact m
  · rw [List.mem_singleton.mp hp]; exact mc⟩
theorem d2i_spec (w : World) (news T : List (Addr × Obj)) (lD : Addr) (dvs : List Value) (ds : List Int) (nn : Nat) (n : Int) (M : Nat) (u : Tok) (en : n = (M : Int)) (hM2 : M ≤ 64) (mD : (lD, listOf dvs.toArray nn) ∈ news) (hI : IntsAre dvs ds) (hds : ∀ d ∈ ds, d.natAbs < 2 ^ 64) (hdl : ds.length ≤ 64) (hT : Tbl51 T) (hne : ∀ p ∈ news, p.1 ≠ 51) :
    Ctr w 56 (T ++ news) [.ref lD, .int n u] 70 700 (fun _ K => ∀ t T', Grown51 T' → K (.int (dv M ds) t) (T' ++ news)) := by
  subst en
  unfold Ctr
  k_fill
  intro p loose mean mg mb dp un gd cn cs a ccd cl outer A₀ base h₀ L m s Q E B F X' N TT hk hd hu h51 hret
  have hD51 : @Ne Nat lD 51 := hne _ mD
  rcases hT with rfl | ⟨c', oc, cvs, tq, rfl, e1, e2, hc'⟩
  · have N1 := news_more N (List.mem_append_right _ mD)
    simp only [List.cons_append, List.nil_append] at N1
    clear N
    (refine wpAny_call ?_; k_dflt (refine' code_defC ?k1 ?k2 ?k3 ?k4 ?k5 ?kA ?kF ?kK ?k6 ?k7 ?k8 ?k9 ?kB ?kD ?_ ?c2 ?c3 ?c4; (case kA => exact rfl); (case kF => exact rfl); (case kK => first | exact rfl | assumption); (case k1 => k_asm); (case k2 => k_asm); (case k3 => k_asm); (case k4 => k_asm); (case k5 => k_asm); (case k6 => k_is); (case k7 => k_is); (case k8 => ktr_room); (case k9 => first | exact BindsTo.of_eq rfl | exact binds_K (by k_in) rfl (by k_is) rfl rfl rfl | fail "k_enter: no rule for these arguments"); (case kB => exact rfl); (case kD => decide +kernel); (case c2 => exact rfl); (case c3 => exact rfl); (case c4 => exact rfl); k_whole; intro zg' zL' zh' ztk' zcells' zFG' zF' zN' zY' zB' zX' zT' zl1; have zlo' := Lo.mk zl1; have zhLL := lt_frames zFG' zF'; (try k_lt zl1); k_cells zY'; (try simp only [List.cons_append, List.nil_append] at zN'); (try dsimp only); k_unmd; k_fold))
    (with_reducible rename Frag.In _ _ => Xg)
    have CH := codeHd_of_K (c := 55) (P := 51) Xg (by kernel_rfl)
    k_with_none
    k_with "my len" => (refine' len_to ?k1 ?k2 ?k3 ?k4 ?k5 ?_; (case k1 => k_asm); (case k2 => k_mem); (case k3 => assumption); (case k4 => exact rfl); (case k5 => omega); intro t' tk')
    k_with "my call" => refine Halt.of ?_
    k_steps
    · unfold Halt
      (with_reducible rename News _ _ _ _ => NN)
      have hl1 : 1 ≤ ds.length := by omega
      refine inner2_spec w M hM2 _ _ _ _ _ _ _ _ _ _ _ _ _ _ _ _ _ dvs ds _ (by k_mem) hI hds hdl (by k_mem) (by k_mem) (by assumption) (by assumption) (by k_mem) (by with_unfolding_all assumption) (by k_mem) (by with_unfolding_all assumption) (by k_mem) (by with_unfolding_all assumption) ds.length hl1 0 _ _ _ _ rfl (by rw [Nat.zero_add]) (by omega) (by k_asm) (by k_asm) (by k_asm) NN (by k_asm) (by first | exact rfl | assumption) (by ktr_room) (by ktr_units) (by omega) ?_
      intro t4 h1 tk1 F1 N1
      dsimp only
      k_steps
      (with_reducible rename News _ _ _ _ => N4)
      have e : dv M ((ds.drop 0).take ds.length) = dv M ds := by rw [List.drop_zero, List.take_length]
      rw [e]
      obtain ⟨T', hT', hs⟩ := grown51_of N4 (by k_mem) (by k_mem) (by assumption) (by assumption) (by omega)
      refine hret _ T' hT' _ _ (by k_asm) (news_sub N4 fun p hp => ?_)
      rcases List.mem_append.mp hp with hp | hp
      · exact hs p hp
      · walk_at "MINE tailmem"
    · have h0 : ds = [] := List.length_eq_zero_iff.mp (by omega)
      subst h0
      (with_reducible rename News _ _ _ _ => N4)
      obtain ⟨T', hT', hs⟩ := grown51_of N4 (by k_mem) (by k_mem) (by assumption) (by assumption) (by omega)
      refine hret _ T' hT' _ _ (by k_asm) (news_sub N4 fun p hp => ?_)
      rcases List.mem_append.mp hp with hp | hp
      · exact hs p hp
      · walk_at "MINE tailmem"
  · have N1 := news_more N (List.mem_append_right _ mD)
    simp only [List.cons_append, List.nil_append] at N1
    clear N
    (refine wpAny_call ?_; k_dflt (refine' code_defC ?k1 ?k2 ?k3 ?k4 ?k5 ?kA ?kF ?kK ?k6 ?k7 ?k8 ?k9 ?kB ?kD ?_ ?c2 ?c3 ?c4; (case kA => exact rfl); (case kF => exact rfl); (case kK => first | exact rfl | assumption); (case k1 => k_asm); (case k2 => k_asm); (case k3 => k_asm); (case k4 => k_asm); (case k5 => k_asm); (case k6 => k_is); (case k7 => k_is); (case k8 => ktr_room); (case k9 => first | exact BindsTo.of_eq rfl | exact binds_K (by k_in) rfl (by k_is) rfl rfl rfl | fail "k_enter: no rule for these arguments"); (case kB => exact rfl); (case kD => decide +kernel); (case c2 => exact rfl); (case c3 => exact rfl); (case c4 => exact rfl); k_whole; intro zg' zL' zh' ztk' zcells' zFG' zF' zN' zY' zB' zX' zT' zl1; have zlo' := Lo.mk zl1; have zhLL := lt_frames zFG' zF'; (try k_lt zl1); k_cells zY'; (try simp only [List.cons_append, List.nil_append] at zN'); (try dsimp only); k_unmd; k_fold))
    (with_reducible rename Frag.In _ _ => Xg)
    have CH := codeHd_of_K (c := 55) (P := 51) Xg (by kernel_rfl)
    k_with_none
    k_with "my len" => (refine' len_to ?k1 ?k2 ?k3 ?k4 ?k5 ?_; (case k1 => k_asm); (case k2 => k_mem); (case k3 => assumption); (case k4 => exact rfl); (case k5 => omega); intro t' tk')
    k_with "my call" => refine Halt.of ?_
    k_steps
    · unfold Halt
      (with_reducible rename News _ _ _ _ => NN)
      have hl1 : 1 ≤ ds.length := by omega
      refine inner2_spec w M hM2 _ _ _ _ _ _ _ _ _ _ _ _ _ _ _ _ _ dvs ds _ (by k_mem) hI hds hdl (by k_mem) (by k_mem) e1 e2 (by k_mem) (by with_unfolding_all assumption) (by k_mem) (by with_unfolding_all assumption) (by k_mem) (by with_unfolding_all assumption) ds.length hl1 0 _ _ _ _ rfl (by rw [Nat.zero_add]) (by omega) (by k_asm) (by k_asm) (by k_asm) NN (by k_asm) (by first | exact rfl | assumption) (by ktr_room) (by ktr_units) (by omega) ?_
      intro t4 h1 tk1 F1 N1
      dsimp only
      k_steps
      (with_reducible rename News _ _ _ _ => N4)
      have e : dv M ((ds.drop 0).take ds.length) = dv M ds := by rw [List.drop_zero, List.take_length]
      rw [e]
      obtain ⟨T', hT', hs⟩ := grown51_of N4 (by k_mem) (by k_mem) e1 e2 hc'
      refine hret _ T' hT' _ _ (by k_asm) (news_sub N4 fun p hp => ?_)
      rcases List.mem_append.mp hp with hp | hp
      · exact hs p hp
      · walk_at "MINE tailmem"
    · have h0 : ds = [] := List.length_eq_zero_iff.mp (by omega)
      subst h0
      (with_reducible rename News _ _ _ _ => N4)
      obtain ⟨T', hT', hs⟩ := grown51_of N4 (by k_mem) (by k_mem) e1 e2 hc'
      refine hret _ T' hT' _ _ (by k_asm) (news_sub N4 fun p hp => ?_)
      rcases List.mem_append.mp hp with hp | hp
      · exact hs p hp
      · walk_at "MINE tailmem"
-- div
abbrev tup2 (q r : Int) (t1 t2 : Tok) : Obj := { cls := .type "tuple", data := .seq #[.int q t1, .int r t2] }
theorem divmod_to {w : World} {prog : Program} {A : Around} {h₀ : Heap} {L : Addr} {m : Str → Option Value} {s : Shared} {news : List (Addr × Obj)} {E : Value → Shared → Prop} {a b : Int} {t u : Tok} {Q : Value → Shared → Prop}
    (F : Fr h₀ L s.heap m) (N : News h₀ L s.heap news) (hb : b ≠ 0) (hb2 : b.natAbs < 2 ^ 1000)
    (h : ∀ (D : Addr) (t1 t2 : Tok) h' tk, Fr h₀ L h' m → News h₀ L h' ((D, tup2 (a.fdiv b) (a.fmod b) t1 t2) :: news) → (∀ p ∈ news, p.1 < D) → @LT.lt Nat _ L D → Q (.ref D) { s with heap := h', toks := tk }) :
    wpAny (model prog w) A (call (.builtin "divmod") [.int a t, .int b u]) Q E s := by
  have hbits := (intBits_le_iff (m := 1000) (x := b)).mpr hb2
  have hlog : b.natAbs.log2 < 9000 := by
    unfold Builtin.Int.intBits at hbits
    rw [beq_eq_false_iff_ne.mpr hb] at hbits
    simp only [Bool.false_eq_true, if_false] at hbits
    omega
  exact divmod_N F N hb (fun h' F' N' => h _ _ _ _ _ F' N' (fun p hp => Heap.lt_size (N p hp).1) F.ns.lt) (Or.inl (PyProof.noPylong_of_log2 hlog))
theorem div_spec (w : World) (news : List (Addr × Obj)) (a b n : Int) (t u v : Tok) (ha : 0 ≤ a) (ha2 : a < 2 ^ 1000) (hb : 0 < b) (hb2 : b < 2 ^ 1000) (hn : 0 ≤ n) :
    Ctr w 35 news [.int a t, .int b u, .int n v] 2 16 (fun L K => ∀ D t1 t2, @LT.lt Nat _ L D → (∀ p ∈ news, p.1 < D) → K (.ref D) ((D, tup2 (a.fdiv b) (a.fmod b) t1 t2) :: news)) := by
  have hbits : (Builtin.Int.intBits a : Int) ≤ 1000 := by
    have := (intBits_le_iff (m := 1000) (x := a)).mpr (by omega)
    omega
  unfold Ctr
  k_fill
  intro p loose mean mg mb dp un gd cn cs a' ccd cl outer A₀ base h₀ L m s Q E B F X' N T hk hd hu h51 hret
  (refine wpAny_call ?_; k_dflt (refine' enter_def ?k1 ?k2 ?k3 ?k4 ?k5 ?kA ?kF ?kK ?k6 ?k7 ?k8 ?k9 ?kB ?_ ?c2 ?c3 ?c4 ?c5; (case kA => exact rfl); (case kF => exact rfl); (case kK => first | exact rfl | assumption); (case k1 => k_asm); (case k2 => k_asm); (case k3 => k_asm); (case k4 => k_asm); (case k5 => k_asm); (case k6 => k_is); (case k7 => k_is); (case k8 => ktr_room); (case k9 => exact BindsTo.of_eq rfl); (case c5 => decide); (case kB => exact locs rfl); (case c2 => exact rfl); (case c3 => exact rfl); (case c4 => exact rfl); k_whole; intro zg' zL' zh' zFG' zF' zN' zB' zX' zT' zlo'; have zhLL := lt_frames zFG' zF'; (try dsimp only); k_unmd; k_fold))
  k_with_none
  k_with "my divmod" => (refine' divmod_to ?k1 ?k2 (by omega) (by omega) ?_; (case k1 => k_asm); (case k2 => k_asm); intro D t1 t2 h2 tk2 F2 N2 l2 l3)
  k_steps
  exact hret _ _ _ (by omega) l2 _ _ (by k_asm) (by k_asm)
-- dmp
structure DS where
  r : Int
  tr : Tok
  qv : List Value
  qs : List Int
  k : Nat
def DP (as : List Int) (M B : Nat) (rs : List Int) (c : DS) : Prop :=
  IntsAre c.qv c.qs ∧ ∃ hi, as = rs.reverse ++ hi ∧ dv M c.qs.reverse * (B : Int) + c.r = dv M hi ∧ 0 ≤ c.r ∧ c.r < (B : Int) ∧ c.qs.length = hi.length ∧ ∀ q ∈ c.qs, 0 ≤ q ∧ q < 2 ^ M
theorem dmp_spec (w : World) (news T1 T2 : List (Addr × Obj)) (a b : Int) (X B : Nat) (t u : Tok) (ea : a = (X : Int)) (eb : b = (B : Int)) (hX : X < 2 ^ 48) (hB : 1 ≤ B) (hB2 : B < 2 ^ 48) (hT1 : Grown44 T1) (hT1s : ∀ p ∈ T1, p ∈ news) (hT2 : Tbl51 T2) (hne : ∀ p ∈ news, p.1 ≠ 51) :
    Ctr w 63 (T2 ++ news) [.int a t, .int b u] 80 900 (fun L K => ∀ D t1 t2 T2', @LT.lt Nat _ L D → (∀ p ∈ news, p.1 < D) → Grown51 T2' → K (.ref D) ((D, tup2 ((X / B : Nat) : Int) ((X % B : Nat) : Int) t1 t2) :: (T2' ++ news))) := by
  subst ea eb
  unfold Ctr
  k_fill
  intro p loose mean mg mb dp un gd cn cs a' ccd cl outer A₀ base h₀ L m s Q E B' F X' N T hk hd hu h51 hret
  (refine wpAny_call ?_; k_dflt (refine' enter_def ?k1 ?k2 ?k3 ?k4 ?k5 ?kA ?kF ?kK ?k6 ?k7 ?k8 ?k9 ?kB ?_ ?c2 ?c3 ?c4 ?c5; (case kA => exact rfl); (case kF => exact rfl); (case kK => first | exact rfl | assumption); (case k1 => k_asm); (case k2 => k_asm); (case k3 => k_asm); (case k4 => k_asm); (case k5 => k_asm); (case k6 => k_is); (case k7 => k_is); (case k8 => ktr_room); (case k9 => exact BindsTo.of_eq rfl); (case c5 => decide); (case kB => exact locs rfl); (case c2 => exact rfl); (case c3 => exact rfl); (case c4 => exact rfl); k_whole; intro zg' zL' zh' zFG' zF' zN' zB' zX' zT' zlo'; have zhLL := lt_frames zFG' zF'; (try dsimp only); k_unmd; k_fold))
  k_with_none
  k_with "my call" => refine Halt.of ?_
  k_with "my iter" => refine Halt.of ?_
  k_steps
  unfold Halt
  obtain ⟨M, hMd⟩ : ∃ M, M = bl B := ⟨_, rfl⟩
  have hM1 : 1 ≤ M := by rw [hMd]; unfold bl; split <;> omega
  have hM2 : M ≤ 48 := by rw [hMd]; exact bl_le B 48 hB2
  have eM : ((Builtin.Int.intBits (B : Int) : Nat) : Int) = (M : Int) := by rw [bl_bits, hMd]
  refine digs_next w _ T1 _ _ X M _ _ rfl eM hX hM1 (by omega) hT1 (fun p hp => List.mem_append_right _ (hT1s p hp)) (by k_asm) (by k_asm) (by k_asm) (by k_asm) (by k_asm) (by first | exact rfl | assumption) (by ktr_room) (by ktr_units) (by omega) ?_
  intro Da das lDa hDa h1 tk1 F1 N1
  dsimp only
  k_steps
  unfold Halt
  (with_reducible rename Fr _ _ _ _ => FF)
  (with_reducible rename News _ _ _ _ => NN)
  (with_reducible rename Lo _ _ => lo)
  have eM2 : (((Builtin.Int.intBits (B : Int) : Nat) : Int)).toNat = M := by omega
  refine news_name1 NN fun lq elq => ?_
  dsimp only at elq
  subst elq
  refine rev_loop (σ := DS) (fun c => (lq, listOf c.qv.toArray c.k) :: (Da, listOf das.toArray 0) :: (T2 ++ news)) (fun c => [(Str.ofString "r", .int c.r c.tr)]) ["q_digit"] (DP (dg M (nlen M X) X) M B) ⟨0, _, [], [], 0⟩ rfl FF NN (by simp only [envOf]; omega) (noCls_cons (isRev_list _ _) (noCls_cons (isRev_list _ _) (noCls_lo lo))) (fun c => .tail _ (.head _)) rfl rfl hDa (by kst_all) ?_ ?_ ?_
  · exact ⟨.nil, [], by simp, by simp [dv], by simp, by show (0 : Int) < B; omega, rfl, fun q hq => nomatch hq⟩
  · rintro ⟨r, tr, qv, qs, k⟩ z rs t1 u1 it h2 tk2 hcl ⟨hq, hi, e1, e2, e3, e4, e5, e6⟩ F2 N2
    dsimp only at hq e2 e3 e4 e5 e6 F2 N2 ⊢
    dsimp only [kstB] at F2
    k_with_none
    k_with "my lshift" => (refine lshift_to (r := r * 2 ^ M) (by omega) ?sh (by omega) (by rw [eM2]) ?_)
    k_with "my call" => refine Halt.of ?_
    k_steps
    unfold Halt
    have hz := dg_mem M _ X z (by rw [e1]; simp)
    obtain ⟨g1, g2, g3, g4, g5, g6, g7⟩ := long_step e3 e4 hz.1 hz.2 hB2 hM2
    refine div_spec w _ _ _ _ _ _ _ g1 g2 (by omega) (by omega) (Int.natCast_nonneg _) (by k_asm) (by k_asm) (by k_asm) (by k_asm) (by k_asm) (by first | exact rfl | assumption) (by ktr_room) (by ktr_units) (by omega) ?_
    intro Dq td1 td2 lDq lDq2 h3 tk3 F3 N3
    k_lt lDq2
    dsimp only
    k_with_none
    have hle := nlen_le M X 48 hM1 hX
    have hlen : qv.length ≤ 1000 := by
      have l1 := congrArg List.length e1
      have l2 := IntsAre.length hq
      rw [dg_len, List.length_append] at l1
      omega
    k_with "my append" => (refine' append_to ?F ?N ?U hlen ?_; (case F => k_asm); (case N => k_asm); (case U => k_upd); intro h' F' N')
    k_steps
    (with_reducible rename Fr _ _ _ _ => F5)
    (with_reducible rename News _ _ _ _ => N5)
    refine turn_end (σ := DS) ⟨_, td2, qv ++ [.int ((r * 2 ^ M + z).fdiv B) td1], qs ++ [(r * 2 ^ M + z).fdiv B], k + 1⟩ F5 N5 (.tail _ (.head _)) hcl (fun p hp => .tail _ (.tail _ hp)) (noCls_cons (isRev_list _ _) (noCls_cons (isRev_list _ _) (noCls_lo lo))) (by simp only [envOf]; omega) (by kst_all) (by kst_same) ?_
    refine ⟨IntsAre.append hq (.cons _ _ .nil), z :: hi, ?_, ?_, g5, g6, ?_, ?_⟩
    · rw [e1]; simp
    · show dv M (qs ++ [(r * 2 ^ M + z).fdiv B]).reverse * (B : Int) + (r * 2 ^ M + z).fmod B = dv M (z :: hi)
      rw [List.reverse_append]
      show ((r * 2 ^ M + z).fdiv B + 2 ^ M * dv M qs.reverse) * (B : Int) + (r * 2 ^ M + z).fmod B = z + 2 ^ M * dv M hi
      rw [← e2, Int.add_mul, Int.mul_add, Int.mul_assoc, Int.mul_comm (2 ^ M) r]
      omega
    · simp [e5]
    · intro q hqm
      rcases List.mem_append.mp hqm with hqm | hqm
      · exact e6 q hqm
      · rw [List.mem_singleton.mp hqm]; exact ⟨g3, g4⟩
  · rintro ⟨r, tr, qv, qs, k⟩ u1 h2 tk2 ⟨hq, hi, e1, e2, e3, e4, e5, e6⟩ F2 N2
    dsimp only at hq e2 e3 e4 e5 e6 F2 N2 ⊢
    dsimp only [kstB, envOf] at F2 N2
    k_with_none
    have hle := nlen_le M X 48 hM1 hX
    have hlen : qv.length ≤ 1000 := by
      have l1 := congrArg List.length e1
      have l2 := IntsAre.length hq
      rw [dg_len, List.length_append] at l1
      omega
    k_with "my reverse" => (refine' kl_reverse (its := qv.toArray) (l := qv.reverse) ?F ?N rfl ?U (by rw [sizeLine_eq]; show qv.length ≤ _; omega) ?_; (case F => k_asm); (case N => k_asm); (case U => k_upd); intro h' F' N')
    k_with "my call" => refine Halt.of ?_
    k_steps
    (with_reducible rename Fr _ _ _ _ => F5)
    (with_reducible rename News _ _ _ _ => N5)
    unfold Halt
    have hqr : ∀ d ∈ qs.reverse, d.natAbs < 2 ^ 64 := fun d hd => by
      have := e6 d (List.mem_reverse.mp hd)
      have e := two_pow_cast M
      have hp : (2 : Nat) ^ M ≤ 2 ^ 48 := Nat.pow_le_pow_right (by decide) hM2
      rw [e] at this
      generalize (2 : Nat) ^ M = y at *
      omega
    have hql : qs.reverse.length ≤ 64 := by
      have l1 := congrArg List.length e1
      rw [dg_len, List.length_append] at l1
      rw [List.length_reverse]; omega
    have N6 := news_sub (news' := T2 ++ ((lq, listOf qv.reverse.toArray k) :: (Da, listOf das.toArray 0) :: news)) N5 fun p hp => by
      simp only [List.mem_append, List.mem_cons] at hp ⊢
      rcases hp with h | h | h | h
      · exact .inr (.inr (.inl h))
      · exact .inl h
      · exact .inr (.inl h)
      · exact .inr (.inr (.inr h))
    have hne2 : ∀ p ∈ ((lq, listOf qv.reverse.toArray k) :: (Da, listOf das.toArray 0) :: news : List (Addr × Obj)), p.1 ≠ 51 := fun p hp => by
      rcases List.mem_cons.mp hp with rfl | hp
      · exact neN (by show @Ne Nat lq 51; omega)
      · rcases List.mem_cons.mp hp with rfl | hp
        · exact neN (by show @Ne Nat Da 51; omega)
        · exact hne p hp
    refine d2i_spec w ((lq, listOf qv.reverse.toArray k) :: (Da, listOf das.toArray 0) :: news) T2 lq qv.reverse qs.reverse k _ M _ eM (by omega) (.head _) hq.reverse hqr hql hT2 hne2 (by k_asm) F5 (by k_asm) N6 (by k_asm) (by first | exact rfl | assumption) (by ktr_room) (by ktr_units) (by omega) ?_
    intro tq T2' hT2' h3 tk3 F3 N3
    have N7 := news_sub (news' := (lq, listOf qv.reverse.toArray k) :: (Da, listOf das.toArray 0) :: (T2' ++ news)) N3 fun p hp => by
      simp only [List.mem_append, List.mem_cons] at hp ⊢
      rcases hp with h | h | h | h
      · exact .inr (.inl h)
      · exact .inr (.inr (.inl h))
      · exact .inl h
      · exact .inr (.inr (.inr h))
    clear N3 N6
    dsimp only
    k_with_none
    k_steps
    have hi2 : hi = dg M (nlen M X) X := by simpa using e1.symm
    rw [hi2, dv_dg M _ X (nlen_lt M X hM1)] at e2
    obtain ⟨q1, q2⟩ := long_end e2 e3 e4
    (with_reducible rename News _ _ _ _ => N8)
    (with_reducible rename _ ∧ _ => l9)
    rw [q1, q2] at N8
    refine hret _ tq tr T2' (by omega) (fun p hp => allLt_mem (d := _) (l9.2.2) p (List.mem_append_right _ hp)) hT2' _ _ (by k_asm) (news_sub N8 fun p hp => ?_)
    · rcases List.mem_cons.mp hp with rfl | hp
      · k_mem
      · walk_at "MINE tailmem"
-- idm
theorem idm_spec (w : World) (news T1 T2 : List (Addr × Obj)) (a b : Int) (X B : Nat) (t u : Tok) (ea : a = (X : Int)) (eb : b = (B : Int)) (hX : X < 2 ^ 48) (hB : 1 ≤ B) (hB2 : B < 2 ^ 48) (hT1 : Grown44 T1) (hT1s : ∀ p ∈ T1, p ∈ news) (hT2 : Tbl51 T2) (hne : ∀ p ∈ news, p.1 ≠ 51) :
    Ctr w 70 (T2 ++ news) [.int a t, .int b u] 90 1000 (fun L K => ∀ D t1 t2 T2', @LT.lt Nat _ L D → (∀ p ∈ news, p.1 < D) → Grown51 T2' → K (.ref D) ((D, tup2 ((X / B : Nat) : Int) ((X % B : Nat) : Int) t1 t2) :: (T2' ++ news))) := by
  subst ea eb
  unfold Ctr
  k_fill
  intro p loose mean mg mb dp un gd cn cs a' ccd cl outer A₀ base h₀ L m s Q E B' F X' N T hk hd hu h51 hret
  (refine wpAny_call ?_; k_dflt (refine' enter_def ?k1 ?k2 ?k3 ?k4 ?k5 ?kA ?kF ?kK ?k6 ?k7 ?k8 ?k9 ?kB ?_ ?c2 ?c3 ?c4 ?c5; (case kA => exact rfl); (case kF => exact rfl); (case kK => first | exact rfl | assumption); (case k1 => k_asm); (case k2 => k_asm); (case k3 => k_asm); (case k4 => k_asm); (case k5 => k_asm); (case k6 => k_is); (case k7 => k_is); (case k8 => ktr_room); (case k9 => exact BindsTo.of_eq rfl); (case c5 => decide); (case kB => exact locs rfl); (case c2 => exact rfl); (case c3 => exact rfl); (case c4 => exact rfl); k_whole; intro zg' zL' zh' zFG' zF' zN' zB' zX' zT' zlo'; have zhLL := lt_frames zFG' zF'; (try dsimp only); k_unmd; k_fold))
  k_with_none
  k_with "my call" => refine Halt.of ?_
  k_steps
  any_goals (exfalso; omega)
  unfold Halt
  refine dmp_spec w news T1 T2 _ _ X B _ _ rfl rfl hX hB hB2 hT1 hT1s hT2 hne (by k_asm) (by k_asm) (by k_asm) (by k_asm) (by k_asm) (by first | exact rfl | assumption) (by ktr_room) (by ktr_units) (by omega) ?_
  intro D t1 t2 T2' lD lD2 hT2' h3 tk3 F3 N3
  dsimp only
  k_with_none
  k_steps
  exact hret _ _ _ T2' (by omega) lD2 hT2' _ _ (by k_asm) (by k_asm)
-- home
theorem grown51_ne {h₀ h : Heap} {L D : Addr} {its : Array Value} {n : Nat} {T l : List (Addr × Obj)} (N : News h₀ L h l) (hT : Tbl51 T) (hs : ∀ p ∈ T, p ∈ l) (hD : (D, listOf its n) ∈ l) : ∀ p ∈ T, p.1 ≠ D := by
  rcases hT with rfl | ⟨c', oc, cvs, tq, rfl, e1, e2, _⟩
  · intro p hp
    rw [List.mem_singleton.mp hp] at *
    exact news_ne N (hs _ (.head _)) hD (fun e => by cases congrArg Obj.cls e)
  · intro p hp
    rcases List.mem_cons.mp hp with rfl | hp
    · exact news_ne N (hs _ (.head _)) hD (fun e => by cases congrArg Obj.cls e)
    · rw [List.mem_singleton.mp hp]
      refine news_ne N (hs _ (.tail _ (.head _))) hD fun e => ?_
      rw [e] at e1
      cases e1
theorem isDown_tbl {L : Nat} {T : List (Addr × Obj)} (hT : Tbl51 T) : NoCls L IsDown T := by
  rcases hT with rfl | ⟨c', oc, cvs, tq, rfl, e1, e2, _⟩
  · exact noCls_cons (fun ⟨_, _, e⟩ => by cases congrArg Obj.cls e) noCls_nil
  · refine noCls_cons (fun ⟨_, _, e⟩ => by cases congrArg Obj.cls e) (noCls_cons (fun ⟨x, y, e⟩ => ?_) noCls_nil)
    dsimp only at e
    subst e
    cases e1
    cases e2
theorem news_before {h₀ h : Heap} {L : Addr} {a b : Addr × Obj} {T r : List (Addr × Obj)} (N : News h₀ L h (a :: b :: (T ++ r))) : News h₀ L h (T ++ (a :: b :: r)) := news_sub N fun q hq => by
  simp only [List.mem_cons, List.mem_append] at hq ⊢
  rcases hq with h | h | h | h
  · exact .inr (.inr (.inl h))
  · exact .inl h
  · exact .inr (.inl h)
  · exact .inr (.inr (.inr h))
theorem news_behind {h₀ h : Heap} {L : Addr} {x a b : Addr × Obj} {T r : List (Addr × Obj)} (N : News h₀ L h (x :: (T ++ (a :: b :: r)))) : News h₀ L h (x :: a :: b :: (T ++ r)) := news_sub N fun q hq => by
  simp only [List.mem_cons, List.mem_append] at hq ⊢
  rcases hq with h | h | h | h | h
  · exact .inl h
  · exact .inr (.inr (.inl h))
  · exact .inr (.inr (.inr (.inl h)))
  · exact .inr (.inl h)
  · exact .inr (.inr (.inr (.inr h)))
structure HS where
  N : Nat
  h : Int
  tn : Tok
  th : Tok
  bv : List Value
  bs : List Int
  k : Nat
  T : List (Addr × Obj)
def HP (m N : Nat) (h0 : Int) (i : Nat) (c : HS) : Prop :=
  IntsAre c.bv c.bs ∧ c.bs ++ homeList (m - i) c.N c.h = homeList m N h0 ∧ c.N ≤ N ∧ c.bs.length = i ∧ Tbl51 c.T
theorem home_spec (w : World) (news T1 T2 : List (Addr × Obj)) (a b : Int) (N m : Nat) (t u : Tok) (ea : a = (N : Int)) (eb : b = (m : Int)) (hN : N < 2 ^ 48) (hm : m ≤ 6) (hT1 : Grown44 T1) (hT1s : ∀ p ∈ T1, p ∈ news) (hT2 : Tbl51 T2) (hne : ∀ p ∈ news, p.1 ≠ 51) :
    Ctr w 112 (T2 ++ news) [.int a t, .int b u] 120 1400 (fun L K => ∀ D vs T2' k, @LT.lt Nat _ L D → Tbl51 T2' → IntsAre vs (homeList m N ((dg 8 (nlen 8 N) N).sum - 128 * (m : Int))).reverse → K (.ref D) ((D, listOf vs.toArray k) :: (T2' ++ news))) := by
  subst ea eb
  unfold Ctr
  k_fill
  intro p loose mean mg mb dp un gd cn cs a' ccd cl outer A₀ base h₀ L m' s Q E B' F X' NN T hk hd hu h51 hret
  (refine wpAny_call ?_; k_dflt (refine' enter_def ?k1 ?k2 ?k3 ?k4 ?k5 ?kA ?kF ?kK ?k6 ?k7 ?k8 ?k9 ?kB ?_ ?c2 ?c3 ?c4 ?c5; (case kA => exact rfl); (case kF => exact rfl); (case kK => first | exact rfl | assumption); (case k1 => k_asm); (case k2 => k_asm); (case k3 => k_asm); (case k4 => k_asm); (case k5 => k_asm); (case k6 => k_is); (case k7 => k_is); (case k8 => ktr_room); (case k9 => exact BindsTo.of_eq rfl); (case c5 => decide); (case kB => exact locs rfl); (case c2 => exact rfl); (case c3 => exact rfl); (case c4 => exact rfl); k_whole; intro zg' zL' zh' zFG' zF' zN' zB' zX' zT' zlo'; have zhLL := lt_frames zFG' zF'; (try dsimp only); k_unmd; k_fold))
  k_with_none
  k_with "my call" => refine Halt.of ?_
  k_with "my iter" => refine Halt.of ?_
  k_steps
  unfold Halt
  refine digs_next w _ T1 _ _ N 8 _ _ rfl rfl hN (by decide) (by decide) hT1 (fun p hp => List.mem_append_right _ (hT1s p hp)) (by k_asm) (by k_asm) (by k_asm) (by k_asm) (by k_asm) (by first | exact rfl | assumption) (by ktr_room) (by ktr_units) (by omega) ?_
  intro Da das lDa hDa h1 tk1 F1 N1
  dsimp only
  k_steps
  unfold Halt
  (with_reducible rename Fr _ _ _ _ => FF)
  (with_reducible rename News _ _ _ _ => N2)
  (with_reducible rename Lo _ _ => lo)
  (with_reducible rename IsRange _ _ _ _ _ _ _ _ => RR)
  refine news_name0 N2 fun lb elb => ?_
  dsimp only at elb
  subst elb
  (with_reducible rename _ ∧ _ => lA)
  have hlb : ∀ p ∈ ((Da, listOf das.toArray 0) :: news : List (Addr × Obj)), p.1 ≠ lb := fun p hp => by
    rcases List.mem_cons.mp hp with rfl | hp
    · exact neN (by show @Ne Nat Da lb; omega)
    · exact neN (Nat.ne_of_lt (allLt_mem lA.2 p (List.mem_append_right _ hp)))
  have N3 := news_sub (news' := (lb, listOf #[] 0) :: (T2 ++ ((Da, listOf das.toArray 0) :: news))) N2 fun p hp => by
    simp only [List.mem_append, List.mem_cons] at hp ⊢
    rcases hp with h | h | h | h
    · exact .inl h
    · exact .inr (.inr (.inl h))
    · exact .inr (.inl h)
    · exact .inr (.inr (.inr h))
  clear N2
  have hsum : das.length = das.length := rfl
  obtain ⟨h0, eh0⟩ : ∃ h0, h0 = (dg 8 (nlen 8 N) N).sum - 128 * (m : Int) := ⟨_, rfl⟩
  have loN : Lo _ news := ⟨fun p hp => lo.lt p (List.mem_append_right _ hp)⟩
  refine down_loop (σ := HS) (fun c => (lb, listOf c.bv.toArray c.k) :: (c.T ++ ((Da, listOf das.toArray 0) :: news))) (fun c => [(Str.ofString "number", .int (c.N : Int) c.tn), (Str.ofString "height", .int c.h c.th)]) ["figure"] (HP m N h0) ⟨N, (dg 8 (nlen 8 N) N).sum - 128 * (m : Int), _, _, [], [], 0, T2⟩ rfl RR (small_down (by omega) (by omega) (by omega) (by omega)) (n := m) (by rw [rangeSize_downNat]; omega) FF N3 (by kst_all) ?_ ?_ ?_
  · exact ⟨.nil, by simp [eh0], Nat.le_refl _, rfl, hT2⟩
  · rintro ⟨Nc, hc, tn, th, bv, bs, k, Tc⟩ I i t1 u1 it h2 tk2 hit hLI him ⟨hb, e1, e2, e3, hTc⟩ F2 N2
    dsimp only [envOf] at hb e1 e2 e3 hTc F2 N2 hLI ⊢
    dsimp only [kstB] at F2
    obtain ⟨kk, hkk⟩ : ∃ kk, kk = m - 1 - i := ⟨_, rfl⟩
    have hkn : (((m : Int) - 1 - (i : Int))).toNat = kk := by omega
    have hpow : 256 ^ kk < 2 ^ 48 := Nat.lt_of_le_of_lt (Nat.pow_le_pow_right (by decide) (show kk ≤ 5 by omega)) (by decide)
    have hpow1 : 1 ≤ 256 ^ kk := Nat.one_le_pow _ _ (by decide)
    have hnext := home_next him e1
    rw [← hkk] at hnext
    have hIlb : @Ne Nat I lb := news_ne N2 (.head _) (.tail _ (.head _)) fun e => isDown_list _ _ (e ▸ hit)
    have hlen : bv.length ≤ 1000 := by rw [IntsAre.length hb]; omega
    have hne3 : ∀ p ∈ ((I, it) :: (lb, listOf bv.toArray k) :: (Da, listOf das.toArray 0) :: news : List (Addr × Obj)), p.1 ≠ 51 := fun p hp => by
      rcases List.mem_cons.mp hp with rfl | hp
      · exact neN (by show @Ne Nat I 51; omega)
      · rcases List.mem_cons.mp hp with rfl | hp
        · exact neN (by show @Ne Nat lb 51; omega)
        · rcases List.mem_cons.mp hp with rfl | hp
          · exact neN (by show @Ne Nat Da 51; omega)
          · exact hne p hp
    k_with_none
    k_with "my call" => first
      | (refine isnt_spec w _ _ _ (by k_asm) (by k_asm) (by k_asm) (by k_asm) (by k_asm) (by first | exact rfl | assumption) (by ktr_room) (by ktr_units) (by omega) ?_; intro h' tk' F' N'; dsimp only)
      | refine Halt.of ?_
    k_with "my pow" => (refine pow_to (r := ((256 ^ kk : Nat) : Int)) (by omega) (by omega) (by decide) (by rw [hkn]; norm_cast) ?_)
    k_steps
    all_goals (
      unfold Halt
      (with_reducible rename News _ _ _ _ => N4)
      have N5 := news_before N4
      clear N4)
    · refine idm_spec w ((I, it) :: (lb, listOf bv.toArray k) :: (Da, listOf das.toArray 0) :: news) T1 Tc _ _ Nc 256 _ _ rfl rfl (by omega) (by decide) (by decide) hT1 (fun p hp => .tail _ (.tail _ (.tail _ (hT1s p hp)))) hTc hne3 (by k_asm) (by k_asm) (by k_asm) N5 (by k_asm) (by first | exact rfl | assumption) (by ktr_room) (by ktr_units) (by omega) ?_
      intro D t5 t6 T' lD lD2 hT' h3 tk3 F3 N6
      dsimp only
      have N7 := news_behind N6
      clear N6
      have hDlb : @Ne Nat D lb := Nat.ne_of_gt (lD2 (lb, _) (.tail _ (.head _)))
      have hTlb : ∀ p ∈ T' ++ ((Da, listOf das.toArray 0) :: news), p.1 ≠ lb := fun p hp => by
        rcases List.mem_append.mp hp with hp | hp
        · exact grown51_ne N7 (.inr hT') (fun p hp => .tail _ (.tail _ (.tail _ (List.mem_append_left _ hp)))) (.tail _ (.tail _ (.head _))) p hp
        · exact hlb p hp
      k_with "my append" => (refine' append_to ?F ?N ?U hlen ?_; (case F => k_asm); (case N => k_asm); (case U => k_upd); intro h' F' N')
      k_steps
      (with_reducible rename Fr _ _ _ _ => F9)
      (with_reducible rename News _ _ _ _ => N9)
      have hh : 0 < hc := by omega
      rw [homeStep_up hh] at hnext
      refine turn_end (σ := HS) ⟨Nc / 256, hc - (((Nc % 256 : Nat) : Int) - 128), _, _, bv ++ [_], bs ++ [((Nc % 256 : Nat) : Int) - 128], k + 1, T'⟩ F9 N9 (.tail _ (.head _)) hit (fun p hp => .tail _ (.tail _ hp)) (noCls_cons (isDown_list _ _) (noCls_app (isDown_tbl (.inr hT')) (noCls_cons (isDown_list _ _) (noCls_lo loN)))) (by first | omega | (simp only [envOf]; omega)) (by kst_all) (by kst_same) ?_
      exact ⟨IntsAre.append hb (.cons _ _ .nil), hnext, Nat.le_trans (Nat.div_le_self _ _) e2, by simp [e3], .inr hT'⟩
    · refine idm_spec w ((I, it) :: (lb, listOf bv.toArray k) :: (Da, listOf das.toArray 0) :: news) T1 Tc _ _ Nc (256 ^ kk) _ _ rfl rfl (by omega) hpow1 hpow hT1 (fun p hp => .tail _ (.tail _ (.tail _ (hT1s p hp)))) hTc hne3 (by k_asm) (by k_asm) (by k_asm) N5 (by k_asm) (by first | exact rfl | assumption) (by ktr_room) (by ktr_units) (by omega) ?_
      intro D t5 t6 T' lD lD2 hT' h3 tk3 F3 N6
      dsimp only
      have N7 := news_behind N6
      clear N6
      have hDlb : @Ne Nat D lb := Nat.ne_of_gt (lD2 (lb, _) (.tail _ (.head _)))
      have hTlb : ∀ p ∈ T' ++ ((Da, listOf das.toArray 0) :: news), p.1 ≠ lb := fun p hp => by
        rcases List.mem_append.mp hp with hp | hp
        · exact grown51_ne N7 (.inr hT') (fun p hp => .tail _ (.tail _ (.tail _ (List.mem_append_left _ hp)))) (.tail _ (.tail _ (.head _))) p hp
        · exact hlb p hp
      k_with "my append" => (refine' append_to ?F ?N ?U hlen ?_; (case F => k_asm); (case N => k_asm); (case U => k_upd); intro h' F' N')
      k_steps
      (with_reducible rename Fr _ _ _ _ => F9)
      (with_reducible rename News _ _ _ _ => N9)
      have hh : ¬ 0 < hc := by omega
      rw [homeStep_down hh] at hnext
      refine turn_end (σ := HS) ⟨Nc % 256 ^ kk, hc - (((Nc / 256 ^ kk : Nat) : Int) - 128), _, _, bv ++ [_], bs ++ [((Nc / 256 ^ kk : Nat) : Int) - 128], k + 1, T'⟩ F9 N9 (.tail _ (.head _)) hit (fun p hp => .tail _ (.tail _ hp)) (noCls_cons (isDown_list _ _) (noCls_app (isDown_tbl (.inr hT')) (noCls_cons (isDown_list _ _) (noCls_lo loN)))) (by first | omega | (simp only [envOf]; omega)) (by kst_all) (by kst_same) ?_
      exact ⟨IntsAre.append hb (.cons _ _ .nil), hnext, Nat.le_trans (Nat.mod_le _ _) e2, by simp [e3], .inr hT'⟩
  · rintro ⟨Nc, hc, tn, th, bv, bs, k, Tc⟩ u1 h2 tk2 ⟨hb, e1, e2, e3, hTc⟩ F2 N2
    dsimp only at hb e1 e2 e3 hTc F2 N2 ⊢
    dsimp only [kstB, envOf] at F2 N2
    k_with_none
    have hlen : bv.length ≤ 1000 := by rw [IntsAre.length hb]; omega
    have hall : bs = homeList m N h0 := by
      rw [← e1, Nat.sub_self]
      simp [homeList]
    have hTlb : ∀ p ∈ Tc ++ ((Da, listOf das.toArray 0) :: news), p.1 ≠ lb := fun p hp => by
      rcases List.mem_append.mp hp with hp | hp
      · exact grown51_ne N2 hTc (fun p hp => .tail _ (List.mem_append_left _ hp)) (.head _) p hp
      · exact hlb p hp
    k_with "my reverse" => (refine' kl_reverse (its := bv.toArray) (l := bv.reverse) ?F ?N rfl ?U (by rw [sizeLine_eq]; show bv.length ≤ _; omega) ?_; (case F => k_asm); (case N => k_asm); (case U => k_upd); intro h' F' N')
    k_steps
    (with_reducible rename Fr _ _ _ _ => F5)
    (with_reducible rename News _ _ _ _ => N5)
    have hbr : IntsAre bv.reverse (homeList m N ((dg 8 (nlen 8 N) N).sum - 128 * (m : Int))).reverse := by
      rw [← eh0, ← hall]
      exact hb.reverse
    have lA1 := lA.1
    refine hret lb bv.reverse Tc k (by omega) hTc hbr _ _ (by k_asm) (news_sub N5 fun p hp => ?_)
    rcases List.mem_cons.mp hp with rfl | hp
    · exact .head _
    · rcases List.mem_append.mp hp with hp | hp
      · exact .tail _ (List.mem_append_left _ hp)
      · exact .tail _ (List.mem_append_right _ (.tail _ hp))
-- turned
def turnedGo : Int → Int → Nat → List Int → Int
  | n, _, _, [] => n
  | n, h, k, x :: xs => if 0 < h + x then turnedGo (n * 256 + x + 128) (h + x) (k + 1) xs else turnedGo (n + (x + 128) * 256 ^ k) (h + x) (k + 1) xs
theorem turned_up {n h : Int} {k : Nat} {x : Int} {xs : List Int} (g : 0 < h + x) : turnedGo n h k (x :: xs) = turnedGo (n * 256 + x + 128) (h + x) (k + 1) xs := by simp [turnedGo, g]
theorem turned_down {n h : Int} {k : Nat} {x : Int} {xs : List Int} (g : ¬ 0 < h + x) : turnedGo n h k (x :: xs) = turnedGo (n + (x + 128) * 256 ^ k) (h + x) (k + 1) xs := by simp [turnedGo, g]
structure TS where
  n : Int
  h : Int
  tn : Tok
  th : Tok
def TP (ns : List Int) (i : Nat) (c : TS) : Prop :=
  0 ≤ c.n ∧ c.n < 256 ^ i ∧ c.h.natAbs ≤ 120 * i ∧ turnedGo c.n c.h i (ns.drop i) = turnedGo 0 0 0 ns
theorem turned_spec (w : World) (news : List (Addr × Obj)) (R : Addr) (vs : List Value) (ns : List Int) (k : Nat) (hR : (R, listOf vs.toArray k) ∈ news) (hi : IntsAre vs ns) (hlen : ns.length ≤ 5) (hb : ∀ x ∈ ns, x.natAbs ≤ 120) :
    Ctr w 105 news [.ref R] 40 200 (fun _ K => ∀ t, K (.int (turnedGo 0 0 0 ns) t) news) := by
  unfold Ctr
  k_fill
  intro p loose mean mg mb dp un gd cn cs a' ccd cl outer A₀ base h₀ L m' s Q E B' F X' NN T hk hd hu h51 hret
  (refine wpAny_call ?_; k_dflt (refine' enter_def ?k1 ?k2 ?k3 ?k4 ?k5 ?kA ?kF ?kK ?k6 ?k7 ?k8 ?k9 ?kB ?_ ?c2 ?c3 ?c4 ?c5; (case kA => exact rfl); (case kF => exact rfl); (case kK => first | exact rfl | assumption); (case k1 => k_asm); (case k2 => k_asm); (case k3 => k_asm); (case k4 => k_asm); (case k5 => k_asm); (case k6 => k_is); (case k7 => k_is); (case k8 => ktr_room); (case k9 => exact BindsTo.of_eq rfl); (case c5 => decide); (case kB => exact locs rfl); (case c2 => exact rfl); (case c3 => exact rfl); (case c4 => exact rfl); k_whole; intro zg' zL' zh' zFG' zF' zN' zB' zX' zT' zlo'; have zhLL := lt_frames zFG' zF'; (try dsimp only); k_unmd; k_fold))
  k_with_none
  k_with "my call" => refine Halt.of ?_
  k_with "my iter" => refine Halt.of ?_
  k_with "my len" => refine len_to (by k_asm) (by k_mem) hi rfl (by omega) ?_; intro t9 tk9
  k_steps
  unfold Halt
  (with_reducible rename Fr _ _ _ _ => FF)
  (with_reducible rename News _ _ _ _ => N2)
  (with_reducible rename Lo _ _ => lo)
  (with_reducible rename IsRange _ _ _ _ _ _ _ _ => RR)
  refine up_loop (σ := TS) (fun c => news) (fun c => [(Str.ofString "number", .int c.n c.tn), (Str.ofString "height", .int c.h c.th)]) [] (TP ns) ⟨0, 0, _, _⟩ rfl RR (small_one (by omega) (by omega) (by omega) (by omega)) (n := ns.length) (by rw [rangeSize_nat]; omega) FF N2 (by kst_all) ?_ ?_ ?_
  · exact ⟨Int.le_refl _, by show (0 : Int) < 256 ^ 0; decide, by show (0 : Int).natAbs ≤ _; omega, by simp⟩
  · rintro ⟨nc, hc, tn, th⟩ I i t1 u1 it h2 tk2 hit hLI him ⟨e1, e2, e3, e4⟩ F2 N2
    dsimp only [envOf] at e1 e2 e3 e4 F2 N2 hLI ⊢
    dsimp only [kstB] at F2
    obtain ⟨x, rs, hd, hx, hdrop⟩ : ∃ x rs, ns.drop i = x :: rs ∧ ns.getD (Int.toNat (i : Int)) 0 = x ∧ ns.drop (i + 1) = rs := ⟨ns[i], ns.drop (i + 1), List.drop_eq_getElem_cons him, by simp [him], rfl⟩
    have hxb : x.natAbs ≤ 120 := hb x (List.mem_of_mem_drop (hd ▸ List.mem_cons_self ..))
    have hpow : (256 : Int) ^ (i + 1) = 256 ^ i * 256 := Int.pow_succ ..
    have hpow0 : (1 : Int) ≤ 256 ^ i := Int.pow_pos (by decide)
    k_with_none
    k_with "my call" => first
      | (refine isnt_spec w _ _ _ (by k_asm) (by k_asm) (by k_asm) (by k_asm) (by k_asm) (by first | exact rfl | assumption) (by ktr_room) (by ktr_units) (by omega) ?_; intro h' tk' F' N'; dsimp only)
      | refine Halt.of ?_
    k_with "my pow" => (refine pow_to (r := (256 : Int) ^ i) (by omega) (by omega) (by decide) (by rw [Int.toNat_natCast]) ?_)
    k_with "my mult" => (refine mul_to (by have : (256 : Int) ^ i < 256 ^ 5 := Int.pow_lt_pow_of_lt (by decide) (by omega); omega) rfl ?_)
    k_steps
    all_goals (
      (with_reducible rename Fr _ _ _ _ => F9)
      (with_reducible rename News _ _ _ _ => N9)
      rw [hx] at F9)
    · refine turn_end (σ := TS) ⟨nc * 256 + x + 128, hc + x, _, _⟩ F9 N9 (.head _) hit (fun p hp => .tail _ hp) (noCls_lo lo) (by first | omega | (simp only [envOf]; omega)) (by kst_all) (by kst_same) ?_
      have g : 0 < hc + x := by omega
      refine ⟨by show 0 ≤ nc * 256 + x + 128; omega, by show nc * 256 + x + 128 < 256 ^ (i + 1); rw [hpow]; omega, by show (hc + x).natAbs ≤ 120 * (i + 1); omega, ?_⟩
      rw [← e4, hd, turned_up g, hdrop]
    · refine turn_end (σ := TS) ⟨nc + (x + 128) * 256 ^ i, hc + x, _, _⟩ F9 N9 (.head _) hit (fun p hp => .tail _ hp) (noCls_lo lo) (by first | omega | (simp only [envOf]; omega)) (by kst_all) (by kst_same) ?_
      have g : ¬ 0 < hc + x := by omega
      have q0 : (0 : Int) ≤ (x + 128) * 256 ^ i := Int.mul_nonneg (by omega) (by omega)
      have q1 : (x + 128) * 256 ^ i ≤ 248 * 256 ^ i := Int.mul_le_mul_of_nonneg_right (by omega) (by omega)
      refine ⟨by show 0 ≤ nc + (x + 128) * 256 ^ i; omega, by show nc + (x + 128) * 256 ^ i < 256 ^ (i + 1); rw [hpow]; omega, by show (hc + x).natAbs ≤ 120 * (i + 1); omega, ?_⟩
      rw [← e4, hd, turned_down g, hdrop]
  · rintro ⟨nc, hc, tn, th⟩ u1 h2 tk2 ⟨e1, e2, e3, e4⟩ F2 N2
    dsimp only at e1 e2 e3 e4 F2 N2 ⊢
    dsimp only [kstB, envOf] at F2 N2
    k_with_none
    k_steps
    have e5 : nc = turnedGo 0 0 0 ns := by rw [← e4, List.drop_length]; rfl
    rw [e5]
    exact hret _ _ _ (by k_asm) (by k_asm)
-- judged
def judgedGo : Int → Int → Int → Int → Bool → Nat → List Int → Int × Int × Bool
  | _, a, p, _, lv, _, [] => (a, p, lv)
  | h, a, p, hi, lv, k, x :: xs => judgedGo (h + x) (if 0 < h + x then a + 1 else a) (if hi < h + x then (k : Int) + 1 else p) (if hi < h + x then h + x else hi) (lv || decide (h + x = 0)) (k + 1) xs
def judged (ns : List Int) : Int × Int × Bool := judgedGo 0 0 0 0 false 0 ns
abbrev chS (z : Int) : Str := ⟨#[z.toNat]⟩
theorem coll_chS {a b : Int} (ha : 0 ≤ a) (hb : 0 ≤ b) : coll (chS a) (chS b) = 1 ↔ b < a := by
  have e : ∀ x y : Nat, ([x] < [y]) ↔ x < y := fun x y => by rw [List.cons_lt_cons_iff]; simp
  show b2i (decide ([b.toNat] < [a.toNat])) - b2i (decide ([a.toNat] < [b.toNat])) = 1 ↔ b < a
  simp only [e]
  by_cases g : b < a
  · have g1 : b.toNat < a.toNat := by omega
    have g2 : ¬ a.toNat < b.toNat := by omega
    simp [g, g1, g2, b2i]
  · have g1 : ¬ b.toNat < a.toNat := by omega
    simp only [g1, g, decide_false, iff_false]
    by_cases g2 : a.toNat < b.toNat <;> simp [g2, b2i]
structure JS where
  h : Int
  a : Int
  p : Int
  hi : Int
  lv : Bool
  th : Tok
  ta : Tok
  tp : Tok
  tg : Tok
def JP (ns : List Int) (i : Nat) (c : JS) : Prop :=
  c.h.natAbs ≤ 120 * i ∧ c.hi.natAbs ≤ 120 * i ∧ 0 ≤ c.a ∧ c.a ≤ i ∧ judgedGo c.h c.a c.p c.hi c.lv i (ns.drop i) = judged ns
theorem fr_congr0 {g h : Heap} {C : Addr} {m m' : Str → Option Value} (F : Fr g C h m) (e : ∀ y, m y = m' y) : Fr g C h m' :=
  ⟨let ⟨o, es, ep, a, b, c, d⟩ := F.ns; ⟨o, es, ep, a, b, c, fun n => (d n).trans (e n)⟩, F.keep, F.above⟩
theorem known_eq0 {m : Str → Option Value} {n : Str} {v : Option Value} {f : Str → Option Value} (h : m n = v) (e : ∀ y, f y = m y) : ∀ y, (if y = n then v else f y) = m y := fun y => by
  by_cases q : y = n
  · rw [if_pos q, q, h]
  · rw [if_neg q, e]
theorem jp_next {ns : List Int} {i : Nat} {c : JS} {x : Int} (hb : ∀ x ∈ ns, x.natAbs ≤ 120) (hi : i < ns.length) (hx : ns.getD i 0 = x) (e : JP ns i c) (th ta tp tg : Tok) :
    JP ns (i + 1) ⟨c.h + x, if 0 < c.h + x then c.a + 1 else c.a, if c.hi < c.h + x then (i : Int) + 1 else c.p, if c.hi < c.h + x then c.h + x else c.hi, c.lv || decide (c.h + x = 0), th, ta, tp, tg⟩ := by
  obtain ⟨e1, e2, e3, e4, e5⟩ := e
  have hd : ns.drop i = x :: ns.drop (i + 1) := by
    rw [List.drop_eq_getElem_cons hi, ← hx]; simp [hi]
  have hxb : x.natAbs ≤ 120 := hb x (List.mem_of_mem_drop (hd ▸ List.mem_cons_self ..))
  refine ⟨?_, ?_, ?_, ?_, ?_⟩
  · show (c.h + x).natAbs ≤ 120 * (i + 1); omega
  · show Int.natAbs (if c.hi < c.h + x then c.h + x else c.hi) ≤ 120 * (i + 1); split <;> omega
  · show 0 ≤ (if 0 < c.h + x then c.a + 1 else c.a); split <;> omega
  · show (if 0 < c.h + x then c.a + 1 else c.a) ≤ ((i + 1 : Nat) : Int); split <;> omega
  · rw [← e5, hd]; rfl
def jDef : Stmt := PySem.Challenge.pw_ul0005_01.main.body.getD 22 (.Pass default)
def jBody : List Stmt := match jDef with
  | .FunctionDef _ _ b _ _ _ _ _ _ _ => (match b.getD 5 (.Pass default) with
    | .For _ _ b' _ _ => b'
    | _ => [])
  | _ => []
def jScope : Scope := match jDef with
  | .FunctionDef _ _ _ _ _ _ s _ _ _ => s
  | _ => default
abbrev jenv (L : Addr) : Env := envOf (Str.ofString "_law_judged") jScope L 119 (.ref 118)
section
variable (w : World) (news : List (Addr × Obj)) {p : Program} {loose : List Str} {mean : ExcName → Option Value} {mg mb : Str → Option Value} {dp un : Nat} {gd : Option (List Code)} {outer : List Env} {A₀ : Around} {base h₀ : Heap} {L : Addr} {m : Str → Option Value} {s : Shared} {Q : Flow → Shared → Prop} {E : Value → Shared → Prop}
theorem judged_A (rest : List Stmt) {R : Addr} {vs : List Value} {ns : List Int} {k i : Nat} {hc ac : Int} {lc : Bool} {th ta t1 : Tok} (hi : IntsAre vs ns) (him : i < ns.length) (hlen : ns.length ≤ 5) (hR : (R, listOf vs.toArray k) ∈ news)
    (B' : Below A₀ base outer h₀) (F : Fr h₀ L s.heap m) (X' : (hd.heap_1 w.params).In h₀) (NN : News h₀ L s.heap news) (T : Top p loose mean mg mb h₀) (hd : dp + 2 < recursionLimit) (hu : un + 16 < cLine) (h51 : @LT.lt Nat _ 51 L)
    (m1 : m (Str.ofString "row") = some (.ref R)) (m2 : m (Str.ofString "k") = some (.int (i : Int) t1)) (m3 : m (Str.ofString "height") = some (.int hc th)) (m4 : m (Str.ofString "above") = some (.int ac ta)) (m5 : m (Str.ofString "level") = some (.bool lc))
    (hret : ∀ m' th' ta' h' tk', Fr h₀ L h' m' → News h₀ L h' news → m' (Str.ofString "height") = some (.int (hc + ns.getD i 0) th') → m' (Str.ofString "above") = some (.int (if 0 < hc + ns.getD i 0 then ac + 1 else ac) ta') → m' (Str.ofString "level") = some (.bool (lc || decide (hc + ns.getD i 0 = 0))) →
      (∀ q, q ≠ Str.ofString "height" → q ≠ Str.ofString "above" → q ≠ Str.ofString "level" → m' q = m q) →
      wpAny (model PySem.Challenge.rw_ul0005_01.row.prog w) (ktrTop dp un gd (Str.ofString "_law_judged") jScope L 119 (.ref 118) [] outer) (execs rest (jenv L)) Q E { s with heap := h', toks := tk' }) :
    wpAny (model PySem.Challenge.rw_ul0005_01.row.prog w) (ktrTop dp un gd (Str.ofString "_law_judged") jScope L 119 (.ref 118) [] outer) (execs (jBody.take 3 ++ rest) (jenv L)) Q E s := by
  have F1 := Fr.known0 (Fr.known0 (Fr.known0 (Fr.known0 (Fr.known0 F m1) ((if_neg (by decide)).trans m2)) ((if_neg (by decide)).trans ((if_neg (by decide)).trans m3))) ((if_neg (by decide)).trans ((if_neg (by decide)).trans ((if_neg (by decide)).trans m4)))) ((if_neg (by decide)).trans ((if_neg (by decide)).trans ((if_neg (by decide)).trans ((if_neg (by decide)).trans m5))))
  clear F
  have hgx : ns.getD (Int.toNat (i : Int)) 0 = ns.getD i 0 := by rw [Int.toNat_natCast]
  generalize ns.getD i 0 = x at hret hgx
  revert X'
  k_fill
  intro X'
  conv in (jBody.take 3) => whnf
  dsimp only [List.cons_append, List.nil_append, List.append]
  k_with_none
  k_with "my call" => first
    | (refine isnt_spec w _ _ _ (by k_asm) (by k_asm) (by k_asm) (by k_asm) (by k_asm) (by first | exact rfl | assumption) (by ktr_room) (by ktr_units) h51 ?_; intro h' tk' F' N'; dsimp only)
    | (refine eof_spec w _ _ _ (by k_asm) (by k_asm) (by k_asm) (by k_asm) (by k_asm) (by first | exact rfl | assumption) (by ktr_room) (by ktr_units) h51 ?_; intro h' tk' F' N'; dsimp only)
  k_steps
  all_goals (
    (with_reducible rename Fr _ _ _ _ => F9)
    (with_reducible rename News _ _ _ _ => N9)
    rw [hgx] at *)
  · refine' hret _ _ _ _ _ F9 N9 rfl ?b ?c fun q q1 q2 q3 => ?d
    case b => rw [if_pos (show 0 < hc + x by omega)]; rfl
    case c => rw [decide_eq_false (show ¬ hc + x = 0 by omega), Bool.or_false]; rfl
    case d =>
      simp only [if_neg q1, if_neg q2, if_neg q3]
      exact known_eq0 m2 (known_eq0 m1 fun _ => rfl) q
  · refine' hret _ _ _ _ _ F9 N9 rfl ?b ?c fun q q1 q2 q3 => ?d
    case b => rw [if_neg (show ¬ 0 < hc + x by omega)]; rfl
    case c => rw [decide_eq_true (show hc + x = 0 by assumption), Bool.or_true]; rfl
    case d =>
      simp only [if_neg q1, if_neg q2, if_neg q3]
      exact known_eq0 m2 (known_eq0 m1 fun _ => rfl) q
  · refine' hret _ _ _ _ _ F9 N9 rfl ?b ?c fun q q1 q2 q3 => ?d
    case b => rw [if_neg (show ¬ 0 < hc + x by omega)]; rfl
    case c => rw [decide_eq_false (show ¬ hc + x = 0 by assumption), Bool.or_false]; rfl
    case d =>
      simp only [if_neg q1, if_neg q2, if_neg q3]
      exact known_eq0 m2 (known_eq0 m1 fun _ => rfl) q
theorem judged_B {i : Nat} {hc pc gc : Int} {th tp tg t1 : Tok} (hb1 : hc.natAbs ≤ 720) (hb2 : gc.natAbs ≤ 720) (hi5 : i ≤ 5)
    (B' : Below A₀ base outer h₀) (F : Fr h₀ L s.heap m) (X' : (hd.heap_1 w.params).In h₀) (NN : News h₀ L s.heap news) (T : Top p loose mean mg mb h₀) (hd : dp + 2 < recursionLimit) (hu : un + 16 < cLine) (h51 : @LT.lt Nat _ 51 L)
    (m2 : m (Str.ofString "k") = some (.int (i : Int) t1)) (m3 : m (Str.ofString "height") = some (.int hc th)) (m4 : m (Str.ofString "place") = some (.int pc tp)) (m5 : m (Str.ofString "highest") = some (.str (chS (1000 + gc)) tg))
    (hret : ∀ m' tp' tg' h' tk', Fr h₀ L h' m' → News h₀ L h' news → m' (Str.ofString "place") = some (.int (if gc < hc then (i : Int) + 1 else pc) tp') → m' (Str.ofString "highest") = some (.str (chS (1000 + (if gc < hc then hc else gc))) tg') →
      (∀ q, q ≠ Str.ofString "place" → q ≠ Str.ofString "highest" → q ≠ Str.ofString "sign" → m' q = m q) → Q .next { s with heap := h', toks := tk' }) :
    wpAny (model PySem.Challenge.rw_ul0005_01.row.prog w) (ktrTop dp un gd (Str.ofString "_law_judged") jScope L 119 (.ref 118) [] outer) (execs (jBody.drop 3) (jenv L)) Q E s := by
  have F1 := Fr.known0 (Fr.known0 (Fr.known0 (Fr.known0 F m2) ((if_neg (by decide)).trans m3)) ((if_neg (by decide)).trans ((if_neg (by decide)).trans m4))) ((if_neg (by decide)).trans ((if_neg (by decide)).trans ((if_neg (by decide)).trans m5)))
  clear F
  have cz := coll_chS (a := 1000 + hc) (b := 1000 + gc) (by omega) (by omega)
  have cz2 : coll (chS (1000 + hc)) (chS (1000 + gc)) = 1 ↔ gc < hc := cz.trans (by omega)
  clear cz
  revert X'
  k_fill
  intro X'
  conv in (jBody.drop 3) => whnf
  k_with_none
  k_with "my call" => (refine strcoll_spec w _ _ _ _ _ (by k_asm) (by k_asm) (by k_asm) (by k_asm) (by k_asm) (by first | exact rfl | assumption) (by ktr_room) (by ktr_units) h51 ?_; intro tc h' tk' F' N'; dsimp only)
  k_steps
  all_goals (
    (with_reducible rename Fr _ _ _ _ => F9)
    (with_reducible rename News _ _ _ _ => N9))
  · have g : gc < hc := cz2.mp (by assumption)
    refine' hret _ _ _ _ _ F9 N9 ?b ?c fun q q1 q2 q3 => ?d
    case b => rw [if_pos g]; rfl
    case c => rw [if_pos g]; rfl
    case d =>
      simp only [if_neg q1, if_neg q2, if_neg q3]
      exact known_eq0 m3 (known_eq0 m2 fun _ => rfl) q
  · have g : ¬ gc < hc := fun g => absurd (cz2.mpr g) (by assumption)
    refine' hret _ _ _ _ _ F9 N9 ?b ?c fun q q1 q2 q3 => ?d
    case b => rw [if_neg g]; rfl
    case c => rw [if_neg g]; rfl
    case d =>
      simp only [if_neg q1, if_neg q2, if_neg q3]
      exact known_eq0 m3 (known_eq0 m2 fun _ => rfl) q
end
theorem judged_spec (w : World) (news : List (Addr × Obj)) (R : Addr) (vs : List Value) (ns : List Int) (k : Nat) (hR : (R, listOf vs.toArray k) ∈ news) (hi : IntsAre vs ns) (hlen : ns.length ≤ 5) (hb : ∀ x ∈ ns, x.natAbs ≤ 120) :
    Ctr w 119 news [.ref R] 40 200 (fun _ K => ∀ D t t', (∀ p ∈ news, p.1 < D) → K (.ref D) ((D, { cls := .type "tuple", data := .seq #[.int (judged ns).1 t, .int (judged ns).2.1 t', .bool (judged ns).2.2] 0 }) :: news)) := by
  unfold Ctr
  k_fill
  intro p loose mean mg mb dp un gd cn cs a' ccd cl outer A₀ base h₀ L m' s Q E B' F X' NN T hk hd hu h51 hret
  (refine wpAny_call ?_; k_dflt (refine' enter_def ?k1 ?k2 ?k3 ?k4 ?k5 ?kA ?kF ?kK ?k6 ?k7 ?k8 ?k9 ?kB ?_ ?c2 ?c3 ?c4 ?c5; (case kA => exact rfl); (case kF => exact rfl); (case kK => first | exact rfl | assumption); (case k1 => k_asm); (case k2 => k_asm); (case k3 => k_asm); (case k4 => k_asm); (case k5 => k_asm); (case k6 => k_is); (case k7 => k_is); (case k8 => ktr_room); (case k9 => exact BindsTo.of_eq rfl); (case c5 => decide); (case kB => exact locs rfl); (case c2 => exact rfl); (case c3 => exact rfl); (case c4 => exact rfl); k_whole; intro zg' zL' zh' zFG' zF' zN' zB' zX' zT' zlo'; have zhLL := lt_frames zFG' zF'; (try dsimp only); k_unmd; k_fold))
  k_with_none
  k_with "my call" => refine Halt.of ?_
  k_with "my iter" => refine Halt.of ?_
  k_with "my len" => refine len_to (by k_asm) (by k_mem) hi rfl (by omega) ?_; intro t9 tk9
  k_steps
  unfold Halt
  (with_reducible rename IntsAre _ _ => hi)
  (with_reducible rename Fr _ _ _ _ => FF)
  (with_reducible rename News _ _ _ _ => N2)
  (with_reducible rename Lo _ _ => lo)
  (with_reducible rename IsRange _ _ _ _ _ _ _ _ => RR)
  refine up_loop (σ := JS) (fun c => news) (fun c => [(Str.ofString "height", .int c.h c.th), (Str.ofString "above", .int c.a c.ta), (Str.ofString "place", .int c.p c.tp), (Str.ofString "highest", .str (chS (1000 + c.hi)) c.tg), (Str.ofString "level", .bool c.lv)]) [Str.ofString "sign"] (JP ns) ⟨0, 0, 0, 0, false, _, _, _, _⟩ rfl RR (small_one (by omega) (by omega) (by omega) (by omega)) (n := ns.length) (by rw [rangeSize_nat]; omega) FF N2 (by kst_all) ?_ ?_ ?_
  · exact ⟨by show (0 : Int).natAbs ≤ _; omega, by show (0 : Int).natAbs ≤ _; omega, Int.le_refl _, by show (0 : Int) ≤ _; omega, by simp [judged]⟩
  · rintro ⟨hc, ac, pc, gc, lc, th, ta, tp, tg⟩ I i t1 u1 it h2 tk2 hit hLI him e F2 N2
    obtain ⟨b1, b2, _⟩ := id e
    dsimp only [envOf] at b1 b2 F2 N2 hLI
    obtain ⟨x, hx⟩ : ∃ x, ns.getD i 0 = x := ⟨_, rfl⟩
    have hxb : x.natAbs ≤ 120 := by
      rw [← hx, List.getD_eq_getElem?_getD, List.getElem?_eq_getElem him]
      exact hb _ (List.getElem_mem him)
    refine judged_A w ((I, it) :: news) (jBody.drop 3) hi him hlen (.tail _ hR) (by k_asm) F2 (by k_asm) N2 (by k_asm) (by ktr_room) (by ktr_units) (by omega) rfl rfl rfl rfl rfl ?_
    intro m3 th3 ta3 h3 tk3 F3 N3 a1 a2 a3 a4
    rw [hx] at a1 a2 a3
    refine judged_B w ((I, it) :: news) (hc := hc + x) (gc := gc) (by omega) (by omega) (by omega) (by k_asm) F3 (by k_asm) N3 (by k_asm) (by ktr_room) (by ktr_units) (by omega) ((a4 _ (by decide) (by decide) (by decide)).trans rfl) a1 ((a4 _ (by decide) (by decide) (by decide)).trans rfl) ((a4 _ (by decide) (by decide) (by decide)).trans rfl) ?_
    intro m4 tp4 tg4 h4 tk4 F4 N4 c1 c2 c3
    refine turn_end (σ := JS) _ F4 N4 (.head _) hit (fun p hp => .tail _ hp) (noCls_lo lo) hLI ?_ ?_ (jp_next hb him hx e th3 ta3 tp4 tg4)
    · have k1 := (c3 (Str.ofString "height") (by decide) (by decide) (by decide)).trans a1
      have k2 := (c3 (Str.ofString "above") (by decide) (by decide) (by decide)).trans a2
      have k3 := (c3 (Str.ofString "level") (by decide) (by decide) (by decide)).trans a3
      exact List.forall_mem_cons.mpr ⟨k1, List.forall_mem_cons.mpr ⟨k2, List.forall_mem_cons.mpr ⟨c1, List.forall_mem_cons.mpr ⟨c2, List.forall_mem_cons.mpr ⟨k3, fun _ h => nomatch h⟩⟩⟩⟩⟩
    · intro z z1 z2 z3
      have q1 := z2 _ (.head _)
      have q2 := z2 _ (.tail _ (.head _))
      have q3 := z2 _ (.tail _ (.tail _ (.head _)))
      have q4 := z2 _ (.tail _ (.tail _ (.tail _ (.head _))))
      have q5 := z2 _ (.tail _ (.tail _ (.tail _ (.tail _ (.head _)))))
      have q6 : z ≠ Str.ofString "sign" := fun q => by rw [q] at z3; exact absurd z3 (by decide)
      rw [c3 z q3 q4 q6, a4 z q1 q2 q5]
      dsimp only [kstB]
      rw [if_neg z1, if_neg q1, if_neg q2, if_neg q3, if_neg q4, if_neg q5, if_neg (by rw [z3]; decide)]
  · rintro ⟨hc, ac, pc, gc, lc, th, ta, tp, tg⟩ u1 h2 tk2 ⟨e1, e2, e3, e4, e5⟩ F2 N2
    dsimp only at e1 e2 e3 e4 e5 F2 N2 ⊢
    dsimp only [kstB, envOf] at F2 N2
    k_with_none
    k_steps
    have e6 : (ac, pc, lc) = judged ns := by rw [← e5, List.drop_length]; rfl
    rw [← e6] at hret
    exact hret _ _ _ (by assumption) _ _ (by k_asm) (by k_asm)
-- gen1
theorem over_func (A : Around) (body : List Stmt) (env : Env) : A.over (.func body env) [] = A.deeper env := by
  obtain ⟨hd, d, fr, gs, u⟩ := A
  cases fr <;> cases gs <;> rfl
section
variable {prog : Program} {w : World} {A : Around} {E : Value → Shared → Prop} {s : Shared}
theorem gen_raises {a : Addr} {g : Nat} {body : List Stmt} {env : Env} {Q : Option Value → Shared → Prop}
    (hl : s.heap.NoLimit) (hroom : A.depth < recursionLimit) (hg : s.heap.IsGen a g) (hgs : s.gens[g]? = some (.fresh (.func body env)))
    (h : wpAny (model prog w) (A.in1.deeper env) (execs body env) (fun _ _ => False) (fun e s' => wpAny (model prog w) (A.in1.deeper env) (leaving env e)
      (fun _ s'' => ∃ T, s''.TypeIs e T ∧ isSubtype (.type T) (.type "StopIteration") = pure false ∧ s''.heap.IsGen a g ∧ E e (s''.setGen g .finished)) (fun _ _ => False) s') (s.setGen g .running)) :
    wpAny (model prog w) A (pyNext (.ref a)) Q E s := by
  unfold pyNext
  refine wpAny_bind (wpAny_attempt (wpAny_callSpecial?_slot (name := Str.ofString "__next__") hg.typeIs slot_gen_next
    (wpAny_call_entry slot_gen_next hg.typeIs entry_gen_next ?_ (args_gen_next _))))
  show wpAny _ A.in1 (Builtin.Generator.genWake (.ref a) (.send .none)) _ _ s
  unfold Builtin.Generator.genWake
  refine wpAny_bind (wpAny_holding (wpAny_genNumber hg (wpAny_bind (wpAny_genState hgs ?_))))
  refine wpAny_bind (wpAny_roomToWake hl hroom ?_)
  show wpAny _ A.in1 (.resume g (.send .none) [] _) _ _ s
  refine wpAny_resume (A := A.in1) (n := 0) (Y := fun _ _ _ _ _ => False) (R := fun _ _ r s'' => ∃ e, r = .error e ∧ ∃ T, s''.TypeIs e T ∧ isSubtype (.type T) (.type "StopIteration") = pure false ∧ s''.heap.IsGen a g ∧ E e (s''.setGen g .finished)) hgs ⟨rfl, ?_⟩ (fun x s₁ hx => ?_) (fun v s₁ gs' hv => hv.elim)
  · refine seg_func (seg_wrap ?_)
    rw [over_func]
    refine wpAny_mono h (fun _ _ x => x.elim) fun e s' h' => ?_
    refine seg_wrap ?_
    rw [over_func]
    refine wpAny_mono h' (fun _ s'' x => ?_) fun _ _ x => x.elim
    exact seg_end (.error e) ⟨e, rfl, x⟩
  · obtain ⟨e, rfl, T, hT, hsub, hG, hE⟩ := hx
    have hT' : (s₁.setGen g .finished).TypeIs e T := hT
    have hG' : (s₁.setGen g .finished).heap.IsGen a g := hG
    show wpAny _ A.in1 (Builtin.Generator.genLeft (.ref a) e) _ _ _
    unfold Builtin.Generator.genLeft Builtin.Generator.madeByALambda
    obtain ⟨o, nm, qn, ho, hc, hd, hsl⟩ := hG'
    refine wpAny_bind (wpAny_bind (wpAny_load ho ?_))
    show wpAny _ _ (pure (o.cls == .type "generator" && (match o.data with | .fields vs => vs[3]? == some (.bool true) | _ => false))) _ _ _
    rw [hd]
    have e3 : ((#[.int g 0, nm, qn] : Array Value)[3]? == some (.bool true)) = false := rfl
    show wpAny _ _ (pure (o.cls == .type "generator" && ((#[.int g 0, nm, qn] : Array Value)[3]? == some (.bool true)))) _ _ _
    rw [e3, Bool.and_false]
    refine wpAny_pure ?_
    refine wpAny_bind (wpAny_isInstance hT' hsub ?_)
    show wpAny _ _ (Builtin.Generator.genEscaped e) _ _ _
    unfold Builtin.Generator.genEscaped
    refine wpAny_bind (wpAny_isInstance hT' hsub ?_)
    show wpAny _ _ (Sem.raise e) _ _ _
    refine wpAny_throw ?_
    refine wpAny_bind (wpAny_isInstance hT' hsub ?_)
    show wpAny _ _ (Sem.raise e) _ _ _
    exact wpAny_throw hE
end
section
variable {prog : Program} {w : World} {A A₀ : Around} {E : Value → Shared → Prop} {s : Shared} {h₀ base : Heap} {outer : List Env} {L : Addr} {m : Str → Option Value} {news : List (Addr × Obj)} {K : Frag} {p : Program} {loose : List Str} {mean : ExcName → Option Value} {mg mb : Str → Option Value}
theorem gen_call {env : Env} {name qual : Str} {params : Arguments} {body : List Stmt} {scope : Scope} {dV kV doc pm cdv ct oc : Value} {an od : Option Addr} {osl : Array (Option Value)} {f : Addr} {args : Args} {binds : List (Str × Value)} {R : Result → Shared → Prop}
    (B : Below A₀ base outer h₀) (F : Fr h₀ L s.heap m) (X₀ : K.In h₀) (N : News h₀ L s.heap news) (T : Top p loose mean mg mb h₀) (hA : A.frames = some (env :: outer)) (hf : env.frame = some L) (hke : env.scope.kind = .function)
    (ho : K.lookup f = some ⟨oc, od, .func (fnOf name qual params body scope dV kV doc pm an cdv ct), osl⟩) (hcd : codeIn K cdv qual = true) (hroom : A.depth < recursionLimit)
    (hbind : BindsTo s (fnOf name qual params body scope dV kV doc pm an cdv ct) args binds) (hloc : ∀ y ∈ binds, scope.names.lookup y.1 = some .local)
    (h : ∀ g Lg G h₁ tk oG, Fr h₀ L g m → Fr g Lg h₁ (fun y => binds.reverse.lookup y) → News g Lg h₁ ((G, oG) :: news) → Below A base (env :: outer) g → K.In g → Top p loose mean mg mb g → Lo Lg news → @LT.lt Nat _ Lg G →
      Fr h₀ L h₁ m → News h₀ L h₁ ((G, oG) :: news) → h₁.IsGen G s.gens.size → h₁.NoLimit →
      R (.ok (.ret (.ref G))) { s with heap := h₁, gens := s.gens.push (.fresh (.func body (envOf qual scope Lg f cdv))), toks := tk })
    (hco : scope.isCoroutine = false) (hgen : scope.isGenerator = true) (hk : scope.kind = .function)
    (hcell : ∀ x ∈ scope.names, x.2 ≠ .cell) : codeAny (model prog w) A (.call (.ref f) args) R s := by
  obtain ⟨FG, BG, st, _⟩ := groundX (R := R) B F N hA hf hke
  refine codeAny_call_generator (fd := fnOf name qual params body scope dV kV doc pm an cdv ct) (body := body) hroom ((X₀.keeps F.keep) _ _ ho) rfl hco hgen rfl (codeRec_of (X₀.keeps F.keep) hcd) (hbind _ _ _ _ ?_)
  refine wpAny_newFunctionEnv hcell hloc (fun h₁ hns hsb => ?_) hk
  have hk₁ : ∀ b o, s.heap.get? b = some o → h₁.get? b = some o := fun b o e => hsb.extBut b o (Nat.ne_of_lt (Heap.lt_size e)) (Heap.get?_push_of_some _ e)
  have hlim : h₁.NoLimit := (T.nolimit.keeps F.keep).keeps hk₁
  refine ⟨hlim, ?_⟩
  have hlt : @LT.lt Nat _ s.heap.objs.size h₁.objs.size := hns.lt
  have Fg : Fr (hideAll s.heap (news.map (·.1))) s.heap.objs.size h₁ (fun y => binds.reverse.lookup y) := ⟨hns, fun b o e => hk₁ b o (of_hideAll _ e), Nat.le_of_eq (hideAll_size _ _)⟩
  have F₁ : Fr h₀ L h₁ m := ⟨F.ns.at' fun o e => hk₁ _ o e, fun b o e => hk₁ b o (F.keep b o e), F.above⟩
  have none_of : ∀ {g : Heap}, g.objs.size ≤ s.heap.objs.size → g.get? h₁.objs.size = none := fun {g} hle => Heap.get?_none_of_le (Nat.le_trans hle (Nat.le_of_lt hlt))
  have XG := X₀.keeps st
  have TG := T.keeps st
  obtain ⟨oG, eG⟩ : ∃ oG : Obj, oG = { cls := .type "generator", data := .fields #[.int s.gens.size 0, .str name (s.toks + binds.length), .str qual (s.toks + binds.length + 1)] } := ⟨_, rfl⟩
  have hfree : oG.isFreed = false := by rw [eG]; rfl
  show R (.ok (.ret (.ref h₁.objs.size))) { s with heap := h₁.push { cls := .type "generator", data := .fields #[.int s.gens.size 0, .str name (s.toks + binds.length), .str qual (s.toks + binds.length + 1)] }, gens := _, toks := _ }
  rw [← eG]
  refine h _ s.heap.objs.size h₁.objs.size (h₁.push oG) _ oG FG (Fg.push _) (fun q hq => ?_) BG XG TG ⟨fun q hq => Heap.lt_size (N q hq).1⟩ hlt (F₁.push _) (fun q hq => ?_) ⟨oG, _, _, Heap.get?_push_size _ hfree, by rw [eG], by rw [eG], by rw [eG]⟩ (hlim.keeps fun b o e => Heap.get?_push_of_some _ e)
  · rcases List.mem_cons.mp hq with rfl | hq
    · exact ⟨Heap.get?_push_size _ hfree, Nat.ne_of_gt hlt, none_of (Nat.le_of_eq (hideAll_size _ _))⟩
    · exact ⟨Heap.get?_push_of_some _ (hk₁ _ _ (N q hq).1), Nat.ne_of_lt (Heap.lt_size (N q hq).1), hideAll_none _ (List.mem_map_of_mem hq)⟩
  · rcases List.mem_cons.mp hq with rfl | hq
    · exact ⟨Heap.get?_push_size _ hfree, Nat.ne_of_gt (Nat.lt_trans F.ns.lt hlt), none_of (Nat.le_trans F.above (Nat.le_of_lt F.ns.lt))⟩
    · exact ⟨Heap.get?_push_of_some _ (hk₁ _ _ (N q hq).1), (N q hq).2.1, (N q hq).2.2⟩
end
-- told
abbrev CtrE (w : World) (f : Addr) (news : List (Addr × Obj)) (vs : List Value) (dpN unN : Nat) : Prop :=
  ∀ {p : Program} {loose : List Str} {mean : ExcName → Option Value} {mg mb : Str → Option Value} {dp un : Nat} {gd : Option (List Code)} {cn : Str} {cs : Scope} {a : Addr} {ccd : Value} {cl : List (Str × Addr)} {outer : List Env} {A₀ : Around} {base h₀ : Heap} {L : Addr} {m : Str → Option Value} {s : Shared} {Q E : Value → Shared → Prop},
    Below A₀ base outer h₀ → Fr h₀ L s.heap m → (hd.heap_1 w.params).In h₀ → News h₀ L s.heap news → Top p loose mean mg mb h₀ → cs.kind = .function → dp + dpN < recursionLimit → un + unN < cLine → @LT.lt Nat _ 51 L →
    (∀ g e t vs' h' tk', Fr h₀ L g m → RaisedS base g (envX cn cs L a ccd cl :: outer) e (.type "ValueError") t vs' news h' → g.UpToSlots h' → E (.ref e) { s with heap := h', gens := s.gens.push .finished, toks := tk' }) →
    wpAny (model PySem.Challenge.rw_ul0005_01.row.prog w) (ktrTop dp un gd cn cs L a ccd cl outer) (call (.ref f) vs) Q E s
theorem raised_less {base G : Heap} {l : List Env} {e : Addr} {cls : Value} {t : Addr} {vs : List Value} {news news' : List (Addr × Obj)} {h : Heap} (R : RaisedS base G l e cls t vs news h) (hs : ∀ q ∈ news', q ∈ news) : RaisedS base G l e cls t vs news' h := by
  obtain ⟨⟨B, h1, h2, h3, h4, h5⟩, h6⟩ := R
  exact ⟨⟨B, h1, h2, fun q hq => h3 q (hs q hq), h4, h5⟩, h6⟩
theorem gens_end (a : Array GenState) (x y z : GenState) : ((a.push x).setIfInBounds a.size y).setIfInBounds a.size z = a.push z := by
  apply Array.ext'
  simp
theorem told_raises (w : World) (news : List (Addr × Obj)) (R : Addr) (vs : List Value) (ns : List Int) (k : Nat) (t : Tok) (hR : (R, listOf vs.toArray k) ∈ news) (hi : IntsAre vs (0 :: ns)) :
    CtrE w 91 news [.ref R, .int 1 t] 40 200 := by
  cases hi with
  | @cons z t0 vs' rs' hir =>
  have hR0 := hR
  unfold CtrE
  k_fill
  intro p loose mean mg mb dp un gd cn cs a' ccd cl outer A₀ base h₀ L m' s Q E B' F X' NN T hk hd hu h51 hret
  (refine wpAny_call ?_; k_dflt (refine' enter_def ?k1 ?k2 ?k3 ?k4 ?k5 ?kA ?kF ?kK ?k6 ?k7 ?k8 ?k9 ?kB ?_ ?c2 ?c3 ?c4 ?c5; (case kA => exact rfl); (case kF => exact rfl); (case kK => first | exact rfl | assumption); (case k1 => k_asm); (case k2 => k_asm); (case k3 => k_asm); (case k4 => k_asm); (case k5 => k_asm); (case k6 => k_is); (case k7 => k_is); (case k8 => ktr_room); (case k9 => exact BindsTo.of_eq rfl); (case c5 => decide); (case kB => exact locs rfl); (case c2 => exact rfl); (case c3 => exact rfl); (case c4 => exact rfl); k_whole; intro zg' zL' zh' zFG' zF' zN' zB' zX' zT' zlo'; have zhLL := lt_frames zFG' zF'; (try dsimp only); k_unmd; k_fold))
  (with_reducible rename Lo _ _ => lo)
  (with_reducible rename Below _ _ (_ :: _) _ => Bt)
  (with_reducible rename Fr h₀ _ _ _ => FGt)
  k_with_none
  k_with "my for" => refine wpAny_For ?_
  k_with "my call" => refine Halt.of ?_
  k_with "my iter" => refine Halt.of ?_
  k_steps
  unfold Halt
  refine wpAny_call ?_
  k_dflt (refine' gen_call ?k1 ?k2 ?k3 ?k4 ?k5 ?kA ?kF ?kK ?k6 ?k7 ?k8 ?k9 ?kB ?_ ?c2 ?c3 ?c4 ?c5)
  case kA => exact rfl
  case kF => exact rfl
  case kK => exact rfl
  case k1 => k_asm
  case k2 => k_asm
  case k3 => k_asm
  case k4 => k_asm
  case k5 => k_asm
  case k6 => k_is
  case k7 => k_is
  case k8 => ktr_room
  case k9 => exact BindsTo.of_eq rfl
  case c5 => decide
  case kB => exact locs rfl
  case c2 => exact rfl
  case c3 => exact rfl
  case c4 => exact rfl
  intro g Lg G h₁ tk₁ oG FGg Fg Ng Bg Xg Tg log hLG F₁ N₁ hG hlim
  dsimp only
  refine wpAny_pyIter_gen hG ?_
  refine codeAny_forLoop (fun _ s' => s' = _) ?_ 0 rfl
  rintro n s' rfl
  refine gen_raises (body := ?bd) (env := ?ev) hlim (by ktr_room) hG (by rw [Array.getElem?_push_size]) ?_
  dsimp only [Shared.setGen]
  k_with_none
  k_with "my iter" => refine Halt.of ?_
  k_steps
  unfold Halt
  (with_reducible rename Fr _ _ _ _ => F5)
  (with_reducible rename News _ _ _ _ => N5)
  refine iter_listUnr (ax := R) (vs := Value.int 0 t0 :: vs') (n := k) (lo := listOf (Value.int 0 t0 :: vs').toArray k) rfl F5 N5 (.tail _ (.tail _ hR0)) rfl rfl fun I lI => ListRest.succ fun it hh tkk hcl FF NN => ?_
  k_with_none
  k_with "my raise" => (refine Raise_madeB PySem.F.excCall_ValueError PySem.F.excRaise_ValueError rfl ?_; refine' name_B FF ?k1 ?k2 ?k3 ?k4 ?k5 ?_; (case k1 => k_asm); (case k2 => k_asm); (case k3 => k_is); (case k4 => boot_by_name); (case k5 => decide); refine ⟨rfl, ?_⟩)
  k_steps
  (with_reducible rename Heap.MadeExc _ _ _ _ _ => hx0)
  have hx := Heap.MadeExc.of hx0
  have Bw : Below (((ktrTop dp un gd cn cs L a' ccd cl outer).deeper _).in1) base _ g := ⟨Bg.stack, Bg.stays, Bg.frames⟩
  refine leave_raiseS Bw hx FF (news_sub NN (fun q hq => .tail _ hq)) fun h' t R1 _ sm => ?_
  have hst := R1
  obtain ⟨⟨B1, _, _, hl1, hfl1, _⟩, _⟩ := hst
  refine ⟨"ValueError", ?_, ?_, ?_, ?_⟩
  · obtain ⟨ob, ho, hc⟩ := hfl1.there
    exact ⟨ob, ho, hc⟩
  · kernel_rfl
  · obtain ⟨o, nm, qn, ho, r⟩ := hG
    have e1 := (N₁ (G, oG) (.head _)).1
    rw [ho] at e1
    cases e1
    exact ⟨_, nm, qn, hfl1.1 _ _ (hl1 (G, oG) (.head _)).1, r⟩
  refine (?po : PassesOwn _ _ _ _) _ _ ?_
  case po => passes_own
  dsimp only
  rw [gens_end]
  refine leave_onS Bt FGg R1 sm fun h'' R2 _ sm2 => ?_
  exact hret _ _ _ _ _ _ FGt (raised_less R2 (fun q hq => .tail _ (.tail _ hq))) sm2
-- refused
section
variable {prog : Program} {w : World} {A A₀ : Around} {s : Shared} {h₀ : Heap} {L : Addr} {m : Str → Option Value} {news : List (Addr × Obj)} {K : Frag} {p : Program} {loose : List Str} {mean : ExcName → Option Value} {mg mb : Str → Option Value}
theorem enter_S0 {env : Env} {name qual : Str} {params : Arguments} {body : List Stmt} {scope : Scope} {dV kV doc pm cdv ct oc : Value} {an od : Option Addr} {osl : Array (Option Value)} {f : Addr} {args : Args} {binds : List (Str × Value)} {R : Result → Shared → Prop}
    (B : Below A₀ h₀ [] h₀) (F : Fr h₀ L s.heap m) (X₀ : K.In h₀) (N : News h₀ L s.heap news) (T : Top p loose mean mg mb h₀) (hA : A.frames = some [env]) (hf : env.frame = some L) (hke : env.scope.kind = .function)
    (ho : K.lookup f = some ⟨oc, od, .func (fnOf name qual params body scope dV kV doc pm an cdv ct), osl⟩) (hcd : codeIn K cdv qual = true) (hroom : A.depth < recursionLimit)
    (hbind : BindsTo s (fnOf name qual params body scope dV kV doc pm an cdv ct) args binds) (hloc : ∀ y ∈ binds, scope.names.lookup y.1 = some .local)
    (h : ∀ g L' h₁, Fr h₀ L g m → Fr g L' h₁ (fun y => binds.reverse.lookup y) → News g L' h₁ news → Below A h₀ [env] g → K.In g → Top p loose mean mg mb g → Lo L' news → KtsDicts ([env].filterMap (·.frame)) g →
      (∀ g' L₂ m₂ news₂ hh, KtsTurn ([env].filterMap (·.frame)) g g' → Fr g' L₂ hh m₂ → News g' L₂ hh news₂ → Fr h₀ L hh m ∧ News h₀ L hh news₂) →
      wpAny (model prog w) (A.deeper (envOf qual scope L' f cdv)) (execs body (envOf qual scope L' f cdv))
        (fun fl s' => R (.ok (.ret (match fl with | .ret v => v | _ => .none))) s')
        (fun e s' => wpAny (model prog w) (A.deeper (envOf qual scope L' f cdv)) (leaving (envOf qual scope L' f cdv) e) (fun _ s'' => R (.error e) s'') (fun e' s'' => R (.error e') s'') s')
        { s with heap := h₁, toks := s.toks + binds.length })
    (hco : scope.isCoroutine = false) (hgen : scope.isGenerator = false) (hk : scope.kind = .function)
    (hcell : ∀ x ∈ scope.names, x.2 ≠ .cell) : codeAny (model prog w) A (.call (.ref f) args) R s := by
  obtain ⟨FG, BG, st, _⟩ := groundX (R := R) B F N hA hf hke
  have X := X₀.keeps F.keep
  refine codeAny_call_def (fd := fnOf name qual params body scope dV kV doc pm an cdv ct) (body := body) (binds := binds) hroom (X _ _ ho) rfl (T.nolimit.keeps F.keep) (codeRec_of X hcd) rfl hbind hcell hloc (fun h₁ hns hk₁ => ?_) hco hgen hk
  have hfs : [env].filterMap (·.frame) = [L] := by simp [List.filterMap_cons, hf]
  obtain ⟨oL, es, ep, hLg, hLd, hLk, hLf⟩ := id FG.ns
  have nL₀ : h₀.get? L = none := kts_self F
  have XG := X₀.keeps st
  have TG := T.keeps st
  refine h _ s.heap.objs.size h₁ FG ⟨hns, fun b o e => hk₁ b o (of_hideAll _ e), Nat.le_of_eq (hideAll_size _ _)⟩
    (fun p hp => ⟨hk₁ _ _ (N p hp).1, Nat.ne_of_lt (Heap.lt_size (N p hp).1), hideAll_none _ (List.mem_map_of_mem hp)⟩) BG XG TG ⟨fun q hq => Heap.lt_size (N q hq).1⟩ (fun b hb => ?_) fun g' L₂ m₂ news₂ hh T' F' N' => ?_
  · rw [hfs] at hb
    rw [List.mem_singleton.mp hb]
    exact ⟨oL, es, ep, hLg, hLd⟩
  · rw [hfs] at T'
    obtain ⟨sl, hs⟩ := T'.up hLg
    refine ⟨⟨⟨_, es, ep, F'.keep _ _ hs, hLd, hLk, hLf⟩, fun b o e => F'.keep b o (T'.other b o (st b o e) (fun q => by
      rw [List.mem_singleton.mp q, nL₀] at e
      cases e)), F.above⟩, fun p hp => ⟨(N' p hp).1, fun q => ?_, ?_⟩⟩
    · have := (N' p hp).2.2; rw [q, hs] at this; cases this
    · cases q : h₀.get? p.1 with
      | none => rfl
      | some o =>
        obtain ⟨sl', hs'⟩ := T'.up (st _ _ q)
        have := (N' p hp).2.2
        rw [hs'] at this
        cases this
end
theorem refused_spec (w : World) (news : List (Addr × Obj)) (R : Addr) (vs : List Value) (ns : List Int) (k : Nat) (hR : (R, listOf vs.toArray k) ∈ news) (hi : IntsAre vs (0 :: ns))
    {p : Program} {loose : List Str} {mean : ExcName → Option Value} {mg mb : Str → Option Value} {dp un : Nat} {gd : Option (List Code)} {cn : Str} {cs : Scope} {a' : Addr} {ccd : Value} {cl : List (Str × Addr)} {A₀ : Around} {h₀ : Heap} {L : Addr} {m' : Str → Option Value} {s : Shared} {Q E : Value → Shared → Prop}
    (B' : Below A₀ h₀ [] h₀) (F : Fr h₀ L s.heap m') (X' : (hd.heap_1 w.params).In h₀) (NN : News h₀ L s.heap news) (T : Top p loose mean mg mb h₀) (hk : cs.kind = .function) (hd : dp + 120 < recursionLimit) (hu : un + 600 < cLine) (h51 : @LT.lt Nat _ 51 L)
    (hret : ∀ h' tk', Fr h₀ L h' m' → News h₀ L h' news → Q (.bool true) { s with heap := h', gens := s.gens.push .finished, toks := tk' }) :
    wpAny (model PySem.Challenge.rw_ul0005_01.row.prog w) (ktrTop dp un gd cn cs L a' ccd cl []) (call (.ref 98) [.ref R]) Q E s := by
  revert X'
  k_fill
  intro X'
  refine wpAny_call ?_
  k_dflt (refine' enter_S0 ?k1 ?k2 ?k3 ?k4 ?k5 ?kA ?kF ?kK ?k6 ?k7 ?k8 ?k9 ?kB ?_ ?c2 ?c3 ?c4 ?c5)
  case kA => exact rfl
  case kF => exact rfl
  case kK => assumption
  case k1 => k_asm
  case k2 => k_asm
  case k3 => k_asm
  case k4 => k_asm
  case k5 => k_asm
  case k6 => k_is
  case k7 => k_is
  case k8 => ktr_room
  case k9 => exact BindsTo.of_eq rfl
  case c5 => decide
  case kB => exact locs rfl
  case c2 => exact rfl
  case c3 => exact rfl
  case c4 => exact rfl
  intro g L' h₁ FG F1 N1 Bg Xg Tg lo D back
  have hLL := lt_frames FG F1
  dsimp only
  k_with_none
  k_with "my call" => refine Halt.of ?_
  k_steps
  unfold Halt
  refine told_raises w news R vs ns k _ hR hi (by k_asm) (by k_asm) (by k_asm) (by k_asm) (by k_asm) (by first | exact rfl | assumption) (by ktr_room) (by ktr_units) (by omega) ?_
  intro g2 e t vs' h2 tk2 FG2 R2 sm2
  dsimp only
  refine caught_S0 (T' := "ValueError") R2 FG2 Bg sm2 X' T D KtsTurn.refl (by k_is) PyProof.Rows.Boot.«ValueError» (by decide) PySem.F.isExc_ValueError PySem.F.notTuple_ValueError (by rw [isSubtype_type]; kernel_rfl) ?_
  intro h3 g3 news2 KT3 F3 N3' Got3 N3 B3 X3 T3 D3
  k_with_none
  k_steps
  obtain ⟨Fz, Nz⟩ := back _ _ _ _ _ KT3 F3 N3
  exact hret h3 _ Fz Nz
-- gen2
theorem over_in (A : Around) (c : Code) (hc : c.weight = 0) (hu : c.cUnits = 0) (k : Result → Sem Fin) (g : Bool) (l : List Value) (body : List Stmt) (env : Env) (p : Pos) (kp : List Value) (he : c.envs = []) (hg : c.guards = []) :
    A.over c [.ret k none g l (.func body env) p kp] = A.deeper env := by
  obtain ⟨hd, d, fr, gs, u⟩ := A
  unfold Around.over
  rw [hc, hu, he, hg]
  cases hd <;> cases fr <;> cases gs <;> rfl
section
variable {M : Model} {A : Around} {R : GenEnd} {Y : Protocol} {n : Nat} {s₀ : Shared} {c : Code} {fs : List Frame} {s : Shared} {env : Env}
theorem seg_go {α : Type} {m : Sem α} {K : α → Sem Fin} {H : Value → Sem Fin} {gd lv} (h : wpAny M (A.over c fs) m (fun a s' => Seg M A R Y n s₀ c (K a) fs s') (fun _ _ => False) s) : Seg M A R Y n s₀ c (m.wrap K H gd lv) fs s :=
  seg_wrap (wpAny_mono h (fun _ _ x => x) fun _ _ x => x.elim)
theorem seg_go_bind {α β : Type} {m : Sem α} {f : α → Sem β} {K : β → Sem Fin} {H : Value → Sem Fin} {gd lv} (h : wpAny M (A.over c fs) m (fun a s' => Seg M A R Y n s₀ c ((f a).wrap K H gd lv) fs s') (fun _ _ => False) s) : Seg M A R Y n s₀ c ((m >>= f).wrap K H gd lv) fs s :=
  seg_bind_wrap (wpAny_mono h (fun _ _ x => x) fun _ _ x => x.elim)
theorem seg_runOwn {K : Flow → Sem Fin} {H : Value → Sem Fin} {gd : Bool → Bool} {lv : List Value → List Value} {c' : Code} (hgd : gd false = false)
    (h : ∀ p k l, (∀ f, k (.ok f) = K f) → Seg M A R Y n s₀ c' (M.den c') (.ret k none false l c p [] :: fs) s) :
    Seg M A R Y n s₀ c ((runOwn c' env).wrap K H gd lv) fs s := by
  unfold runOwn
  refine seg_call (g := gd false) fun p => ?_
  rw [hgd]
  exact h p _ _ fun f => rfl
theorem seg_For {K : Flow → Sem Fin} {H : Value → Sem Fin} {gd : Bool → Bool} {lv : List Value → List Value} {target iter : Expr} {body orelse : List Stmt} {pos : Pos} (hgd : gd false = false)
    (h : wpAny M (A.over c fs) (eval iter env) (fun x s₁ => wpAny M (A.over c fs) (pyIter x) (fun it s₂ => ∀ p k l, (∀ f, k (.ok f) = K f) →
      Seg M A R Y n s₀ (.forLoop target it body orelse env) (M.den (.forLoop target it body orelse env)) (.ret k none false l c p [] :: fs) s₂) (fun _ _ => False) s₁) (fun _ _ => False) s)
    (hs : ∀ x, foldedSetIterable iter env x = pure x := by intro _; rfl) :
    Seg M A R Y n s₀ c ((exec (.For target iter body orelse pos) env).wrap K H gd lv) fs s := by
  rw [exec_For]
  refine seg_go_bind (wpAny_standAt (seg_go_bind (wpAny_mono h (fun x s₁ h₁ => seg_go_bind (wpAny_of_eq (hs x) (seg_go_bind (wpAny_standAt (seg_go_bind (wpAny_holding (wpAny_mono h₁ (fun it s₂ h₂ => ?_) fun _ _ x => x))))))) fun _ _ x => x)))
  exact seg_runOwn hgd h₂
theorem seg_If {K : Flow → Sem Fin} {H : Value → Sem Fin} {gd : Bool → Bool} {lv : List Value → List Value} {test : Expr} {body orelse : List Stmt} {pos : Pos}
    (h : wpAny M (A.over c fs) (isTrue test env (eval test env)) (fun b s₁ => if b = true then Seg M A R Y n s₀ c ((execs body env).wrap K H gd lv) fs s₁ else Seg M A R Y n s₀ c ((execs orelse env).wrap K H gd lv) fs s₁) (fun _ _ => False) s) :
    Seg M A R Y n s₀ c ((exec (.If test body orelse pos) env).wrap K H gd lv) fs s := by
  rw [exec_If]
  refine seg_go_bind (wpAny_standAt (seg_go_bind (wpAny_mono h (fun b s₁ h₁ => ?_) fun _ _ x => x)))
  cases b <;> exact h₁
end
section
variable {prog : Program} {w : World} {A : Around} {R : GenEnd} {Y : Protocol} {n : Nat} {s₀ : Shared} {fs : List Frame} {s : Shared} {env : Env}
def forK (c : Code) : Flow → Sem Fin
  | .next | .cont => .pure (.again c)
  | .brk => .pure (.done .next)
  | .ret v => .pure (.done (.ret v))
theorem seg_forLoop {x : Str} {px : Pos} {it : Value} {body : List Stmt}
    (h : wpAny (model prog w) (A.over (.forLoop (.Name x px) it body [] env) fs) (pyNext it) (fun r s' => match r with
      | none => Seg (model prog w) A R Y n s₀ (.block [] env) (leafOf (.ok .next)) fs s'
      | some v => wpAny (model prog w) (A.over (.forLoop (.Name x px) it body [] env) fs) (storeName env x v) (fun _ s'' => ∀ H, Seg (model prog w) A R Y n s₀ (.forLoop (.Name x px) it body [] env) ((execs body env).wrap (forK (.forLoop (.Name x px) it body [] env)) H id id) fs s'') (fun _ _ => False) s') (fun _ _ => False) s) :
    Seg (model prog w) A R Y n s₀ (.forLoop (.Name x px) it body [] env) ((model prog w).den (.forLoop (.Name x px) it body [] env)) fs s := by
  show Seg _ A R Y n s₀ _ ((forTurn (.Name x px) it body [] env).onRaise (fun x => do noteFrame x env; theTreesLotGoes x)) fs s
  unfold forTurn
  rw [Sem.onRaise_eq_wrap]
  refine seg_go_bind (wpAny_standAt (seg_go_bind (wpAny_onRaise (wpAny_mono h (fun r s' hr => ?_) fun _ _ x => x.elim))))
  cases r with
  | none => exact seg_again rfl hr
  | some v =>
    refine seg_go_bind (wpAny_of_eq (a := ()) rfl ?_)
    refine seg_go_bind (wpAny_assign_Name (wpAny_mono hr (fun _ s'' h'' => ?_) fun _ _ x => x))
    show Seg _ A R Y n s₀ _ ((execs body env >>= _).wrap _ _ _ _) fs s''
    rw [Sem.bind_eq_wrap', Sem.wrap_wrap]
    exact Eq.mp (congrArg (fun t => Seg (model prog w) A R Y n s₀ _ t fs s'') (Sem.wrap_congr (execs body env) id id (fun f => by cases f <;> rfl) (fun _ => rfl))) (h'' _)
end
-- gen3
def gSt (n : Nat) : Stmt := PySem.Challenge.pw_ul0005_01.main.body.getD n (.Pass default)
def gFn : Stmt → List Stmt × Scope
  | .FunctionDef _ _ b _ _ _ s _ _ _ => (b, s)
  | _ => ([], default)
def gBody : List Stmt := (gFn (gSt 16)).1
def gScope : Scope := (gFn (gSt 16)).2
def sFor : Stmt → Expr × List Stmt
  | .For t _ b _ _ => (t, b)
  | _ => (default, [])
def forTgt : Expr := (sFor (gBody.getD 1 (.Pass default))).1
def forBody : List Stmt := (sFor (gBody.getD 1 (.Pass default))).2
def genv (Lg : Addr) : Env := envOf (Str.ofString "_grouping_intervals") gScope Lg 84 (.ref 83)
def outs : Option Int → List Int → Nat → List Int × Bool
  | _, _, 0 => ([], false)
  | _, [], _ + 1 => ([], true)
  | last, z :: r, n + 1 => if z = 127 then ([], true) else if z = 0 then (match last with
      | some y => (List.replicate (n + 1) y, false)
      | none => ([], false)) else (z :: (outs (some z) r n).1, (outs (some z) r n).2)
theorem outs_cons (last : Option Int) (z : Int) (r : List Int) (n : Nat) : outs last (z :: r) (n + 1) = if z = 127 then ([], true) else if z = 0 then (match last with
      | some y => (List.replicate (n + 1) y, false)
      | none => ([], false)) else (z :: (outs (some z) r n).1, (outs (some z) r n).2) := by
  cases last <;> rfl
def Since (Lg I : Addr) (s₀ s : Shared) : Prop :=
  (∃ h' tk, s = { s₀ with heap := h', toks := tk }) ∧ ∀ b o, b ≠ Lg → b ≠ I → s₀.heap.get? b = some o → s.heap.get? b = some o
def tellR (Lg I : Addr) (xs : List Int) (fin : Bool) (N : Nat) : Nat → Shared → Shared → Prop := fun n s₀ s => fin = true ∧ xs.length ≤ N - n ∧ Since Lg I s₀ s
def tellY (g : Heap) (Lg I R : Addr) (xs : List Int) (N : Nat) : Protocol := fun m s₀ v s kap =>
  (∃ t, v = .int (xs.getD (N - 1 - m) 0) t) ∧ N - 1 - m < xs.length ∧ Since Lg I s₀ s ∧ (0 < m → ∀ s'', (∀ b, b = Lg ∨ b = I ∨ b = R → ∀ o, s.heap.get? b = some o → s''.heap.get? b = some o) → (∀ b o, g.get? b = some o → s''.heap.get? b = some o) → kap (.send .none) s'')
def LastIs : Option Int → Option Value → Prop
  | none, v => v = some .none
  | some y, v => ∃ t, v = some (.int y t)
theorem all_news {g h : Heap} {Lg I : Addr} : ∃ cons : List (Addr × Obj), News g Lg h cons ∧ (∀ p ∈ cons, p.1 ≠ I) ∧ ∀ b o, b ≠ Lg → b ≠ I → h.get? b = some o → g.get? b = none → (b, o) ∈ cons := by
  refine ⟨ownOf g ((List.range h.objs.size).filter fun b => decide (b ≠ Lg ∧ b ≠ I)) h, news_ownOf (fun q => ?_), fun p hp => ?_, fun b o h1 h2 e hg => mem_ownOf ?_ hg e⟩
  · have := (List.mem_filter.mp q).2
    simp at this
  · have := (List.mem_filter.mp (ownOf_sub p hp)).2
    simp at this
    exact this.2
  · exact List.mem_filter.mpr ⟨List.mem_range.mpr (Heap.lt_size e), by simp [h1, h2]⟩
theorem since_step {g : Heap} {Lg I : Addr} {s₀ s : Shared} {m m' : Str → Option Value} {cons : List (Addr × Obj)} {h' : Heap} {tk : Nat} (S : Since Lg I s₀ s) (F : Fr g Lg s.heap m) (F' : Fr g Lg h' m') (N' : News g Lg h' cons)
    (hc : ∀ b o, b ≠ Lg → b ≠ I → s.heap.get? b = some o → g.get? b = none → (b, o) ∈ cons) : Since Lg I s₀ { s with heap := h', toks := tk } := by
  obtain ⟨⟨h1, tk1, rfl⟩, hk⟩ := S
  refine ⟨⟨_, _, rfl⟩, fun b o n1 n2 e => ?_⟩
  have e1 := hk b o n1 n2 e
  cases q : g.get? b with
  | none => exact (N' _ (hc b o n1 n2 e1 q)).1
  | some o' =>
    have e2 := F.keep b o' q
    have e3 : (some o : Option Obj) = some o' := e1.symm.trans e2
    cases e3
    exact F'.keep b o q
theorem since_refl {Lg I : Addr} {s : Shared} : Since Lg I s s := ⟨⟨_, _, rfl⟩, fun _ _ _ _ e => e⟩
section
variable {prog : Program} {w : World} {A : Around} {R : GenEnd} {Y : Protocol} {n : Nat} {s₀ : Shared} {c : Code} {fs : List Frame} {s : Shared} {env : Env}
  {K : Flow → Sem Fin} {H : Value → Sem Fin} {gd : Bool → Bool} {lv : List Value → List Value} {M : Model}
theorem seg_execs_cons' {l : List Stmt} {st : Stmt} {rest : List Stmt} (e : l = st :: rest)
    (h : Seg M A R Y n s₀ c ((exec st env).wrap (fun f => match f with | .next => (execs rest env).wrap K H gd lv | f => K f) H gd lv) fs s) :
    Seg M A R Y n s₀ c ((execs l env).wrap K H gd lv) fs s := by subst e; exact seg_execs_cons h
end
def sIf : Stmt → List Stmt
  | .If _ b _ _ => b
  | _ => []
def sWhile : Stmt → Expr × List Stmt
  | .While t b _ _ => (t, b)
  | _ => (default, [])
def wTest : Expr := (sWhile ((sIf (forBody.getD 1 (.Pass default))).getD 1 (.Pass default))).1
def wBody : List Stmt := (sWhile ((sIf (forBody.getD 1 (.Pass default))).getD 1 (.Pass default))).2
theorem over_in2 (A : Around) (c c2 : Code) (hc : c.weight = 0) (hu : c.cUnits = 0) (hc2 : c2.weight = 0) (hu2 : c2.cUnits = 0) (k k2 : Result → Sem Fin) (g g2 : Bool) (l l2 : List Value) (body : List Stmt) (env : Env) (p p2 : Pos) (kp kp2 : List Value) (he : c.envs = []) (hg : c.guards = []) (he2 : c2.envs = []) (hg2 : c2.guards = []) :
    A.over c [.ret k2 none g2 l2 c2 p2 kp2, .ret k none g l (.func body env) p kp] = A.deeper env := by
  have e := over_in A c hc hu k g l body env p kp he hg
  rw [← e]
  unfold Around.over
  simp only [List.map_cons, List.map_nil]
  have e1 : frameCount [Frame.where_ (.ret k2 none g2 l2 c2 p2 kp2), Frame.where_ (.ret k none g l (.func body env) p kp)] = frameCount [Frame.where_ (.ret k none g l (.func body env) p kp)] := by
    show frameCount [(c2, p2), (.func body env, p)] = frameCount [(.func body env, p)]
    rw [frameCount_cons, hc2, Nat.zero_add]
  have e2 : envsOf [Frame.where_ (.ret k2 none g2 l2 c2 p2 kp2), Frame.where_ (.ret k none g l (.func body env) p kp)] = envsOf [Frame.where_ (.ret k none g l (.func body env) p kp)] := by
    show envsOf [(c2, p2), (.func body env, p)] = envsOf [(.func body env, p)]
    rw [envsOf_cons, he2, List.nil_append]
  have e3 : guardsOf [Frame.where_ (.ret k2 none g2 l2 c2 p2 kp2), Frame.where_ (.ret k none g l (.func body env) p kp)] = guardsOf [Frame.where_ (.ret k none g l (.func body env) p kp)] := by
    show guardsOf [(c2, p2), (.func body env, p)] = guardsOf [(.func body env, p)]
    rw [guardsOf_cons, hg2, List.nil_append]
  have e4 : unitsOf [Frame.where_ (.ret k2 none g2 l2 c2 p2 kp2), Frame.where_ (.ret k none g l (.func body env) p kp)] = unitsOf [Frame.where_ (.ret k none g l (.func body env) p kp)] := by
    show unitsOf [(c2, p2), (.func body env, p)] = unitsOf [(.func body env, p)]
    rw [unitsOf_cons, hu2, Nat.zero_add]
  rw [e1, e2, e3, e4]
  rfl
theorem seg_While2 {M : Model} {A : Around} {R : GenEnd} {Y : Protocol} {n : Nat} {s₀ : Shared} {c : Code} {fs : List Frame} {s : Shared} {env : Env} {K : Flow → Sem Fin} {H : Value → Sem Fin} {gd : Bool → Bool} {lv : List Value → List Value} {test : Expr} {body orelse : List Stmt} {pos : Pos} (hgd : gd false = false)
    (h : ∀ p k l, (∀ f, k (.ok f) = K f) → Seg M A R Y n s₀ (.whileLoop test body orelse env) (M.den (.whileLoop test body orelse env)) (.ret k none false l c p [] :: fs) s) :
    Seg M A R Y n s₀ c ((exec (.While test body orelse pos) env).wrap K H gd lv) fs s := by
  rw [exec_While]
  exact seg_go_bind (wpAny_standAt (seg_runOwn hgd h))
theorem seg_tellW (w : World) (A : Around) (g : Heap) (Lg I R : Addr) (xs : List Int) (fin : Bool) (N : Nat)
    {p : Program} {loose : List Str} {mean : ExcName → Option Value} {mg mb : Str → Option Value} (X : (Mine.hd.heap_1 w.params).In g) (T : Top p loose mean mg mb g) (y : Int) (ty : Tok) (mm : Str → Option Value) (hm : mm (Str.ofString "last_interval") = some (.int y ty)) (Pr : Nat → Shared → Shared → Prop) :
    ∀ (n : Nat) (s₀ s : Shared), 0 < n → n ≤ N → xs.drop (N - n) = List.replicate n y → Fr g Lg s.heap mm → Since Lg I s₀ s →
      ∀ (k k2 : Result → Sem Fin) (l l2 : List Value) (ps p2 : Pos),
      Seg (model PySem.Challenge.rw_ul0005_01.row.prog w) A (fun n s₀ r s₁ => r = .ok (.ret .none) ∧ Pr n s₀ s₁) (tellY g Lg I R xs N) n s₀ (.whileLoop wTest wBody [] (genv Lg)) ((model PySem.Challenge.rw_ul0005_01.row.prog w).den (.whileLoop wTest wBody [] (genv Lg)))
        [.ret k2 none false l2 (.forLoop forTgt (.ref I) forBody [] (genv Lg)) p2 [], .ret k none false l (.func gBody (genv Lg)) ps []] s := by
  revert X
  k_fill
  intro X n
  induction n with
  | zero => intro s₀ s hn; exact absurd hn (Nat.lt_irrefl _)
  | succ n ih =>
    intro s₀ s hn hnN hx F hs k k2 l l2 ps p2
    obtain ⟨cons, N1, hcI, hc⟩ := all_news (g := g) (h := s.heap) (Lg := Lg) (I := I)
    have F1 := Fr.known0 F hm
    have sF : ∀ h'' m'' tk, Fr g Lg h'' m'' → News g Lg h'' cons → Since Lg I s₀ { s with heap := h'', toks := tk } := fun h'' m'' tk Fa Na => since_step hs F1 Fa Na hc
    obtain ⟨kk, ps9, eT⟩ : ∃ k ps, wTest = .Constant (.bool true) k ps := ⟨_, _, rfl⟩
    rw [eT] at ih ⊢
    refine seg_whileLoop ?_
    refine wpAny_mono (E := fun _ _ => False) ?_ (fun _ _ x => x) (fun _ _ x => x.elim)
    rw [over_in2 _ _ _ rfl rfl rfl rfl _ _ _ _ _ _ _ _ _ _ _ _ rfl rfl rfl rfl]
    k_with_none
    k_steps
    refine seg_execs_cons' (l := wBody) rfl ?_
    refine seg_Expr_Yield (n := n) rfl rfl rfl ?_
    refine wpAny_mono (E := fun _ _ => False) ?_ (fun _ _ x => x) (fun _ _ x => x.elim)
    rw [over_in2 _ _ _ rfl rfl rfl rfl _ _ _ _ _ _ _ _ _ _ _ _ rfl rfl rfl rfl]
    k_steps
    rename_i kap hkap
    have hj : N - 1 - n = N - (n + 1) := by omega
    have hjl : N - 1 - n < xs.length := by
      have := congrArg List.length hx
      simp at this
      omega
    have hjx : xs[N - (n + 1)]? = some y := by rw [← List.head?_drop, hx]; rfl
    refine ⟨⟨ty, ?_⟩, hjl, hs, fun hq s'' hkk hkg => ?_⟩
    · rw [hj, List.getD_eq_getElem?_getD, hjx]; rfl
    refine hkap .none s'' ?_
    show Seg _ _ _ _ n s'' _ (Sem.wrap _ _ id id (execs [] (genv Lg))) _ s''
    refine seg_execs_nil (seg_again rfl ?_)
    refine ih s'' s'' hq (by omega) ?_ ⟨F.ns.at' (fun o e => hkk Lg (.inl rfl) o e), hkg, F.above⟩ since_refl k k2 l l2 ps p2
    have h9 := congrArg List.tail hx
    rw [List.tail_drop, List.replicate_succ, List.tail_cons] at h9
    rw [← h9]
    congr 1
    omega
theorem seg_tell (w : World) (A : Around) (hh : A.handled = none) (g : Heap) (Lg I R : Addr) (vs : List Value) (ns : List Int) (hi : IntsAre vs ns) (xs : List Int) (fin : Bool) (N : Nat) (hIL : I ≠ Lg) (hRL : R ≠ Lg) (hRI : R ≠ I) (hI : g.get? I = none)
    {p : Program} {loose : List Str} {mean : ExcName → Option Value} {mg mb : Str → Option Value} (X : (Mine.hd.heap_1 w.params).In g) (T : Top p loose mean mg mb g) :
    ∀ (rs : List Int) (i n : Nat) (last : Option Int) (mm : Str → Option Value) (s₀ s : Shared), ns.drop i = rs → (last = none → ∀ z r, rs = z :: r → z ≠ 0) → 0 < n → n ≤ N → outs last rs n = (xs.drop (N - n), fin) → Fr g Lg s.heap mm → LastIs last (mm (Str.ofString "last_interval")) → s.heap.IsListIter I R i → s.heap.IsList R vs.toArray → Since Lg I s₀ s →
      ∀ (k : Result → Sem Fin) (l : List Value) (ps : Pos), k (.ok .next) = .pure (.done (.ret .none)) → k (.ok (.ret .none)) = .pure (.done (.ret .none)) →
      Seg (model PySem.Challenge.rw_ul0005_01.row.prog w) A (fun n s₀ r s₁ => r = .ok (.ret .none) ∧ tellR Lg I xs fin N n s₀ s₁) (tellY g Lg I R xs N) n s₀ (.forLoop forTgt (.ref I) forBody [] (genv Lg)) ((model PySem.Challenge.rw_ul0005_01.row.prog w).den (.forLoop forTgt (.ref I) forBody [] (genv Lg))) [.ret k none false l (.func gBody (genv Lg)) ps []] s := by
  revert X
  k_fill
  intro X rs
  induction rs with
  | nil =>
    intro i n last mm s₀ s hd hl0 hn hnN hout F hl hit hL hs k l ps hk1 hk2
    have hlen : vs.length ≤ i := by rw [IntsAre.length hi]; exact List.drop_eq_nil_iff.mp hd
    refine seg_forLoop ?_
    rw [over_in _ _ rfl rfl _ _ _ _ _ _ _ rfl rfl]
    refine wpAny_pyNext_list_end hh hit hL (by simp [hlen]) fun h' ext => ?_
    refine seg_leaf (.ok .next) ?_
    rw [hk1]
    refine seg_end (.ok (.ret .none)) ⟨rfl, ?_⟩
    obtain ⟨n, rfl⟩ : ∃ q, n = q + 1 := ⟨n - 1, by omega⟩
    have h1 := (Prod.mk.inj hout).1
    have h2 := (Prod.mk.inj hout).2
    have h3 := List.drop_eq_nil_iff.mp h1.symm
    refine ⟨h2.symm, h3, ?_⟩
    obtain ⟨⟨h9, tk9, rfl⟩, hk⟩ := hs
    exact ⟨⟨_, _, rfl⟩, fun b o n1 n2 e => ext b o n2 (hk b o n1 n2 e)⟩
  | cons z r ih =>
    intro i n last mm s₀ s hd hl0 hn hnN hout F hl hit hL hs k l ps hk1 hk2
    obtain ⟨t, hx⟩ : ∃ t, vs.toArray[i]? = some (.int z t) := by
      obtain ⟨t, ht⟩ := hi.get i z (by rw [← List.head?_drop, hd]; rfl)
      exact ⟨t, by simpa using ht⟩
    refine seg_forLoop ?_
    rw [over_in _ _ rfl rfl _ _ _ _ _ _ _ rfl rfl]
    refine wpAny_pyNext_list_item hit hL hx fun h' hit' hs' => ?_
    have F1 : Fr g Lg h' mm := ⟨F.ns.sameBut hs' (Ne.symm hIL), fun b o e => hs'.extBut b o (fun q => by rw [q, hI] at e; cases e) (F.keep b o e), F.above⟩
    have S1 : Since Lg I s₀ { s with heap := h' } := by
      obtain ⟨⟨h9, tk9, rfl⟩, hk⟩ := hs
      exact ⟨⟨_, _, rfl⟩, fun b o n1 n2 e => hs'.extBut b o n2 (hk b o n1 n2 e)⟩
    have hL1 : h'.IsList R vs.toArray := hL.at fun o e => hs'.extBut R o hRI e
    obtain ⟨it, ho, hic, hid⟩ := id hit'
    obtain ⟨cons, N1, hcI, hc⟩ := all_news (g := g) (h := h') (Lg := Lg) (I := I)
    have N2 : News g Lg h' ((I, it) :: cons) := fun q hq => by
      rcases List.mem_cons.mp hq with rfl | hq
      · exact ⟨ho, hIL, hI⟩
      · exact N1 q hq
    have sF : ∀ h'' m'' tk, Fr g Lg h'' m'' → News g Lg h'' cons → Since Lg I s₀ { s with heap := h'', toks := tk } := fun h'' m'' tk Fa Na => since_step (s := { s with heap := h' }) S1 F1 Fa Na hc
    have sL : ∀ h'' m'', Fr g Lg h'' m'' → News g Lg h'' cons → h''.IsList R vs.toArray := fun h'' m'' Fa Na => hL1.at fun o e => (since_step (tk := 0) (since_refl (Lg := Lg) (I := I) (s := { s with heap := h' })) F1 Fa Na hc).2 R o hRL hRI e
    dsimp only
    k_with_none
    k_steps
    refine seg_execs_cons' (l := forBody) rfl ?_
    refine seg_go ?_
    rw [over_in _ _ rfl rfl _ _ _ _ _ _ _ rfl rfl]
    k_steps
    all_goals (
      (with_reducible rename Fr _ _ _ _ => F2)
      (with_reducible rename News _ _ _ _ => N3)
      have N4 := news_sub N3 fun q hq => List.Mem.tail _ hq
      have hiS := (N3 _ (.head _)).1)
    · refine seg_leaf (.ok (.ret .none)) ?_
      rw [hk2]
      obtain ⟨n, rfl⟩ : ∃ q, n = q + 1 := ⟨n - 1, by omega⟩
      have hz : z = 127 := by assumption
      rw [outs_cons, if_pos hz] at hout
      exact seg_end (.ok (.ret .none)) ⟨rfl, (Prod.mk.inj hout).2.symm, List.drop_eq_nil_iff.mp (Prod.mk.inj hout).1.symm, sF _ _ _ F2 N4⟩
    · have hz : z ≠ 127 := by assumption
      show Seg _ _ _ _ _ _ _ (Sem.wrap (forK _) _ id id (execs _ (genv Lg))) _ _
      refine seg_execs_cons' rfl ?_
      obtain ⟨n, rfl⟩ : ∃ q, n = q + 1 := ⟨n - 1, by omega⟩
      rw [outs_cons, if_neg hz] at hout
      by_cases hz0 : z = 0
      · rw [if_pos hz0] at hout
        cases last with
        | none => exact absurd hz0 (hl0 rfl z r rfl)
        | some y =>
        obtain ⟨ty, hty⟩ := hl
        have hx1 := (Prod.mk.inj hout).1
        have F3 := F2.known hty
        refine seg_If ?_
        rw [over_in _ _ rfl rfl _ _ _ _ _ _ _ rfl rfl]
        clear F2
        have hF3 := F3
        k_steps
        · refine seg_execs_cons' rfl ?_
          refine seg_go ?_
          rw [over_in _ _ rfl rfl _ _ _ _ _ _ _ rfl rfl]
          k_steps
          show Seg _ _ _ _ _ _ _ (Sem.wrap _ _ id id (execs _ (genv Lg))) _ _
          refine seg_execs_cons' rfl ?_
          refine seg_While2 rfl fun p2 k2 l2 hk => ?_
          exact seg_tellW w A g Lg I R xs fin N X T y ty _ (by first | rfl | simp) _ (n + 1) s₀ _ (by omega) hnN hx1.symm hF3 (sF _ _ _ hF3 N4) k k2 l l2 ps p2
        · exact absurd hz0 (by assumption)
      · rw [if_neg hz0] at hout
        have hx1 := (Prod.mk.inj hout).1
        have hx2 := (Prod.mk.inj hout).2
        refine seg_go ?_
        rw [over_in _ _ rfl rfl _ _ _ _ _ _ _ rfl rfl]
        k_steps
        show Seg _ _ _ _ _ _ _ (Sem.wrap (forK _) _ id id (execs _ (genv Lg))) _ _
        refine seg_execs_cons' rfl ?_
        refine seg_Expr_Yield (n := n) rfl rfl rfl ?_
        refine wpAny_mono (E := fun _ _ => False) ?_ (fun _ _ x => x) (fun _ _ x => x.elim)
        rw [over_in _ _ rfl rfl _ _ _ _ _ _ _ rfl rfl]
        k_steps
        · rename_i kap hkap
          have F5 := F2
          have N5' := N4
          have hiS5 := hiS
          have hL5 := sL _ _ F5 N5'
          have hj : N - 1 - n = N - (n + 1) := by omega
          have hjl : N - 1 - n < xs.length := by
            have := congrArg List.length hx1
            simp at this
            omega
          have hjx : xs[N - (n + 1)]? = some z := by rw [← List.head?_drop, ← hx1]; rfl
          refine ⟨⟨t, ?_⟩, hjl, sF _ _ _ F5 N5', fun hq s'' hkk hkg => ?_⟩
          · rw [hj, List.getD_eq_getElem?_getD, hjx]; rfl
          refine hkap .none s'' ?_
          show Seg _ _ _ _ n s'' _ (Sem.wrap (forK _) _ id id (execs _ (genv Lg))) _ s''
          refine seg_execs_cons' rfl ?_
          refine seg_go ?_
          rw [over_in _ _ rfl rfl _ _ _ _ _ _ _ rfl rfl]
          have F6 : Fr g Lg s''.heap _ := ⟨F5.ns.at' (fun o e => hkk Lg (.inl rfl) o e), hkg, F5.above⟩
          have hi6 := hkk I (.inr (.inl rfl)) _ hiS5
          have hL6 : s''.heap.IsList R vs.toArray := hL5.at fun o e => hkk R (.inr (.inr rfl)) o e
          obtain ⟨cons2, N6, hcI2, hc2⟩ := all_news (g := g) (h := s''.heap) (Lg := Lg) (I := I)
          have N7 : News g Lg s''.heap ((I, it) :: cons2) := fun q hq => by
            rcases List.mem_cons.mp hq with rfl | hq
            · exact ⟨hi6, hIL, hI⟩
            · exact N6 q hq
          have sF2 : ∀ h'' m'' tk, Fr g Lg h'' m'' → News g Lg h'' cons2 → Since Lg I s'' { s'' with heap := h'', toks := tk } := fun h'' m'' tk Fa Na => since_step since_refl F6 Fa Na hc2
          have sL2 : ∀ h'' m'', Fr g Lg h'' m'' → News g Lg h'' cons2 → h''.IsList R vs.toArray := fun h'' m'' Fa Na => hL6.at fun o e => (sF2 h'' m'' 0 Fa Na).2 R o hRL hRI e
          clear N6 F5 N5' F2 N3 N4
          k_steps
          (with_reducible rename Fr _ _ _ _ => F8)
          (with_reducible rename News _ _ _ _ => N8)
          have N8' := news_sub N8 fun q hq => List.Mem.tail _ hq
          show Seg _ _ _ _ n s'' _ (Sem.wrap (forK _) _ id id (execs [] (genv Lg))) _ _
          refine seg_execs_nil (seg_again rfl ?_)
          have hout' : outs (some z) r n = (xs.drop (N - n), fin) := by
            refine Prod.ext ?_ hx2
            have h9 := congrArg List.tail hx1
            rw [List.tail_cons, List.tail_drop] at h9
            rw [h9]
            show _ = xs.drop (N - n)
            congr 1
            omega
          refine ih (i + 1) n (some z) _ s'' _ ?_ (fun h => nomatch h) hq (by omega) hout' F8 ⟨_, if_pos rfl⟩ ⟨it, (N8 _ (.head _)).1, hic, hid⟩ (sL2 _ _ F8 N8') (sF2 _ _ _ F8 N8') k l ps hk1 hk2
          rw [← List.tail_drop, hd]
          rfl
        · exact absurd (by assumption) hz0
-- gen4
section
variable {prog : Program} {w : World} {A : Around} {E : Value → Shared → Prop} {s : Shared}
theorem gen_next {a : Addr} {g n : Nat} {gs : GenState} {R : GenEnd} {Y : Protocol} {Q : Option Value → Shared → Prop} (hh : A.handled = none)
    (hl : s.heap.NoLimit) (hroom : A.depth < recursionLimit) (hg : s.heap.IsGen a g) (hgs : s.gens[g]? = some gs) (hgo : gs.Goes (model prog w) A.in1 R Y n (.send .none) (s.setGen g .running))
    (hR : ∀ r s₁, R n (s.setGen g .running) r s₁ → r = .ok (.ret .none) ∧ ∀ h', (∀ b o, s₁.heap.get? b = some o → h'.get? b = some o) → Q none { s₁.setGen g .finished with heap := h' })
    (hY : ∀ v s₁ gs', gs'.bare = true → Y (n - 1) (s.setGen g .running) v s₁ (fun r' s'' => match n with
        | 0 => False
        | m + 1 => gs'.Goes (model prog w) A.in1 R Y m r' s'') → Q (some v) (s₁.setGen g gs')) :
    wpAny (model prog w) A (pyNext (.ref a)) Q E s := by
  unfold pyNext
  refine wpAny_bind (wpAny_attempt (wpAny_callSpecial?_slot (name := Str.ofString "__next__") hg.typeIs slot_gen_next
    (wpAny_call_entry slot_gen_next hg.typeIs entry_gen_next ?_ (args_gen_next _))))
  show wpAny _ A.in1 (Builtin.Generator.genWake (.ref a) (.send .none)) _ _ s
  unfold Builtin.Generator.genWake
  refine wpAny_bind (wpAny_holding (wpAny_genNumber hg (wpAny_bind (wpAny_genState hgs ?_))))
  cases gs with
  | running => exact hgo.elim
  | finished => exact hgo.elim
  | _ =>
    refine wpAny_bind (wpAny_roomToWake hl hroom ?_)
    show wpAny _ A.in1 (.resume g (.send .none) [] _) _ _ s
    refine wpAny_resumeQ hgs hgo (fun x s₁ hx => ?_) (fun v s₁ gs' hb hv => wpAny_pure ⟨v, rfl, wpAny_pure (hY v s₁ gs' hb hv)⟩)
    obtain ⟨rfl, hp⟩ := hR x s₁ hx
    show wpAny _ A.in1 (newExc (.type "StopIteration") [] >>= _) _ _ _
    simp only [newExc, newTuple]
    refine wpAny_bind (wpAny_bind (wpAny_newObj_type (wpAny_bind (wpAny_of_eq (a := Value.none) (by simp only [firstArgMember]; rfl) (wpAny_newObj_type ?_ (by size_fits)))) (by size_fits)))
    simp only [raiseNew]
    refine wpAny_bind (wpAny_bind (wpAny_handled ?_))
    rw [show A.in1.handled = none from hh]
    refine wpAny_throw (wpAny_bind (wpAny_isInstance (T := "StopIteration") (b := true) ⟨_, Heap.get?_push_size _ rfl, rfl⟩ isSubtype_stop ?_))
    exact wpAny_pure (hp _ fun b o hb => Heap.get?_push_of_some _ (Heap.get?_push_of_some _ hb))
end
theorem gen_start (w : World) (A : Around) (hh : A.handled = none) (g : Heap) (Lg R : Addr) (vs : List Value) (ns : List Int) (hi : IntsAre vs ns) (xs : List Int) (fin : Bool) (N : Nat) (hRL : R ≠ Lg)
    {p : Program} {loose : List Str} {mean : ExcName → Option Value} {mg mb : Str → Option Value} (X : (Mine.hd.heap_1 w.params).In g) (T : Top p loose mean mg mb g)
    (hN : 0 < N) (hns : ∀ z r, ns = z :: r → z ≠ 0) (hout : outs none ns N = (xs, fin)) (s : Shared) (m0 : Str → Option Value) (F : Fr g Lg s.heap m0) (hm : m0 (Str.ofString "grouping") = some (.ref R)) (hL : s.heap.IsList R vs.toArray) :
    Seg (model PySem.Challenge.rw_ul0005_01.row.prog w) A (fun n s₀ r s₁ => r = .ok (.ret .none) ∧ tellR Lg s.heap.objs.size xs fin N n s₀ s₁) (tellY g Lg s.heap.objs.size R xs N) N s (.func gBody (genv Lg)) ((model PySem.Challenge.rw_ul0005_01.row.prog w).den (.func gBody (genv Lg))) [] s := by
  revert X
  k_fill
  intro X
  obtain ⟨I, eI⟩ : ∃ I, I = s.heap.objs.size := ⟨_, rfl⟩
  rw [← eI]
  have hIL : I ≠ Lg := by rw [eI]; exact Nat.ne_of_gt F.ns.lt
  have hRI : R ≠ I := by
    obtain ⟨o, ho, _⟩ := hL
    rw [eI]; exact Nat.ne_of_lt (Heap.lt_size ho)
  have hgI : g.get? I = none := by rw [eI]; exact next_is_new F
  refine seg_func (seg_execs_cons' (l := gBody) rfl (seg_go ?_))
  rw [over_func]
  k_with_none
  k_with "my store" => refine Halt.of ?_
  k_with "my iter" => refine Halt.of ?_
  k_steps
  unfold Halt
  refine wpAny_storeName_local rfl F.ns (fun h₂ hn₂ hs₂ => ?_) rfl
  have F2 := F.set hn₂ hs₂
  have F3 := F2.known hm
  have hL2 : h₂.IsList R vs.toArray := hL.at fun o e => hs₂.extBut R o hRL e
  have hsz : h₂.objs.size = I := by rw [eI]; exact hs₂.1
  have hsin : ∀ b o, b ≠ Lg → b ≠ I → s.heap.get? b = some o → h₂.get? b = some o := fun b o n1 n2 e => hs₂.extBut b o n1 e
  clear F2
  have hF3 := F3
  show Seg _ _ _ _ _ _ _ (Sem.wrap _ _ id id (execs _ (genv Lg))) _ _
  refine seg_execs_cons' rfl ?_
  refine seg_For rfl ?_
  rw [over_func]
  k_steps
  unfold Halt
  refine wpAny_pyIter_list hL2 ?_
  intro p k l hk
  show Seg _ _ _ _ _ _ (.forLoop forTgt (.ref h₂.objs.size) forBody [] (genv Lg)) ((model PySem.Challenge.rw_ul0005_01.row.prog w).den (.forLoop forTgt (.ref h₂.objs.size) forBody [] (genv Lg))) _ { s with heap := h₂.push _, toks := _ }
  have hit : (h₂.push { cls := .type "list_iterator", data := .fields #[.ref R, .int 0 0] }).IsListIter I R 0 := by rw [← hsz]; exact ⟨_, Heap.get?_push_size _ rfl, rfl, rfl⟩
  rw [hsz]
  refine seg_tell w A hh g Lg I R vs ns hi xs fin N hIL hRL hRI hgI X T ns 0 N none _ s _ rfl (fun _ => hns) hN (Nat.le_refl _) ?_ (hF3.push _) ?_ hit (hL2.at fun o e => Heap.get?_push_of_some _ e) ⟨⟨_, _, rfl⟩, fun b o n1 n2 e => Heap.get?_push_of_some _ (hsin b o n1 n2 e)⟩ k l p (by rw [hk]; rfl) (by rw [hk])
  · rw [Nat.sub_self, List.drop_zero]; exact hout
  · exact if_pos rfl
-- told2
theorem gens_set (a : Array GenState) (x y : GenState) : (a.push x).setIfInBounds a.size y = a.push y := by
  apply Array.ext'
  simp
def mkS (s : Shared) (h : Heap) (gs : GenState) (tk : Nat) : Shared := { heap := h, gens := s.gens.push gs, drawn := s.drawn, toks := tk, os := s.os }
theorem mkS_set (s : Shared) (h : Heap) (gs x : GenState) (tk : Nat) : (mkS s h gs tk).setGen s.gens.size x = mkS s h x tk := by
  show Shared.mk h ((s.gens.push gs).setIfInBounds s.gens.size x) s.drawn tk s.os = _
  rw [gens_set]; rfl
structure TI (w : World) (A : Around) (s : Shared) (g0 hS : Heap) (L' D Lg : Addr) (xs : List Int) (N : Nat) (R : GenEnd) (Y : Protocol) (j : Nat) (h' : Heap) (gs : GenState) (tk : Nat) (mL : Str → Option Value) (ws : List Value) (k : Nat) : Prop where
  bare : gs.bare = true
  fr : Fr g0 L' h' mL
  told : mL (Str.ofString "told") = some (.ref D)
  most : ∃ t, mL (Str.ofString "most") = some (.int 5 t)
  list : h'.get? D = some (listOf ws.toArray k)
  isI : IntsAre ws (xs.take j)
  le : j ≤ xs.length
  lt : j < N
  keep : ∀ b o, b ≠ L' → b ≠ D → b ≠ Lg → hS.get? b = some o → h'.get? b = some o
  goes : gs.Goes (model PySem.Challenge.rw_ul0005_01.row.prog w) A.in1 R Y (N - j) (.send .none) (mkS s h' .running tk)
def tTgt : Expr := (sFor ((gFn (gSt 18)).1.getD 1 (.Pass default))).1
def tBody : List Stmt := (sFor ((gFn (gSt 18)).1.getD 1 (.Pass default))).2
def tenv (L : Addr) : Env := envOf (Str.ofString "_law_told") (gFn (gSt 18)).2 L 91 (.ref 90)
def TPost (I : Nat → Shared → Prop) (n : Nat) (R : Result → Shared → Prop) (f : Flow) (s₃ : Shared) : Prop := match f with
  | .next | .cont => ∃ m, m < n ∧ I m s₃
  | .brk => R (.ok .next) s₃
  | .ret v => R (.ok (.ret v)) s₃
theorem told_loop (w : World) (A : Around) (hh : A.handled = none) (hroom : A.depth < recursionLimit) (s : Shared) (g0 hS : Heap) (L' D Lg I G R : Addr) (vs : List Value) (xs : List Int) (fin : Bool) (hx5 : fin = true ∨ xs.length = 5) (hx6 : xs.length ≤ 5)
    {p : Program} {loose : List Str} {mean : ExcName → Option Value} {mg mb : Str → Option Value} (X : (Mine.hd.heap_1 w.params).In g0) (T : Top p loose mean mg mb g0)
    (hG : hS.IsGen G s.gens.size) (hGL : G ≠ L') (hGD : G ≠ D) (hGg : G ≠ Lg) (hRL : R ≠ L') (hRD : R ≠ D) (hRg : R ≠ Lg) (hDL : D ≠ L') (hDg : D ≠ Lg) (hLg : L' ≠ Lg) (hI : hS.get? I = none) (hL0 : g0.get? L' = none) (hD0 : g0.get? D = none) (hLg0 : g0.get? Lg = none) (hI0 : g0.get? I = none) (hLs : ∃ o, hS.get? L' = some o) (hDs : ∃ o, hS.get? D = some o)
    (tk0 : Nat) (gs0 : GenState) (mL0 : Str → Option Value)
    (T0 : TI w A s g0 hS L' D Lg xs 5 (fun n s₀ r s₁ => r = .ok (.ret .none) ∧ tellR Lg I xs fin 5 n s₀ s₁) (tellY g0 Lg I R xs 5) 0 hS gs0 tk0 mL0 [] 0)
    {Rr : Result → Shared → Prop}
    (done : ∀ h' gs tk mL ws k, gs.bare = true → Fr g0 L' h' mL → mL (Str.ofString "told") = some (.ref D) → h'.get? D = some (listOf ws.toArray k) → IntsAre ws xs → (∀ b o, b ≠ L' → b ≠ D → b ≠ Lg → hS.get? b = some o → h'.get? b = some o) → Rr (.ok .next) (mkS s h' gs tk)) :
    codeAny (model PySem.Challenge.rw_ul0005_01.row.prog w) A (.forLoop tTgt (.ref G) tBody [] (tenv L')) Rr (mkS s hS gs0 tk0) := by
  revert X
  k_fill
  intro X
  have hIL : I ≠ L' := fun e => by obtain ⟨o, ho⟩ := hLs; rw [← e, hI] at ho; cases ho
  have hID : I ≠ D := fun e => by obtain ⟨o, ho⟩ := hDs; rw [← e, hI] at ho; cases ho
  refine codeAny_forLoop (fun n s' => ∃ j h' gs tk mL ws k, n = 5 - j ∧ s' = mkS s h' gs tk ∧ TI w A s g0 hS L' D Lg xs 5 (fun n s₀ r s₁ => r = .ok (.ret .none) ∧ tellR Lg I xs fin 5 n s₀ s₁) (tellY g0 Lg I R xs 5) j h' gs tk mL ws k) ?_ 5 ⟨0, hS, gs0, tk0, mL0, [], 0, rfl, rfl, T0⟩
  rintro n s' ⟨j, h', gs, tk, mL, ws, k, rfl, rfl, Tj⟩
  obtain ⟨o, nm, qn, hGo, hGr⟩ := hG
  have hjl := Tj.lt
  have hgen : (mkS s h' gs tk).heap.IsGen G s.gens.size := ⟨o, nm, qn, Tj.keep G o hGL hGD hGg hGo, hGr⟩
  refine gen_next (n := 5 - j) hh (T.nolimit.keeps Tj.fr.keep) hroom hgen (by show (s.gens.push gs)[s.gens.size]? = some gs; rw [Array.getElem?_push_size]) (by rw [mkS_set]; exact Tj.goes) (fun r s₁ hr => ?_) (fun v s₁ gs' hb hv => ?_)
  · rw [mkS_set] at hr
    obtain ⟨rfl, hf, hlen, ⟨h2, tk2, rfl⟩, hk2⟩ := hr
    refine ⟨rfl, fun h3 hk3 => ?_⟩
    have hset : ({ ({ mkS s h' .running tk with heap := h2, toks := tk2 } : Shared).setGen s.gens.size .finished with heap := h3 } : Shared) = mkS s h3 .finished tk2 := by
      show Shared.mk h3 ((s.gens.push .running).setIfInBounds s.gens.size .finished) s.drawn tk2 s.os = _
      rw [gens_set]; rfl
    rw [hset]
    have up : ∀ b o, b ≠ Lg → b ≠ I → h'.get? b = some o → h3.get? b = some o := fun b o n1 n2 e => hk3 b o (hk2 b o n1 n2 e)
    have hj : xs.take j = xs := List.take_of_length_le (by omega)
    refine wpAny_execs_nil (done h3 .finished tk2 mL ws k rfl ⟨Tj.fr.ns.at' fun o e => up L' o hLg (Ne.symm hIL) e, fun b o e => up b o (fun q => by rw [q, hLg0] at e; cases e) (fun q => by rw [q, hI0] at e; cases e) (Tj.fr.keep b o e), Tj.fr.above⟩ Tj.told (up D _ hDg (Ne.symm hID) Tj.list) (by have := Tj.isI; rw [hj] at this; exact this) fun b o n1 n2 n3 e => up b o n3 (fun q => by rw [q, hI] at e; cases e) (Tj.keep b o n1 n2 n3 e))
  · rw [mkS_set] at hv
    obtain ⟨⟨t, rfl⟩, hlt, ⟨⟨h2, tk2, rfl⟩, hk2⟩, hres⟩ := hv
    have hset : ({ mkS s h' .running tk with heap := h2, toks := tk2 } : Shared).setGen s.gens.size gs' = mkS s h2 gs' tk2 := by
      show Shared.mk h2 ((s.gens.push .running).setIfInBounds s.gens.size gs') s.drawn tk2 s.os = _
      rw [gens_set]; rfl
    rw [hset]
    have hjj : 5 - 1 - (5 - j - 1) = j := by omega
    rw [hjj] at hlt ⊢
    have up : ∀ b o, b ≠ Lg → b ≠ I → h'.get? b = some o → h2.get? b = some o := hk2
    have F2 : Fr g0 L' h2 mL := ⟨Tj.fr.ns.at' fun o e => up L' o hLg (Ne.symm hIL) e, fun b o e => up b o (fun q => by rw [q, hLg0] at e; cases e) (fun q => by rw [q, hI0] at e; cases e) (Tj.fr.keep b o e), Tj.fr.above⟩
    have hD2 : h2.get? D = some (listOf ws.toArray k) := up D _ hDg (Ne.symm hID) Tj.list
    have hkeep2 : ∀ b o, b ≠ L' → b ≠ D → b ≠ Lg → hS.get? b = some o → h2.get? b = some o := fun b o n1 n2 n3 e => up b o n3 (fun q => by rw [q, hI] at e; cases e) (Tj.keep b o n1 n2 n3 e)
    obtain ⟨cons, N1, hcD, hc⟩ := all_news (g := g0) (h := h2) (Lg := L') (I := D)
    have N2 : News g0 L' h2 ((D, listOf ws.toArray k) :: cons) := fun q hq => by
      rcases List.mem_cons.mp hq with rfl | hq
      · exact ⟨hD2, hDL, hD0⟩
      · exact N1 q hq
    obtain ⟨t5, hmost⟩ := Tj.most
    have htold := Tj.told
    have F3 := Fr.known0 (n := Str.ofString "told") (Fr.known0 F2 hmost) ((if_neg (by decide)).trans htold)
    have hws := Tj.isI
    have hwl : ws.length ≤ 1000 := by rw [IntsAre.length hws, List.length_take]; omega
    have hI2 : IntsAre (ws ++ [.int (xs.getD j 0) t]) (xs.take (j + 1)) := by
      have e : xs.take (j + 1) = xs.take j ++ [xs.getD j 0] := by rw [List.take_add_one, List.getElem?_eq_getElem hlt, List.getD_eq_getElem?_getD, List.getElem?_eq_getElem hlt]; rfl
      rw [e]
      exact IntsAre.append hws (.cons _ _ .nil)
    have hlen2 : (xs.take (j + 1)).length = j + 1 := by rw [List.length_take]; omega
    have after : ∀ h3 m3, Fr g0 L' h3 m3 → News g0 L' h3 cons → (∀ b o, b ≠ L' → b ≠ D → h2.get? b = some o → h3.get? b = some o) := fun h3 m3 Fa Na b o n1 n2 e => by
      cases q : g0.get? b with
      | none => exact (Na _ (hc b o n1 n2 e q)).1
      | some o' =>
        have e2 := F2.keep b o' q
        rw [e] at e2
        cases e2
        exact Fa.keep b o q
    clear N1 F2
    dsimp only
    show wpAny _ _ _ _ _ { heap := h2, gens := s.gens.push gs', drawn := s.drawn, toks := tk2, os := s.os }
    refine wpAny_mono (E := fun _ _ => False) (wpAny_assign_Name ?_) (fun _ _ x => wpAny_mono (Q := TPost (fun n s' => ∃ j h' gs tk mL ws k, n = 5 - j ∧ s' = mkS s h' gs tk ∧ TI w A s g0 hS L' D Lg xs 5 (fun n s₀ r s₁ => r = .ok (.ret .none) ∧ tellR Lg I xs fin 5 n s₀ s₁) (tellY g0 Lg I R xs 5) j h' gs tk mL ws k) (5 - j) Rr) (E := fun _ _ => False) x (fun f _ y => by cases f <;> exact y) fun _ _ y => y.elim) (fun _ _ x => x.elim)
    k_with_none
    k_with "my append" => (refine' append_to ?F ?N ?U hwl ?_; (case F => k_asm); (case N => k_asm); (case U => k_upd); intro h' F' N')
    k_with "my len" => refine len_to (by k_asm) (by k_mem) hI2 hlen2 (by omega) ?_; intro t9 tk9
    k_steps
    all_goals (
      (with_reducible rename Fr _ _ _ _ => F8)
      (with_reducible rename News _ _ _ _ => N8)
      have N8' := news_sub N8 fun q hq => List.Mem.tail _ hq
      have hD8 := (N8 _ (.head _)).1
      have up8 := after _ _ F8 N8')
    · have hj5 : j + 1 = 5 := by omega
      have e5 : xs.take (j + 1) = xs := List.take_of_length_le (by omega)
      rw [e5] at hI2
      exact done _ gs' _ _ _ _ hb F8 ((if_neg (by decide)).trans (if_pos rfl)) hD8 hI2 fun b o n1 n2 n3 e => up8 b o n1 n2 (hkeep2 b o n1 n2 n3 e)
    · obtain ⟨m, hm⟩ : ∃ m, 5 - j = m + 1 := ⟨5 - j - 1, by omega⟩
      rw [hm] at hres
      have hm2 : 5 - (j + 1) = m := by omega
      refine ⟨5 - (j + 1), by omega, j + 1, _, gs', _, _, _, _, rfl, rfl, ⟨hb, F8, (if_neg (by decide)).trans (if_pos rfl), ⟨t5, (if_neg (by decide)).trans ((if_neg (by decide)).trans (if_pos rfl))⟩, hD8, hI2, by omega, by omega, fun b o n1 n2 n3 e => up8 b o n1 n2 (hkeep2 b o n1 n2 n3 e), ?_⟩⟩
      rw [hm2]
      refine hres (by omega) (mkS s _ .running _) (fun b hb2 o e => ?_) F8.keep
      rcases hb2 with rfl | rfl | rfl
      · exact up8 _ o (Ne.symm hLg) (Ne.symm hDg) e
      · exact up8 _ o hIL hID e
      · exact up8 _ o hRL hRD e
theorem told_spec (w : World) (news : List (Addr × Obj)) (R : Addr) (vs : List Value) (ns : List Int) (kR : Nat) (t5 : Tok) (hR : (R, listOf vs.toArray kR) ∈ news) (hi : IntsAre vs ns) (hns : ∀ z r, ns = z :: r → z ≠ 0) (xs : List Int) (fin : Bool) (hout : outs none ns 5 = (xs, fin)) (hx5 : fin = true ∨ xs.length = 5) (hx6 : xs.length ≤ 5)
    {p : Program} {loose : List Str} {mean : ExcName → Option Value} {mg mb : Str → Option Value} {dp un : Nat} {gd : Option (List Code)} {cn : Str} {cs : Scope} {a' : Addr} {ccd : Value} {cl : List (Str × Addr)} {outer : List Env} {A₀ : Around} {base h₀ : Heap} {L : Addr} {m' : Str → Option Value} {s : Shared} {Q E : Value → Shared → Prop}
    (B' : Below A₀ base outer h₀) (F : Fr h₀ L s.heap m') (X' : (hd.heap_1 w.params).In h₀) (NN : News h₀ L s.heap news) (T : Top p loose mean mg mb h₀) (hk : cs.kind = .function) (hd : dp + 120 < recursionLimit) (hu : un + 600 < cLine) (h51 : @LT.lt Nat _ 51 L)
    (hret : ∀ D ws k gs h' tk', (∀ p ∈ news, p.1 < D) → gs.bare = true → IntsAre ws xs → Fr h₀ L h' m' → News h₀ L h' ((D, listOf ws.toArray k) :: news) → Q (.ref D) { s with heap := h', gens := s.gens.push gs, toks := tk' }) :
    wpAny (model PySem.Challenge.rw_ul0005_01.row.prog w) (ktrTop dp un gd cn cs L a' ccd cl outer) (call (.ref 91) [.ref R, .int 5 t5]) Q E s := by
  revert X'
  k_fill
  intro X'
  have hR0 := hR
  (refine wpAny_call ?_; k_dflt (refine' enter_def ?k1 ?k2 ?k3 ?k4 ?k5 ?kA ?kF ?kK ?k6 ?k7 ?k8 ?k9 ?kB ?_ ?c2 ?c3 ?c4 ?c5; (case kA => exact rfl); (case kF => exact rfl); (case kK => first | exact rfl | assumption); (case k1 => k_asm); (case k2 => k_asm); (case k3 => k_asm); (case k4 => k_asm); (case k5 => k_asm); (case k6 => k_is); (case k7 => k_is); (case k8 => ktr_room); (case k9 => exact BindsTo.of_eq rfl); (case c5 => decide); (case kB => exact locs rfl); (case c2 => exact rfl); (case c3 => exact rfl); (case c4 => exact rfl); k_whole; intro zg' zL' zh' zFG' zF' zN' zB' zX' zT' zlo'; have zhLL := lt_frames zFG' zF'; (try dsimp only); k_unmd; k_fold))
  k_with_none
  k_with "my for" => refine wpAny_For ?_
  k_with "my call" => refine Halt.of ?_
  k_steps
  unfold Halt
  refine wpAny_call ?_
  k_dflt (refine' gen_call ?k1 ?k2 ?k3 ?k4 ?k5 ?kA ?kF ?kK ?k6 ?k7 ?k8 ?k9 ?kB ?_ ?c2 ?c3 ?c4 ?c5)
  case kA => exact rfl
  case kF => exact rfl
  case kK => exact rfl
  case k1 => k_asm
  case k2 => k_asm
  case k3 => k_asm
  case k4 => k_asm
  case k5 => k_asm
  case k6 => k_is
  case k7 => k_is
  case k8 => ktr_room
  case k9 => exact BindsTo.of_eq rfl
  case c5 => decide
  case kB => exact locs rfl
  case c2 => exact rfl
  case c3 => exact rfl
  case c4 => exact rfl
  intro g Lg G hS tk₁ oG FGg Fg Ng Bg Xg Tg log hLG F₁ N₁ hG hlim
  dsimp only
  refine wpAny_pyIter_gen hG ?_
  refine news_name1 N₁ fun D eD => ?_
  dsimp only at eD
  subst eD
  have lD : ∀ p ∈ news, p.1 < D := by assumption
  have nG := N₁ _ (.head _)
  have nD := N₁ _ (.tail _ (.head _))
  have nR := N₁ _ (.tail _ (.tail _ hR0))
  have hDLg : @LT.lt Nat _ D Lg := log.lt _ (.head _)
  have hRLg : @LT.lt Nat _ R Lg := log.lt _ (.tail _ hR0)
  have hRD : @LT.lt Nat _ R D := lD _ hR0
  have hL0Lg : @LT.lt Nat _ zL' Lg := Nat.lt_of_lt_of_le FGg.ns.lt Fg.above
  have hg0L : @LE.le Nat _ zg'.objs.size zL' := F₁.above
  have Fn : Fr zg' Lg hS _ := ⟨Fg.ns, F₁.keep, Nat.le_trans hg0L (Nat.le_of_lt hL0Lg)⟩
  have hLR : hS.IsList R vs.toArray := ⟨_, nR.1, rfl, kR, rfl⟩
  refine told_loop w _ rfl (by ktr_room) s zg' hS zL' D Lg hS.objs.size G R vs xs fin hx5 hx6 (p := p) (loose := loose) (mean := mean) (mg := mg) (mb := mb) (by assumption) (by assumption) hG nG.2.1 (Nat.ne_of_gt (Nat.lt_trans hDLg hLG)) (Nat.ne_of_gt hLG) nR.2.1 (Nat.ne_of_lt hRD) (Nat.ne_of_lt hRLg) nD.2.1 (Nat.ne_of_lt hDLg) (Nat.ne_of_lt hL0Lg) (Heap.get?_none_of_le (Nat.le_refl _)) (kts_self F₁) nD.2.2 (Heap.get?_none_of_le (Nat.le_trans hg0L (Nat.le_of_lt hL0Lg))) (next_is_new F₁) (let ⟨o, _, _, ho, _⟩ := F₁.ns; ⟨o, ho⟩) ⟨_, nD.1⟩ tk₁ (.fresh (.func gBody (genv Lg))) _ ⟨rfl, F₁, if_pos rfl, ⟨t5, rfl⟩, nD.1, .nil, Nat.zero_le _, by decide, fun b o _ _ _ e => e, rfl, ?_⟩ ?_
  · exact gen_start w _ rfl zg' Lg R vs ns hi xs fin 5 (Nat.ne_of_lt hRLg) (p := p) (loose := loose) (mean := mean) (mg := mg) (mb := mb) (by assumption) (by assumption) (by decide) hns hout (mkS s hS .running tk₁) _ Fn rfl hLR
  intro h9 gs tk9 mL ws k9 hb F8 htold hD9 hws keep9
  have F9 := Fr.known0 F8 htold
  have N9 : News zg' zL' h9 ((D, listOf ws.toArray k9) :: news) := fun q hq => by
    rcases List.mem_cons.mp hq with rfl | hq
    · exact ⟨hD9, nD.2.1, nD.2.2⟩
    · have nq := N₁ q (.tail _ (.tail _ hq))
      exact ⟨keep9 _ _ nq.2.1 (Nat.ne_of_lt (lD q hq)) (Nat.ne_of_lt (log.lt q (.tail _ hq))) nq.1, nq.2.1, nq.2.2⟩
  dsimp only
  show wpAny _ _ _ _ _ { heap := h9, gens := s.gens.push gs, drawn := s.drawn, toks := tk9, os := s.os }
  k_with_none
  k_steps
  exact hret D ws k9 gs _ _ lD hb hws (by k_asm) (by k_asm)
-- plain6
def enc : List Int → Nat
  | [] => 0
  | x :: xs => (x + 128).toNat + 256 * enc xs
def Small (xs : List Int) : Prop := ∀ x ∈ xs, x.natAbs ≤ 120
theorem small_cons {x : Int} {xs : List Int} (h : Small (x :: xs)) : x.natAbs ≤ 120 ∧ Small xs := ⟨h x (.head _), fun y hy => h y (.tail _ hy)⟩
theorem small_mk {x : Int} {xs : List Int} (h : x.natAbs ≤ 120) (r : Small xs) : Small (x :: xs) := fun y hy => by
  rcases List.mem_cons.mp hy with rfl | hy
  · exact h
  · exact r y hy
theorem small_app {xs ys : List Int} (h : Small xs) (r : Small ys) : Small (xs ++ ys) := fun y hy => (List.mem_append.mp hy).elim (h y) (r y)
theorem small_left {xs ys : List Int} (h : Small (xs ++ ys)) : Small xs := fun y hy => h y (List.mem_append_left _ hy)
theorem small_right {xs ys : List Int} (h : Small (xs ++ ys)) : Small ys := fun y hy => h y (List.mem_append_right _ hy)
theorem enc_app : ∀ (xs : List Int) (x : Int), enc (xs ++ [x]) = enc xs + (x + 128).toNat * 256 ^ xs.length
  | [], x => by simp [enc]
  | y :: ys, x => by
    show (y + 128).toNat + 256 * enc (ys ++ [x]) = _
    rw [enc_app ys x]
    show _ = (y + 128).toNat + 256 * enc ys + (x + 128).toNat * 256 ^ (ys.length + 1)
    rw [Nat.mul_add, Nat.pow_succ, Nat.add_assoc, Nat.mul_comm (256 ^ ys.length) 256, Nat.mul_left_comm]
theorem enc_lt : ∀ {xs : List Int}, Small xs → enc xs < 256 ^ xs.length
  | [], _ => by decide
  | x :: xs, h => by
    have h1 := enc_lt (small_cons h).2
    have h2 := (small_cons h).1
    show (x + 128).toNat + 256 * enc xs < 256 ^ (xs.length + 1)
    rw [Nat.pow_succ]
    omega
theorem dg_enc : ∀ {xs : List Int}, Small xs → dg 8 xs.length (enc xs) = xs.map (· + 128)
  | [], _ => rfl
  | x :: xs, h => by
    have h1 := dg_enc (small_cons h).2
    have h2 := (small_cons h).1
    show ((((x + 128).toNat + 256 * enc xs) % 2 ^ 8 : Nat) : Int) :: dg 8 xs.length (((x + 128).toNat + 256 * enc xs) / 2 ^ 8) = (x + 128) :: xs.map (· + 128)
    have e1 : ((x + 128).toNat + 256 * enc xs) % 2 ^ 8 = (x + 128).toNat := by omega
    have e2 : ((x + 128).toNat + 256 * enc xs) / 2 ^ 8 = enc xs := by omega
    rw [e1, e2, h1]
    congr 1
    omega
theorem enc_ge : ∀ {xs : List Int}, Small xs → xs ≠ [] → 256 ^ (xs.length - 1) ≤ enc xs
  | [], _, h => absurd rfl h
  | [x], h, _ => by
    have h2 := (small_cons h).1
    show 1 ≤ (x + 128).toNat + 0
    omega
  | x :: y :: ys, h, _ => by
    have h1 := enc_ge (small_cons h).2 (by simp)
    show 256 ^ (ys.length + 1) ≤ (x + 128).toNat + 256 * enc (y :: ys)
    have e : (y :: ys).length - 1 = ys.length := rfl
    rw [e] at h1
    rw [Nat.pow_succ]
    omega
def tlGo : List Int → Int → List Int → List Int
  | acc, _, [] => acc
  | acc, h, x :: xs => if 0 < h + x then tlGo (x :: acc) (h + x) xs else tlGo (acc ++ [x]) (h + x) xs
theorem turned_tl : ∀ (xs acc : List Int) (h : Int), Small acc → Small xs → turnedGo (enc acc) h acc.length xs = (enc (tlGo acc h xs) : Int)
  | [], acc, h, _, _ => rfl
  | x :: xs, acc, h, ha, hx => by
    have h2 := (small_cons hx).1
    by_cases g : 0 < h + x
    · rw [turned_up g]
      have e : (enc acc : Int) * 256 + x + 128 = (enc (x :: acc) : Int) := by
        show _ = (((x + 128).toNat + 256 * enc acc : Nat) : Int)
        omega
      rw [e]
      have e2 : tlGo acc h (x :: xs) = tlGo (x :: acc) (h + x) xs := if_pos g
      rw [e2]
      exact turned_tl xs (x :: acc) (h + x) (small_mk h2 ha) (small_cons hx).2
    · rw [turned_down g]
      have e : (enc acc : Int) + (x + 128) * 256 ^ acc.length = (enc (acc ++ [x]) : Int) := by
        rw [enc_app]
        have e3 : (((x + 128).toNat : Nat) : Int) = x + 128 := by omega
        push_cast
        rw [e3]
      rw [e]
      have e2 : tlGo acc h (x :: xs) = tlGo (acc ++ [x]) (h + x) xs := if_neg g
      rw [e2]
      have := turned_tl xs (acc ++ [x]) (h + x) (small_app ha (small_mk h2 (fun _ h => nomatch h))) (small_cons hx).2
      rw [List.length_append] at this
      exact this
theorem tl_len : ∀ (xs acc : List Int) (h : Int), (tlGo acc h xs).length = acc.length + xs.length
  | [], acc, h => rfl
  | x :: xs, acc, h => by
    unfold tlGo
    split
    · rw [tl_len]; simp; omega
    · rw [tl_len]; simp; omega
theorem tl_perm : ∀ (xs acc : List Int) (h : Int), (tlGo acc h xs).Perm (acc ++ xs)
  | [], acc, h => by simp [tlGo]
  | x :: xs, acc, h => by
    unfold tlGo
    split
    · exact (tl_perm xs (x :: acc) (h + x)).trans (List.perm_middle.symm)
    · have := tl_perm xs (acc ++ [x]) (h + x)
      simpa using this
theorem tl_app : ∀ (xs acc : List Int) (h : Int) (x : Int), tlGo acc h (xs ++ [x]) = if 0 < h + xs.sum + x then x :: tlGo acc h xs else tlGo acc h xs ++ [x]
  | [], acc, h, x => by simp [tlGo]
  | y :: ys, acc, h, x => by
    have e : ∀ a, tlGo a (h + y) (ys ++ [x]) = if 0 < h + (y :: ys).sum + x then x :: tlGo a (h + y) ys else tlGo a (h + y) ys ++ [x] := fun a => by
      rw [tl_app ys a (h + y) x, List.sum_cons, Int.add_assoc h y]
    show (if 0 < h + y then tlGo (y :: acc) (h + y) (ys ++ [x]) else tlGo (acc ++ [y]) (h + y) (ys ++ [x])) = if _ then x :: (if 0 < h + y then tlGo (y :: acc) (h + y) ys else tlGo (acc ++ [y]) (h + y) ys) else (if 0 < h + y then tlGo (y :: acc) (h + y) ys else tlGo (acc ++ [y]) (h + y) ys) ++ [x]
    by_cases g : 0 < h + y
    · simp only [if_pos g, e]
    · simp only [if_neg g, e]
-- plain7
def abv : Int → List Int → Int
  | _, [] => 0
  | h, x :: xs => (if 0 < h + x then 1 else 0) + abv (h + x) xs
theorem judged_abv : ∀ (xs : List Int) (h a p hi : Int) (lv : Bool) (k : Nat), (judgedGo h a p hi lv k xs).1 = a + abv h xs
  | [], h, a, p, hi, lv, k => by simp [judgedGo, abv]
  | x :: xs, h, a, p, hi, lv, k => by
    show (judgedGo (h + x) _ _ _ _ _ xs).1 = _
    rw [judged_abv xs]
    show (if 0 < h + x then a + 1 else a) + abv (h + x) xs = a + ((if 0 < h + x then 1 else 0) + abv (h + x) xs)
    split <;> omega
/-- the highest height and its first place, from a height, a highest, a place and a count on -/
def hp : Int → Int → Int → Nat → List Int → Int × Int
  | _, hi, p, _, [] => (hi, p)
  | h, hi, p, k, x :: xs => hp (h + x) (if hi < h + x then h + x else hi) (if hi < h + x then (k : Int) + 1 else p) (k + 1) xs
theorem judged_hp : ∀ (xs : List Int) (h a p hi : Int) (lv : Bool) (k : Nat), (judgedGo h a p hi lv k xs).2.1 = (hp h hi p k xs).2
  | [], h, a, p, hi, lv, k => rfl
  | x :: xs, h, a, p, hi, lv, k => by
    show (judgedGo (h + x) _ _ _ _ _ xs).2.1 = _
    rw [judged_hp xs]
    rfl
theorem hp_app : ∀ (xs : List Int) (x h hi p : Int) (k : Nat), hp h hi p k (xs ++ [x]) = (if (hp h hi p k xs).1 < h + xs.sum + x then (h + xs.sum + x, (k : Int) + xs.length + 1) else hp h hi p k xs)
  | [], x, h, hi, p, k => by
    by_cases g : hi < h + x <;> simp [hp, g]
  | y :: ys, x, h, hi, p, k => by
    have ih := hp_app ys x (h + y) (if hi < h + y then h + y else hi) (if hi < h + y then (k : Int) + 1 else p) (k + 1)
    have e1 : hp h hi p k (y :: ys) = hp (h + y) (if hi < h + y then h + y else hi) (if hi < h + y then (k : Int) + 1 else p) (k + 1) ys := rfl
    have e2 : hp h hi p k (y :: ys ++ [x]) = hp (h + y) (if hi < h + y then h + y else hi) (if hi < h + y then (k : Int) + 1 else p) (k + 1) (ys ++ [x]) := rfl
    rw [e2, ih, ← e1]
    by_cases g : (hp h hi p k (y :: ys)).1 < h + y + ys.sum + x
    · rw [if_pos g, if_pos (by rw [List.sum_cons]; omega)]
      refine Prod.ext ?_ ?_
      · show h + y + ys.sum + x = h + (y :: ys).sum + x
        rw [List.sum_cons]; omega
      · show ((k + 1 : Nat) : Int) + (ys.length : Int) + 1 = (k : Int) + ((ys.length + 1 : Nat) : Int) + 1
        omega
    · rw [if_neg g, if_neg (by rw [List.sum_cons]; omega)]
theorem hp_shift : ∀ (xs : List Int) (x h hi p h1 hi1 p1 : Int) (k : Nat), h1 = x + h → hi1 = (if 0 < x + hi then x + hi else 0) → p1 = (if 0 < x + hi then p + 1 else 0) →
    hp h1 hi1 p1 (k + 1) xs = ((if 0 < x + (hp h hi p k xs).1 then x + (hp h hi p k xs).1 else 0), (if 0 < x + (hp h hi p k xs).1 then (hp h hi p k xs).2 + 1 else 0))
  | [], x, h, hi, p, h1, hi1, p1, k, e1, e2, e3 => by
    show (hi1, p1) = _
    rw [e2, e3]
    rfl
  | y :: ys, x, h, hi, p, h1, hi1, p1, k, e1, e2, e3 => by
    show hp (h1 + y) (if hi1 < h1 + y then h1 + y else hi1) (if hi1 < h1 + y then ((k + 1 : Nat) : Int) + 1 else p1) (k + 1 + 1) ys = _
    refine hp_shift ys x (h + y) (if hi < h + y then h + y else hi) (if hi < h + y then (k : Int) + 1 else p) _ _ _ (k + 1) (by omega) ?_ ?_
    · subst e1 e2
      split <;> split <;> split <;> omega
    · subst e1 e2 e3
      split <;> split <;> (first | omega | (split <;> omega) | (split <;> split <;> omega))
theorem hp_ge : ∀ (xs : List Int) (h hi p : Int) (k : Nat), h ≤ hi → hi ≤ (hp h hi p k xs).1 ∧ h + xs.sum ≤ (hp h hi p k xs).1
  | [], h, hi, p, k, g => by simp [hp, g]
  | y :: ys, h, hi, p, k, g => by
    have h1 := hp_ge ys (h + y) (if hi < h + y then h + y else hi) (if hi < h + y then (k : Int) + 1 else p) (k + 1) (by split <;> omega)
    show hi ≤ (hp (h + y) _ _ _ ys).1 ∧ _ ≤ (hp (h + y) _ _ _ ys).1
    rw [List.sum_cons]
    refine ⟨Int.le_trans ?_ h1.1, by omega⟩
    split <;> omega
theorem hp_cons {x : Int} {acc : List Int} (g : 0 < x + (hp 0 0 0 0 acc).1) : (hp 0 0 0 0 (x :: acc)).2 = (hp 0 0 0 0 acc).2 + 1 := by
  show (hp (0 + x) (if (0 : Int) < 0 + x then 0 + x else 0) (if (0 : Int) < 0 + x then ((0 : Nat) : Int) + 1 else 0) (0 + 1) acc).2 = _
  rw [hp_shift acc x 0 0 0 (0 + x) _ _ 0 (by omega) (by rw [Int.add_zero, Int.zero_add]) (by rw [Int.add_zero, Int.zero_add]; rfl)]
  simp only [if_pos g]
theorem abv_app : ∀ (xs : List Int) (h x : Int), abv h (xs ++ [x]) = abv h xs + (if 0 < h + xs.sum + x then 1 else 0)
  | [], h, x => by simp [abv]
  | y :: ys, h, x => by
    show (if 0 < h + y then 1 else 0) + abv (h + y) (ys ++ [x]) = (if 0 < h + y then 1 else 0) + abv (h + y) ys + _
    rw [abv_app ys, List.sum_cons, Int.add_assoc h y ys.sum, Int.add_assoc (if 0 < h + y then (1 : Int) else 0)]
theorem tl_sum : ∀ (xs acc : List Int) (h : Int), (tlGo acc h xs).sum = acc.sum + xs.sum
  | [], acc, h => by simp [tlGo]
  | x :: xs, acc, h => by
    unfold tlGo
    split
    · rw [tl_sum, List.sum_cons, List.sum_cons]; omega
    · rw [tl_sum, List.sum_append, List.sum_cons, List.sum_cons]; simp; omega
-- plain8
theorem rev_ind {P : List Int → Prop} (h0 : P []) (h1 : ∀ xs x, P xs → P (xs ++ [x])) : ∀ xs, P xs := fun xs => by
  have key : ∀ ys : List Int, P ys.reverse := fun ys => by
    induction ys with
    | nil => exact h0
    | cons y ys ih => rw [List.reverse_cons]; exact h1 _ _ ih
  have := key xs.reverse
  rwa [List.reverse_reverse] at this
theorem place_abv : ∀ row : List Int, (hp 0 0 0 0 (tlGo [] 0 row)).2 = abv 0 row := rev_ind rfl fun row x ih => by
  have h1 := hp_ge (tlGo [] 0 row) 0 0 0 0 (Int.le_refl _)
  have h2 := tl_sum row [] 0
  rw [List.sum_nil] at h2
  rw [tl_app, abv_app]
  by_cases g : 0 < 0 + row.sum + x
  · rw [if_pos g, if_pos g, hp_cons (by omega), ih]
  · rw [if_neg g, if_neg g, hp_app, if_neg (by omega), ih]
    omega
theorem place_above (row : List Int) : (judged (tlGo [] 0 row)).2.1 = (judged row).1 := by
  unfold judged
  rw [judged_hp, judged_abv, place_abv]
  omega
theorem home_up {k : Nat} {x : Int} {T : List Int} {h : Int} (hx : x.natAbs ≤ 120) (g : 0 < h) : homeList (k + 1) (enc (x :: T)) h = x :: homeList k (enc T) (h - x) := by
  show (homeStep k (enc (x :: T)) h).2.2 :: homeList k (homeStep k (enc (x :: T)) h).1 (homeStep k (enc (x :: T)) h).2.1 = _
  rw [homeStep_up g]
  have e1 : ((enc (x :: T) % 256 : Nat) : Int) - 128 = x := by
    show ((((x + 128).toNat + 256 * enc T) % 256 : Nat) : Int) - 128 = x
    omega
  have e2 : enc (x :: T) / 256 = enc T := by
    show ((x + 128).toNat + 256 * enc T) / 256 = enc T
    omega
  dsimp only
  rw [e1, e2]
theorem home_down {x : Int} {T : List Int} {h : Int} (hx : x.natAbs ≤ 120) (hT : Small T) (g : ¬ 0 < h) : homeList (T.length + 1) (enc (T ++ [x])) h = x :: homeList T.length (enc T) (h - x) := by
  show (homeStep T.length (enc (T ++ [x])) h).2.2 :: homeList T.length (homeStep T.length (enc (T ++ [x])) h).1 (homeStep T.length (enc (T ++ [x])) h).2.1 = _
  rw [homeStep_down g]
  have hl := enc_lt hT
  have hp0 : 0 < 256 ^ T.length := Nat.pow_pos (by decide)
  have e1 : enc (T ++ [x]) / 256 ^ T.length = (x + 128).toNat := by
    rw [enc_app, Nat.add_mul_div_right _ _ hp0, Nat.div_eq_of_lt hl, Nat.zero_add]
  have e2 : enc (T ++ [x]) % 256 ^ T.length = enc T := by
    rw [enc_app, Nat.add_mul_mod_self_right, Nat.mod_eq_of_lt hl]
  dsimp only
  rw [e1, e2]
  have e3 : (((x + 128).toNat : Nat) : Int) - 128 = x := by omega
  rw [e3]
theorem tl_small {row : List Int} (h : Small row) : Small (tlGo [] 0 row) := fun y hy => h y (by simpa using (tl_perm row [] 0).mem_iff.mp hy)
theorem home_tl : ∀ row : List Int, Small row → homeList row.length (enc (tlGo [] 0 row)) row.sum = row.reverse := rev_ind (fun _ => rfl) fun row x ih hs => by
  have h1 := ih (small_left hs)
  have hx : x.natAbs ≤ 120 := hs x (List.mem_append_right _ (.head _))
  have hl : (tlGo [] 0 row).length = row.length := by rw [tl_len]; simp
  have e0 : (row ++ [x]).sum = row.sum + x := by simp
  have e1 : (row ++ [x]).length = row.length + 1 := by simp
  rw [tl_app, e0, e1, List.reverse_append]
  show _ = x :: row.reverse
  by_cases g : 0 < 0 + row.sum + x
  · rw [if_pos g, home_up hx (by omega), Int.add_sub_cancel, h1]
  · rw [if_neg g, ← hl, home_down hx (tl_small (small_left hs)) (by omega), Int.add_sub_cancel, hl, h1]
theorem tl_home : ∀ (n : Nat) (T : List Int), T.length = n → Small T → Small (homeList n (enc T) T.sum) ∧ (homeList n (enc T) T.sum).sum = T.sum ∧ tlGo [] 0 (homeList n (enc T) T.sum).reverse = T
  | 0, T, hl, _ => by
    rw [List.length_eq_zero_iff.mp hl]
    exact ⟨(fun _ h => nomatch h), rfl, rfl⟩
  | n + 1, T, hl, hs => by
    by_cases g : 0 < T.sum
    · cases T with
      | nil => cases hl
      | cons x T =>
        have hx := (small_cons hs).1
        have e : (x :: T).sum - x = T.sum := by rw [List.sum_cons]; omega
        obtain ⟨h1, h2, h3⟩ := tl_home n T (by simpa using hl) (small_cons hs).2
        rw [home_up hx g, e]
        refine ⟨small_mk hx h1, by rw [List.sum_cons, List.sum_cons, h2], ?_⟩
        rw [List.reverse_cons, tl_app, h3, List.sum_reverse, h2, if_pos (by rw [List.sum_cons] at g; omega)]
    · rcases List.eq_nil_or_concat T with rfl | ⟨I, x, e⟩
      · cases hl
      · rw [List.concat_eq_append] at e
        subst e
        have hx : x.natAbs ≤ 120 := hs x (List.mem_append_right _ (.head _))
        have hIl : I.length = n := by simpa using hl
        have e : (I ++ [x]).sum - x = I.sum := by simp
        obtain ⟨h1, h2, h3⟩ := tl_home n I hIl (small_left hs)
        rw [← hIl, home_down hx (small_left hs) g, e, hIl]
        refine ⟨small_mk hx h1, by rw [List.sum_cons, h2]; simp; omega, ?_⟩
        rw [List.reverse_cons, tl_app, h3, List.sum_reverse, h2, if_neg (by simp at g; omega)]
theorem nlen_enc {T : List Int} (h : Small T) : nlen 8 (enc T) = T.length := by
  by_cases e : T = []
  · subst e; rfl
  · have h1 := enc_lt h
    have h2 := enc_ge h e
    have p : ∀ m, 256 ^ m = 2 ^ (8 * m) := fun m => by rw [Nat.pow_mul]
    rw [p] at h1 h2
    have h3 := bl_le _ _ h1
    have h4 : 8 * (T.length - 1) < bl (enc T) := by
      rcases Nat.lt_or_ge (8 * (T.length - 1)) (bl (enc T)) with q | q
      · exact q
      · have := Nat.lt_of_lt_of_le (lt_bl (enc T)) (Nat.pow_le_pow_right (by decide) q)
        omega
    have h5 : T.length ≠ 0 := fun q => e (List.length_eq_zero_iff.mp q)
    unfold nlen
    omega
-- plain9
/-- the ways of the three sizes, as the program builds them -/
def waysStep (ways : List (List Int)) (z : Int) : List (List Int) :=
  ways.flatMap fun way => (List.range (way.length + 1)).flatMap fun k => [way.take k ++ [z] ++ way.drop k, way.take k ++ [-z] ++ way.drop k]
def waysOf (ns : List Int) : List (List Int) := ns.foldl waysStep [[]]
def hSum (ns : List Int) : Int := ((waysOf ns).map fun w => (256 : Int) ^ (judged w).1.toNat).sum
def tSum (ns : List Int) : Int := ((waysOf ns).map fun w => (256 : Int) ^ (judged w).2.1.toNat).sum
def lSum (ns : List Int) : Int := ((waysOf ns).map fun w => if (judged w).2.2 then (1 : Int) else 0).sum
/-- the same signs of all the heights and of all their differences -/
def Alike (a b c a' b' c' : Int) : Prop := ∀ x y z : Int, x ∈ [-1, 0, 1] → y ∈ [-1, 0, 1] → z ∈ [-1, 0, 1] → ((0 < x * a + y * b + z * c ↔ 0 < x * a' + y * b' + z * c') ∧ (x * a + y * b + z * c = 0 ↔ x * a' + y * b' + z * c' = 0))
theorem judged3_alike {x y z x' y' z' : Int} (h1 : 0 < x ↔ 0 < x') (e1 : x = 0 ↔ x' = 0) (h2 : 0 < y ↔ 0 < y') (h3 : 0 < z ↔ 0 < z') (h12 : 0 < x + y ↔ 0 < x' + y') (e12 : x + y = 0 ↔ x' + y' = 0) (h23 : 0 < y + z ↔ 0 < y' + z') (h123 : 0 < x + y + z ↔ 0 < x' + y' + z') (e123 : x + y + z = 0 ↔ x' + y' + z' = 0) :
    judged [x, y, z] = judged [x', y', z'] := by
  have d1 : decide (x = 0) = decide (x' = 0) := by simp only [e1]
  have d2 : decide (x + y = 0) = decide (x' + y' = 0) := by simp only [e12]
  have d3 : decide (x + y + z = 0) = decide (x' + y' + z' = 0) := by simp only [e123]
  simp only [judged, judgedGo, Int.zero_add, d1, d2, d3]
  by_cases p1 : 0 < x <;> by_cases p2 : 0 < y <;> by_cases p3 : 0 < z <;> by_cases p12 : 0 < x + y <;> by_cases p23 : 0 < y + z <;> by_cases p123 : 0 < x + y + z <;>
    simp only [p1, p2, p3, p12, p23, p123, true_iff, false_iff] at h1 h2 h3 h12 h23 h123 <;>
    (first
      | (exfalso; omega)
      | (simp (disch := omega) only [if_pos, if_neg]))
-- plain10
def S (g : List Int → Int) (ns : List Int) : Int := ((waysOf ns).map g).sum
theorem waysStep_map (f : Int → Int) (ws : List (List Int)) {z : Int} (h : f (-z) = -f z) : waysStep (ws.map (List.map f)) (f z) = (waysStep ws z).map (List.map f) := by
  unfold waysStep
  rw [List.flatMap_map, List.map_flatMap]
  congr 1
  funext way
  rw [List.map_flatMap, List.length_map]
  congr 1
  funext k
  simp only [List.map_cons, List.map_nil, List.map_append, List.map_take, List.map_drop, h]
theorem ways_f (f : Int → Int) {x y z : Int} (hx : f (-x) = -f x) (hy : f (-y) = -f y) (hz : f (-z) = -f z) : waysOf [f x, f y, f z] = (waysOf [x, y, z]).map (List.map f) := by
  have e1 := waysStep_map f [[]] hx
  have e2 := waysStep_map f (waysStep [[]] x) hy
  have e3 := waysStep_map f (waysStep (waysStep [[]] x) y) hz
  show waysStep (waysStep (waysStep [[]] (f x)) (f y)) (f z) = _
  rw [show ([[]] : List (List Int)) = [[]].map (List.map f) from rfl, e1, e2, e3]
  rfl
theorem perm_sum {l l' : List Int} (h : l.Perm l') : l.sum = l'.sum := by
  induction h with
  | nil => rfl
  | cons x _ ih => rw [List.sum_cons, List.sum_cons, ih]
  | swap x y l => simp only [List.sum_cons]; omega
  | trans _ _ h1 h2 => exact h1.trans h2
theorem S_same (g : List Int → Int) (f : Int → Int) {x y z : Int} (p : (waysOf [x, y, z]).Perm (waysOf [1, 2, 4])) (hx : f (-x) = -f x) (hy : f (-y) = -f y) (hz : f (-z) = -f z) (h1 : f (-1) = -f 1) (h2 : f (-2) = -f 2) (h4 : f (-4) = -f 4) :
    S g [f x, f y, f z] = S g [f 1, f 2, f 4] := by
  unfold S
  rw [ways_f f hx hy hz, ways_f f h1 h2 h4]
  exact perm_sum ((p.map (List.map f)).map g)
def fo (a b c : Int) (n : Int) : Int := if n = 1 then a else if n = -1 then -a else if n = 2 then b else if n = -2 then -b else if n = 4 then c else -c
theorem fo_1 (a b c : Int) : fo a b c 1 = a := rfl
theorem fo_n1 (a b c : Int) : fo a b c (-1) = -a := rfl
theorem fo_2 (a b c : Int) : fo a b c 2 = b := rfl
theorem fo_n2 (a b c : Int) : fo a b c (-2) = -b := rfl
theorem fo_4 (a b c : Int) : fo a b c 4 = c := rfl
theorem fo_n4 (a b c : Int) : fo a b c (-4) = -c := rfl
theorem p214 : (waysOf [2, 1, 4]).Perm (waysOf [1, 2, 4]) := by decide +kernel
theorem p142 : (waysOf [1, 4, 2]).Perm (waysOf [1, 2, 4]) := by decide +kernel
theorem pn24 : (waysOf [-1, 2, 4]).Perm (waysOf [1, 2, 4]) := by decide +kernel
theorem S_swap12 (g : List Int → Int) (a b c : Int) : S g [b, a, c] = S g [a, b, c] := by
  have h := S_same g (fo a b c) p214 (by rw [fo_n2, fo_2]) (by rw [fo_n1, fo_1]) (by rw [fo_n4, fo_4]) (by rw [fo_n1, fo_1]) (by rw [fo_n2, fo_2]) (by rw [fo_n4, fo_4])
  rw [fo_1, fo_2, fo_4] at h
  exact h
theorem S_swap23 (g : List Int → Int) (a b c : Int) : S g [a, c, b] = S g [a, b, c] := by
  have h := S_same g (fo a b c) p142 (by rw [fo_n1, fo_1]) (by rw [fo_n4, fo_4]) (by rw [fo_n2, fo_2]) (by rw [fo_n1, fo_1]) (by rw [fo_n2, fo_2]) (by rw [fo_n4, fo_4])
  rw [fo_1, fo_2, fo_4] at h
  exact h
theorem S_neg (g : List Int → Int) (a b c : Int) : S g [-a, b, c] = S g [a, b, c] := by
  have h := S_same g (fo a b c) pn24 (by rw [Int.neg_neg, fo_1, fo_n1, Int.neg_neg]) (by rw [fo_n2, fo_2]) (by rw [fo_n4, fo_4]) (by rw [fo_n1, fo_1]) (by rw [fo_n2, fo_2]) (by rw [fo_n4, fo_4])
  rw [fo_1, fo_n1, fo_2, fo_4] at h
  exact h
-- plain11
def vec (n : Int) : Int × Int × Int := if n = 1 then (1, 0, 0) else if n = -1 then (-1, 0, 0) else if n = 2 then (0, 1, 0) else if n = -2 then (0, -1, 0) else if n = 4 then (0, 0, 1) else (0, 0, -1)
def ev (a b c : Int) (v : Int × Int × Int) : Int := v.1 * a + v.2.1 * b + v.2.2 * c
def vadd (u v : Int × Int × Int) : Int × Int × Int := (u.1 + v.1, u.2.1 + v.2.1, u.2.2 + v.2.2)
theorem ev_add (a b c : Int) (u v : Int × Int × Int) : ev a b c (vadd u v) = ev a b c u + ev a b c v := by
  unfold ev vadd
  simp only [Int.add_mul]
  omega
theorem ways_vec (a b c : Int) : waysOf [a, b, c] = (waysOf [1, 2, 4]).map fun w => w.map fun n => ev a b c (vec n) := by
  have h := ways_f (fun n => ev a b c (vec n)) (x := 1) (y := 2) (z := 4) (by simp [ev, vec]) (by simp [ev, vec]) (by simp [ev, vec])
  have e1 : ev a b c (vec 1) = a := by simp [ev, vec]
  have e2 : ev a b c (vec 2) = b := by simp [ev, vec]
  have e3 : ev a b c (vec 4) = c := by simp [ev, vec]
  rw [e1, e2, e3] at h
  exact h
def Unit3 (v : Int × Int × Int) : Bool := (v.1 == -1 || v.1 == 0 || v.1 == 1) && (v.2.1 == -1 || v.2.1 == 0 || v.2.1 == 1) && (v.2.2 == -1 || v.2.2 == 0 || v.2.2 == 1)
def okW : List Int → Bool
  | [x, y, z] => Unit3 (vec x) && Unit3 (vec y) && Unit3 (vec z) && Unit3 (vadd (vec x) (vec y)) && Unit3 (vadd (vec y) (vec z)) && Unit3 (vadd (vadd (vec x) (vec y)) (vec z))
  | _ => false
theorem ok_ways : (waysOf [1, 2, 4]).all okW = true := by decide +kernel
def AlikeV (a b c a' b' c' : Int) : Prop := ∀ v, Unit3 v = true → ((0 < ev a b c v ↔ 0 < ev a' b' c' v) ∧ (ev a b c v = 0 ↔ ev a' b' c' v = 0))
theorem S_alike {a b c a' b' c' : Int} (h : AlikeV a b c a' b' c') (f : Int × Int × Bool → Int) : S (fun w => f (judged w)) [a, b, c] = S (fun w => f (judged w)) [a', b', c'] := by
  unfold S
  rw [ways_vec a b c, ways_vec a' b' c', List.map_map, List.map_map]
  congr 1
  refine List.map_congr_left fun w hw => ?_
  have hk := List.all_eq_true.mp ok_ways w hw
  match w, hk with
  | [x, y, z], hk =>
    simp only [okW, Bool.and_eq_true] at hk
    obtain ⟨⟨⟨⟨⟨k1, k2⟩, k3⟩, k4⟩, k5⟩, k6⟩ := hk
    have q1 := h _ k1
    have q2 := h _ k2
    have q3 := h _ k3
    have q4 := h _ k4
    have q5 := h _ k5
    have q6 := h _ k6
    simp only [ev_add] at q4 q5 q6
    show f (judged [_, _, _]) = f (judged [_, _, _])
    rw [judged3_alike q1.1 q1.2 q2.1 q3.1 q4.1 q4.2 q5.1 q6.1 q6.2]
-- plain12
def fAb (t : Int × Int × Bool) : Int := 256 ^ t.1.toNat
def fPl (t : Int × Int × Bool) : Int := 256 ^ t.2.1.toNat
def fLv (t : Int × Int × Bool) : Int := if t.2.2 then 1 else 0
def due3 (p q r : Int) : Int := (if p = r then 8 else 0) + (if q = p then 8 else 0) + (if r = q then 8 else 0) + (if p + q = r then 12 else 0)
def Ok48 (ns : List Int) (d : Int) : Prop := S (fun w => fAb (judged w)) ns = S (fun w => fPl (judged w)) ns ∧ S (fun w => fLv (judged w)) ns = d ∧ (d = 0 → S (fun w => fAb (judged w)) ns = 252250383)
theorem unit_cases {P : Int × Int × Int → Prop} (h : ∀ x y z : Int, (x = -1 ∨ x = 0 ∨ x = 1) → (y = -1 ∨ y = 0 ∨ y = 1) → (z = -1 ∨ z = 0 ∨ z = 1) → P (x, y, z)) : ∀ v, Unit3 v = true → P v := fun ⟨x, y, z⟩ hv => by
  simp only [Unit3, Bool.and_eq_true, Bool.or_eq_true, beq_iff_eq] at hv
  exact h x y z (by omega) (by omega) (by omega)
theorem ok_of {p q r p' q' r' d : Int} (h : AlikeV p q r p' q' r') (k : Ok48 [p', q', r'] d) : Ok48 [p, q, r] d := by
  obtain ⟨k1, k2, k3⟩ := k
  exact ⟨by rw [S_alike h, S_alike h]; exact k1, by rw [S_alike h]; exact k2, fun e => by rw [S_alike h]; exact k3 e⟩
theorem ok_124 : Ok48 [1, 2, 4] 0 := by unfold Ok48; decide +kernel
theorem ok_123 : Ok48 [1, 2, 3] 12 := by unfold Ok48; decide +kernel
theorem ok_234 : Ok48 [2, 3, 4] 0 := by unfold Ok48; decide +kernel
theorem ok_113 : Ok48 [1, 1, 3] 8 := by unfold Ok48; decide +kernel
theorem ok_112 : Ok48 [1, 1, 2] 20 := by unfold Ok48; decide +kernel
theorem ok_223 : Ok48 [2, 2, 3] 8 := by unfold Ok48; decide +kernel
theorem ok_122 : Ok48 [1, 2, 2] 8 := by unfold Ok48; decide +kernel
theorem ok_111 : Ok48 [1, 1, 1] 24 := by unfold Ok48; decide +kernel
def Same (x y : Int) : Prop := (0 < x ↔ 0 < y) ∧ (x = 0 ↔ y = 0)
theorem same_pos {x y : Int} (hx : 0 < x) (hy : 0 < y) : Same x y := ⟨⟨fun _ => hy, fun _ => hx⟩, ⟨fun e => absurd hx (e ▸ Int.lt_irrefl _), fun e => absurd hy (e ▸ Int.lt_irrefl _)⟩⟩
theorem same_neg {x y : Int} (h : Same (-x) (-y)) : Same x y := by
  unfold Same at h ⊢
  omega
theorem same_add {a b c d : Int} (ha : 0 ≤ a) (hb : 0 ≤ b) (hc : 0 ≤ c) (hd : 0 ≤ d) (h : Same a b) (k : Same c d) : Same (a + c) (b + d) := by
  unfold Same at h k ⊢
  omega
def neg3 (v : Int × Int × Int) : Int × Int × Int := (-v.1, -v.2.1, -v.2.2)
theorem ev_neg (a b c : Int) (v : Int × Int × Int) : ev a b c (neg3 v) = -ev a b c v := by
  unfold ev neg3
  simp only [Int.neg_mul]
  omega
def L13 : List (Int × Int × Int) := [(1, 0, 0), (0, 1, 0), (0, 0, 1), (-1, 1, 0), (0, -1, 1), (-1, 0, 1), (1, 1, 0), (1, 0, 1), (0, 1, 1), (1, 1, -1), (1, -1, 1), (-1, 1, 1), (1, 1, 1)]
theorem l13_all : ∀ v, Unit3 v = true → v ∈ L13 ∨ neg3 v ∈ L13 ∨ v = (0, 0, 0) := unit_cases fun x y z hx hy hz => by
  rcases hx with rfl | rfl | rfl <;> rcases hy with rfl | rfl | rfl <;> rcases hz with rfl | rfl | rfl <;> decide
theorem ev_forms (p q r : Int) : L13.map (ev p q r) = [p, q, r, q - p, r - q, (q - p) + (r - q), p + q, p + r, q + r, p + q - r, p + (r - q), q + (r - p), p + q + r] := by
  simp only [L13, List.map_cons, List.map_nil, ev, Int.one_mul, Int.zero_mul, Int.neg_mul, Int.add_zero, Int.zero_add]
  simp only [List.cons.injEq, and_true, true_and]
  omega
theorem alike13 {p q r p' q' r' : Int} (h : ∀ i : Nat, Same ((L13.map (ev p q r)).getD i 0) ((L13.map (ev p' q' r')).getD i 0)) : AlikeV p q r p' q' r' := fun v hv => by
  have at13 : ∀ u ∈ L13, Same (ev p q r u) (ev p' q' r' u) := fun u hu => by
    obtain ⟨i, hi, e⟩ := List.getElem_of_mem hu
    have := h i
    rw [List.getD_eq_getElem?_getD, List.getD_eq_getElem?_getD, List.getElem?_map, List.getElem?_map, List.getElem?_eq_getElem hi, e] at this
    exact this
  rcases l13_all v hv with k | k | rfl
  · exact at13 v k
  · have := at13 _ k
    rw [ev_neg, ev_neg] at this
    exact same_neg this
  · simp [ev]
theorem alike_sorted {p q r p' q' r' : Int} (h0 : 0 < p) (h1 : p ≤ q) (h2 : q ≤ r) (k0 : 0 < p') (k1 : p' ≤ q') (k2 : q' ≤ r') (e1 : Same (q - p) (q' - p')) (e2 : Same (r - q) (r' - q')) (e3 : Same (p + q - r) (p' + q' - r')) : AlikeV p q r p' q' r' := by
  have a1 : 0 ≤ q - p ∧ 0 ≤ r - q ∧ 0 < q ∧ 0 < r ∧ 0 ≤ r - p := by omega
  have a2 : 0 ≤ q' - p' ∧ 0 ≤ r' - q' ∧ 0 < q' ∧ 0 < r' ∧ 0 ≤ r' - p' := by omega
  have pos : ∀ {x y : Int}, 0 < x → 0 ≤ y → 0 < x + y := fun hx hy => Int.lt_of_lt_of_le hx (Int.le_add_of_nonneg_right hy)
  have q0 := Int.le_of_lt a1.2.2.1
  have r0 := Int.le_of_lt a1.2.2.2.1
  have q0' := Int.le_of_lt a2.2.2.1
  have r0' := Int.le_of_lt a2.2.2.2.1
  refine alike13 fun i => ?_
  rw [ev_forms, ev_forms]
  match i with
  | 0 => exact same_pos h0 k0
  | 1 => exact same_pos a1.2.2.1 a2.2.2.1
  | 2 => exact same_pos a1.2.2.2.1 a2.2.2.2.1
  | 3 => exact e1
  | 4 => exact e2
  | 5 => exact same_add a1.1 a2.1 a1.2.1 a2.2.1 e1 e2
  | 6 => exact same_pos (pos h0 q0) (pos k0 q0')
  | 7 => exact same_pos (pos h0 r0) (pos k0 r0')
  | 8 => exact same_pos (pos a1.2.2.1 r0) (pos a2.2.2.1 r0')
  | 9 => exact e3
  | 10 => exact same_pos (pos h0 a1.2.1) (pos k0 a2.2.1)
  | 11 => exact same_pos (pos a1.2.2.1 a1.2.2.2.2) (pos a2.2.2.1 a2.2.2.2.2)
  | 12 => exact same_pos (pos (pos h0 q0) r0) (pos (pos k0 q0') r0')
  | i + 13 => exact ⟨Iff.rfl, Iff.rfl⟩
theorem ok_sorted {p q r : Int} (h0 : 0 < p) (h1 : p ≤ q) (h2 : q ≤ r) : Ok48 [p, q, r] (due3 p q r) := by
  have go : ∀ {p' q' r' d : Int}, Ok48 [p', q', r'] d → due3 p q r = d → (0 < p' ∧ p' ≤ q' ∧ q' ≤ r') → Same (q - p) (q' - p') → Same (r - q) (r' - q') → Same (p + q - r) (p' + q' - r') → Ok48 [p, q, r] (due3 p q r) := fun k e h e1 e2 e3 => by
    rw [e]; exact ok_of (alike_sorted h0 h1 h2 h.1 h.2.1 h.2.2 e1 e2 e3) k
  have pp : ∀ {x y : Int}, 0 < x → 0 < y → Same x y := same_pos
  have zz : ∀ {x y : Int}, x = 0 → y = 0 → Same x y := fun a b => by rw [a, b]; exact ⟨Iff.rfl, Iff.rfl⟩
  have nn : ∀ {x y : Int}, 0 < -x → 0 < -y → Same x y := fun a b => same_neg (same_pos a b)
  rcases Int.lt_or_eq_of_le h1 with a | a <;> rcases Int.lt_or_eq_of_le h2 with b | b
  · rcases Int.lt_trichotomy (p + q) r with c | c | c
    · exact go ok_124 (by simp (disch := omega) only [due3, if_pos, if_neg]; rfl) (by decide) (pp (by omega) (by decide)) (pp (by omega) (by decide)) (nn (by omega) (by decide))
    · exact go ok_123 (by simp (disch := omega) only [due3, if_pos, if_neg]; rfl) (by decide) (pp (by omega) (by decide)) (pp (by omega) (by decide)) (zz (by omega) (by decide))
    · exact go ok_234 (by simp (disch := omega) only [due3, if_pos, if_neg]; rfl) (by decide) (pp (by omega) (by decide)) (pp (by omega) (by decide)) (pp (by omega) (by decide))
  · exact go ok_122 (by simp (disch := omega) only [due3, if_pos, if_neg]; rfl) (by decide) (pp (by omega) (by decide)) (zz (by omega) (by decide)) (pp (by omega) (by decide))
  · rcases Int.lt_trichotomy (p + q) r with c | c | c
    · exact go ok_113 (by simp (disch := omega) only [due3, if_pos, if_neg]; rfl) (by decide) (zz (by omega) (by decide)) (pp (by omega) (by decide)) (nn (by omega) (by decide))
    · exact go ok_112 (by simp (disch := omega) only [due3, if_pos, if_neg]; rfl) (by decide) (zz (by omega) (by decide)) (pp (by omega) (by decide)) (zz (by omega) (by decide))
    · exact go ok_223 (by simp (disch := omega) only [due3, if_pos, if_neg]; rfl) (by decide) (zz (by omega) (by decide)) (pp (by omega) (by decide)) (pp (by omega) (by decide))
  · exact go ok_111 (by simp (disch := omega) only [due3, if_pos, if_neg]; rfl) (by decide) (zz (by omega) (by decide)) (zz (by omega) (by decide)) (pp (by omega) (by decide))
-- ways1
section
variable {prog : Program} {w : World} {A : Around} {E : Value → Shared → Prop} {s : Shared} {env : Env} {R : Result → Shared → Prop}
abbrev cl3 (x₀ x₁ x₂ : Str) (p₀ p₁ p₂ : Pos) (i₀ i₁ i₂ : Expr) : List Comprehension := [⟨.Name x₀ p₀, i₀, [], 0⟩, ⟨.Name x₁ p₁, i₁, [], 0⟩, ⟨.Name x₂ p₂, i₂, [], 0⟩]
def turnOf (e : Expr) (d : Nat) (x : Str) (px pp : Pos) (it acc : Value) (env : Env) (B : Sem Fin → Sem Fin) : Sem Fin :=
  standAt pp >>= fun _ => pyNext it >>= fun r => match r with
    | none => pure (.done .next)
    | some v => letOwnedTupleGo (.Name x px) it v >>= fun _ => assign (.Name x px) env v >>= fun _ => B (again (.compLoop e d it acc env))
def innerOf (e : Expr) (d : Nat) (i : Expr) (acc : Value) (env : Env) (k : Sem Fin) : Sem Fin :=
  eval i env >>= fun x => standAt i.pos >>= fun _ => foldedSetIterable i env x >>= fun x => holding [x] (pyIter x) >>= fun it => runOwn (.compStart e d it acc env) env >>= fun _ => k
def leafOf (elt : Expr) (acc : Value) (env : Env) (k : Sem Fin) : Sem Fin := (eval elt env >>= fun x => call (.builtin "list.append") [acc, x] >>= fun _ => pure ()) >>= fun _ => k
theorem turn3_0 (elt : Expr) (x₀ x₁ x₂ : Str) (p₀ p₁ p₂ : Pos) (i₀ i₁ i₂ : Expr) (scope : Scope) (pos : Pos) (it acc : Value) (env : Env) :
    compTurn (.ListComp elt (cl3 x₀ x₁ x₂ p₀ p₁ p₂ i₀ i₁ i₂) scope pos) 0 it acc env = turnOf (.ListComp elt (cl3 x₀ x₁ x₂ p₀ p₁ p₂ i₀ i₁ i₂) scope pos) 0 x₀ p₀ i₀.pos it acc env (innerOf (.ListComp elt (cl3 x₀ x₁ x₂ p₀ p₁ p₂ i₀ i₁ i₂) scope pos) 1 i₁ acc env) := by rfl
theorem turn3_1 (elt : Expr) (x₀ x₁ x₂ : Str) (p₀ p₁ p₂ : Pos) (i₀ i₁ i₂ : Expr) (scope : Scope) (pos : Pos) (it acc : Value) (env : Env) :
    compTurn (.ListComp elt (cl3 x₀ x₁ x₂ p₀ p₁ p₂ i₀ i₁ i₂) scope pos) 1 it acc env = turnOf (.ListComp elt (cl3 x₀ x₁ x₂ p₀ p₁ p₂ i₀ i₁ i₂) scope pos) 1 x₁ p₁ i₁.pos it acc env (innerOf (.ListComp elt (cl3 x₀ x₁ x₂ p₀ p₁ p₂ i₀ i₁ i₂) scope pos) 2 i₂ acc env) := by rfl
theorem turn3_2 (elt : Expr) (x₀ x₁ x₂ : Str) (p₀ p₁ p₂ : Pos) (i₀ i₁ i₂ : Expr) (scope : Scope) (pos : Pos) (it acc : Value) (env : Env) :
    compTurn (.ListComp elt (cl3 x₀ x₁ x₂ p₀ p₁ p₂ i₀ i₁ i₂) scope pos) 2 it acc env = turnOf (.ListComp elt (cl3 x₀ x₁ x₂ p₀ p₁ p₂ i₀ i₁ i₂) scope pos) 2 x₂ p₂ i₂.pos it acc env (leafOf elt acc env) := by rfl
theorem wpAny_inner {e : Expr} {d : Nat} {i : Expr} {acc : Value} {k : Sem Fin} {Q : Fin → Shared → Prop}
    (h : wpAny (model prog w) A (eval i env) (fun x s₁ => wpAny (model prog w) A (pyIter x) (fun it s₂ => codeAny (model prog w) A (.compStart e d it acc env) (fun r s' => match r with | .ok _ => wpAny (model prog w) A k Q E s' | .error _ => False) s₂) E s₁) E s)
    (hs : ∀ x, foldedSetIterable i env x = pure x) : wpAny (model prog w) A (innerOf e d i acc env k) Q E s := by
  refine wpAny_bind (wpAny_mono h (fun x s₁ h₁ => wpAny_bind (wpAny_standAt (wpAny_bind (wpAny_of_eq (hs x) (wpAny_bind (wpAny_holding (wpAny_mono h₁ (fun it s₂ h₂ => ?_) fun _ _ e => e))))))) fun _ _ e => e)
  refine wpAny_bind (wpAny_runOwn (codeAny_mono h₂ fun r s' hr => ?_))
  cases r with
  | ok f => exact hr
  | error e => exact hr.elim
theorem wpAny_leaf {elt : Expr} {acc : Value} {k : Sem Fin} {Q : Fin → Shared → Prop}
    (h : wpAny (model prog w) A (eval elt env) (fun x s₁ => wpAny (model prog w) A (call (.builtin "list.append") [acc, x]) (fun _ s' => wpAny (model prog w) A k Q E s') E s₁) E s) : wpAny (model prog w) A (leafOf elt acc env k) Q E s :=
  wpAny_bind (wpAny_bind (wpAny_mono h (fun _ _ h₁ => wpAny_bind (wpAny_mono h₁ (fun _ _ h₂ => wpAny_pure h₂) fun _ _ e => e)) fun _ _ e => e))
theorem comp_walk {elt : Expr} {gens : List Comprehension} {scope : Scope} {pos : Pos} {d : Nat} {I : Addr} {acc : Value} {x : Str} {px pp : Pos} {B : Sem Fin → Sem Fin} {fp : List Addr} {n : Nat} {P : Nat → Value → Prop} {St : Nat → Heap → Prop}
    (heq : compTurn (.ListComp elt gens scope pos) d (.ref I) acc env = turnOf (.ListComp elt gens scope pos) d x px pp (.ref I) acc env B) (W : Walks prog w A I fp [I] n P St) (hx : env.kindOf x = some .local)
    (hp : (env.scope.kind == .class || (env.scope.kind == .module && env.locals != env.globals)) = false) (hCf : env.locals ∉ fp) (Inv : Nat → Heap → Prop) (hns : ∀ i h, Inv i h → ∃ m, h.Ns env.locals m)
    (hst : St 0 s.heap) (h0 : Inv 0 s.heap)
    (turn : ∀ i v h h₂ tk (k : Sem Fin) (QQ : Fin → Shared → Prop) (E' : Value → Shared → Prop), (∀ h' tk', Inv (i + 1) h' → St (i + 1) h' → wpAny (model prog w) A k QQ E' { s with heap := h', toks := tk' }) → i < n → Inv i h → St i h → P i v → St (i + 1) h₂ → (∀ b o, b ≠ I → b ≠ env.locals → h.get? b = some o → h₂.get? b = some o) → (∀ m, h.Ns env.locals m → h₂.Ns env.locals (fun y => if y = x then some v else m y)) →
      wpAny (model prog w) A (B k) QQ E' { s with heap := h₂, toks := tk })
    (done : ∀ h h₁ tk, Inv n h → St n h → (∀ b o, b ≠ I → h.get? b = some o → h₁.get? b = some o) → R (.ok .next) { s with heap := h₁, toks := tk }) :
    codeAny (model prog w) A (.compLoop (.ListComp elt gens scope pos) d (.ref I) acc env) R s := by
  refine codeAny_loop rfl (fun k s' => ∃ h tk i, s' = { s with heap := h, toks := tk } ∧ i ≤ n ∧ k = n - i ∧ Inv i h ∧ St i h) ?_ n ⟨s.heap, s.toks, 0, rfl, Nat.zero_le _, rfl, h0, hst⟩
  rintro k s' ⟨h, tk, i, rfl, hi, rfl, hI, hS⟩
  show wpAny _ A ((compTurn (.ListComp elt gens scope pos) d (.ref I) acc env).onRaise (fun x => do noteFrame x env; theTreesLotGoes x)) _ _ _
  refine wpAny_noted ?_
  rw [heq]
  refine wpAny_bind (wpAny_standAt (wpAny_bind ?_))
  by_cases hlt : i < n
  · refine W.item i _ _ _ hlt hS fun v h₁ tk₁ hPv hS₁ hk₁ => ?_
    have hCI : env.locals ∉ [I] := fun q => hCf (W.sub _ q)
    obtain ⟨m, hn⟩ := hns _ _ hI
    refine wpAny_bind (wpAny_of_eq (a := ()) (by rfl) (wpAny_bind ?_))
    refine wpAny_assign_Name (wpAny_storeName_local hx (hn.at' fun o e => hk₁ _ o hCI e) (fun h₂ hn₂ hs₂ => ?_) hp)
    have up : ∀ b o, b ≠ I → b ≠ env.locals → h.get? b = some o → h₂.get? b = some o := fun b o n1 n2 e => hs₂.extBut b o n2 (hk₁ b o (by simpa using n1) e)
    refine turn i v h h₂ _ _ _ _ (fun h' tk' hI' hS' => ?_) hlt hI hS hPv (W.frame _ _ _ hS₁ fun b hb o e => hs₂.extBut b o (fun q => hCf (q ▸ hb)) e) up fun m' hm' => ?_
    · exact wpAny_pure ⟨rfl, n - (i + 1), by omega, h', tk', i + 1, rfl, hlt, rfl, hI', hS'⟩
    · obtain ⟨o, es, ep, ho, hd, hk, hf⟩ := hm'
      obtain ⟨o', es', ep', ho', hd', hk', hf'⟩ := hn
      rw [ho] at ho'
      cases ho'
      rw [hd] at hd'
      cases hd'
      have : m' = m := funext fun z => (hf z).symm.trans (hf' z)
      subst this
      exact hn₂
  · obtain rfl : i = n := Nat.le_antisymm hi (Nat.not_lt.mp hlt)
    exact W.done _ _ _ hS fun h₁ tk₁ hk₁ => wpAny_pure (done h h₁ tk₁ hI hS fun b o n1 e => hk₁ b o (by simpa using n1) e)
theorem comp_start {elt : Expr} {gens : List Comprehension} {scope : Scope} {pos : Pos} {d : Nat} {it acc : Value} {g : Comprehension} (hg : gens[d]? = some g) (ha : g.is_async = 0)
    (h0 : codeAny (model prog w) A (.compLoop (.ListComp elt gens scope pos) d it acc env) R s)
    (h : ∀ E', wpAny (model prog w) A (pyIter it) (fun it' s' => codeAny (model prog w) A (.compLoop (.ListComp elt gens scope pos) d it' acc env) R s') E' s) :
    codeAny (model prog w) A (.compStart (.ListComp elt gens scope pos) d it acc env) R s := by
  have e1 : (((clausesOf (.ListComp elt gens scope pos))[d]?).elim false (·.is_async != 0)) = false := by
    show ((gens[d]?).elim false (·.is_async != 0)) = false
    rw [hg]
    show (g.is_async != 0) = false
    rw [ha]; rfl
  refine codeAny_of_tree ?_
  show wpAny _ A ((compStart (.ListComp elt gens scope pos) d it acc env).onRaise (fun x => do noteFrame x env; standAt theWindowsPlace)) _ _ s
  refine wpAny_notedAt ?_
  unfold compStart
  rw [e1]
  show wpAny _ _ (ask >>= _) _ _ s
  refine wpAny_bind (wpAny_askSetting (wpAny_ite ?_))
  have e2 : (clausesOf (.ListComp elt gens scope pos))[d]? = some g := hg
  split
  · exact wpAny_bind (wpAny_pure (wpAny_pure (And.intro rfl h0)))
  · refine wpAny_bind (wpAny_rule ?_)
    rw [e2]
    exact wpAny_bind (wpAny_standAt (wpAny_bind (wpAny_mono (h _) (fun it' s' h' => wpAny_pure (And.intro rfl h')) fun _ _ x => x)))
end
-- ways2
def wSt : Stmt := gSt 23
def wForS : Stmt := (gFn wSt).1.getD 1 (.Pass default)
def wTgt : Expr := (sFor wForS).1
def wBodyS : List Stmt := (sFor wForS).2
def sAssign : Stmt → Expr
  | .Assign _ e _ => e
  | _ => default
def wComp : Expr := sAssign (wBodyS.getD 0 (.Pass default))
def lcElt : Expr → Expr
  | .ListComp e _ _ _ => e
  | _ => default
def lcIter (n : Nat) : Expr → Expr
  | .ListComp _ gs _ _ => (gs.getD n ⟨default, default, [], 0⟩).iter
  | _ => default
def lcGens : Expr → List Comprehension
  | .ListComp _ gs _ _ => gs
  | _ => []
def lcScope : Expr → Scope
  | .ListComp _ _ s _ => s
  | _ => default
def fenv (L : Addr) : Env := envOfC (Str.ofString "_law_ways") (gFn wSt).2 L 124 (.ref 123)
def wenv (L C : Addr) : Env := compEnvC (lcScope wComp) [(Str.ofString "size", L + 1)] C (fenv L)
section
variable {M : Model} {A : Around} {E : Value → Shared → Prop} {s : Shared} {K : Frag} {h₀ : Heap} {m mg mb : Str → Option Value} {p : Program} {loose : List Str} {L C : Addr} {x : Str} {pos : Pos} {v : Value} {Q : Value → Shared → Prop} {news : List (Addr × Obj)} {o : Obj}
theorem nameW_L (F : Fr h₀ C s.heap m) (hv : m x = some v) (h : Q v s) (hx : ∀ L C, (wenv L C).kindOf x = some .local) (hd : (x == ("__debug__" : Str)) = false) :
    wpAny M A (eval (.Name x pos) (wenv L C)) Q E s := wpAny_Name (wpAny_loadName_local rfl (hx L C) F.ns hv h) hd
theorem nameW_C (N : News h₀ C s.heap news) (hm : (L + 1, o) ∈ news) (hd : o.data = .cell (some v)) (h : Q v s) :
    wpAny M A (eval (.Name (Str.ofString "size") pos) (wenv L C)) Q E s := wpAny_Name (wpAny_loadName_cell (c := L + 1) rfl rfl rfl ⟨o, N.get hm, hd⟩ h) (by decide)
theorem nameW_B (F : Fr h₀ C s.heap m) (X : K.In h₀) (T : TopRead p loose mg mb h₀) (e : nsIn K mainGlobals x = some none) (hv : bootBuiltins x = some v) (hn : x ≠ "__name__") (h : Q v s)
    (hx : ∀ L C, (wenv L C).kindOf x = some .globalImplicit) (hd : (x == ("__debug__" : Str)) = false) : wpAny M A (eval (.Name x pos) (wenv L C)) Q E s :=
  Name_function_global rfl (hx L C) (loadGlobal_builtin (env := wenv L C) (T.g.keeps F.keep) (mg_none_of X T.g e) (T.b.keeps F.keep) ((T.builtins x hn).trans hv) h) hd
end
theorem kW_way (L C : Addr) : (wenv L C).kindOf (Str.ofString "way") = some .local := rfl
theorem kW_k (L C : Addr) : (wenv L C).kindOf (Str.ofString "k") = some .local := rfl
theorem kW_step (L C : Addr) : (wenv L C).kindOf (Str.ofString "step") = some .local := rfl
theorem kW_range (L C : Addr) : (wenv L C).kindOf (Str.ofString "range") = some .globalImplicit := rfl
theorem kW_len (L C : Addr) : (wenv L C).kindOf (Str.ofString "len") = some .globalImplicit := rfl
local macro_rules | `(tactic| walk_at "eval Name") => `(tactic| k_extra "my name")
local macro_rules | `(tactic| walk_at "subscriptTail Name Slice ref ref") => `(tactic| k_extra "my slice")
local macro_rules | `(tactic| walk_at "MINE names") => `(tactic| (k_dflt (first
    | (refine' nameW_L (by k_asm) ?v ?_ kW_way (by decide); (case v => with_unfolding_all rfl))
    | (refine' nameW_L (by k_asm) ?v ?_ kW_k (by decide); (case v => with_unfolding_all rfl))
    | (refine' nameW_L (by k_asm) ?v ?_ kW_step (by decide); (case v => with_unfolding_all rfl))
    | (refine' nameW_C (by k_asm) ?v ?w ?_; (case v => k_mem); (case w => assumption))
    | (refine' nameW_B (by k_asm) ?a ?b ?c ?d ?e ?_ kW_range (by decide); (case a => k_asm); (case b => k_asm); (case c => k_is); (case d => boot_fast); (case e => decide))
    | (refine' nameW_B (by k_asm) ?a ?b ?c ?d ?e ?_ kW_len (by decide); (case a => k_asm); (case b => k_asm); (case c => k_is); (case d => boot_fast); (case e => decide)))))
theorem fr_congr {g h : Heap} {C : Addr} {m m' : Str → Option Value} (F : Fr g C h m) (e : ∀ y, m y = m' y) : Fr g C h m' :=
  ⟨let ⟨o, es, ep, a, b, c, d⟩ := F.ns; ⟨o, es, ep, a, b, c, fun n => (d n).trans (e n)⟩, F.keep, F.above⟩
theorem known_eq {m : Str → Option Value} {n : Str} {v : Option Value} {f : Str → Option Value} (h : m n = v) (e : ∀ y, f y = m y) : ∀ y, (if y = n then v else f y) = m y := fun y => by
  by_cases q : y = n
  · rw [if_pos q, q, h]
  · rw [if_neg q, e]
theorem elt_spec (w : World) (A : Around) (hh : A.handled = none) (L C : Addr) (news : List (Addr × Obj)) (W : Addr) (n : Nat) (wvs : List Value) (ns : List Int) (k z : Int) (kn : Nat) (t u : Tok) (hk : k = (kn : Int)) (hW : (W, listOf wvs.toArray n) ∈ news) (hi : IntsAre wvs ns) (hl : ns.length ≤ 5) (hkn : kn ≤ ns.length)
    {p : Program} {loose : List Str} {mean : ExcName → Option Value} {mg mb : Str → Option Value} {g : Heap} {s : Shared} {Q E : Value → Shared → Prop} {m : Str → Option Value} (X : (Mine.hd.heap_1 w.params).In g) (T : Top p loose mean mg mb g)
    (F : Fr g C s.heap m) (N : News g C s.heap news) (m1 : m (Str.ofString "way") = some (.ref W)) (m2 : m (Str.ofString "k") = some (.int k t)) (m3 : m (Str.ofString "step") = some (.int z u))
    (hret : ∀ V vvs j h' tk', IntsAre vvs (ns.take kn ++ [z] ++ ns.drop kn) → Fr g C h' m → News g C h' ((V, listOf vvs.toArray j) :: news) → (∀ p ∈ news, p.1 < V) → Q (.ref V) { s with heap := h', toks := tk' }) :
    wpAny (model PySem.Challenge.rw_ul0005_01.row.prog w) A (eval (lcElt wComp) (wenv L C)) Q E s := by
  subst hk
  revert X
  k_fill
  intro X
  have F1 := Fr.known0 (Fr.known0 (Fr.known0 F m1) ((if_neg (by decide)).trans m2)) ((if_neg (by decide)).trans ((if_neg (by decide)).trans m3))
  conv in (lcElt wComp) => whnf
  have hk0 : (0 : Int) ≤ (kn : Int) := Int.natCast_nonneg _
  k_with_none
  k_with "my name" => (walk_at "MINE names"; (try dsimp only))
  k_with "my slice" => k_dflt (refine' kmk_slice_ints ?F ?N ?l ?p ?q hi ?m ?c ?_ ?s ?t ?z; (case F => k_asm); (case N => k_asm); (case l => exact News.isList (by k_asm) (by k_mem)); (case p => kmk_part); (case q => kmk_part); (case m => with_reducible first | exact kmk_upto hi hk0 | exact kmk_from hi hk0); (case c => exact rfl); (case s => with_unfolding_all rfl); (case t => kmk_pure); (case z => exact kmk_sz hi (by rw [sizeLine_eq]; omega)); k_whole; intro D' ws' h' F' N' l1 hI' _ _; (try k_lt l1))
  k_steps
  (with_reducible rename IntsAre _ (_ ++ _ ++ _) => HI)
  rw [Int.toNat_natCast] at HI
  dsimp only
  (with_reducible rename Fr _ _ _ _ => F9)
  (with_reducible rename News _ _ _ _ => N9)
  (with_reducible rename _ ∧ _ => l9)
  refine hret _ _ 0 _ _ HI (fr_congr F9 (known_eq m3 (known_eq m2 (known_eq m1 fun _ => rfl)))) (news_sub N9 fun p hp => ?_) (allLt_mem l9.2.2.2.2)
  rcases List.mem_cons.mp hp with rfl | hp
  · k_mem
  · walk_at "MINE tailmem"
theorem rng_spec (w : World) (A : Around) (hh : A.handled = none) (L C : Addr) (news : List (Addr × Obj)) (W : Addr) (n : Nat) (wvs : List Value) (ns : List Int) (hW : (W, listOf wvs.toArray n) ∈ news) (hi : IntsAre wvs ns) (hl : ns.length ≤ 5)
    {p : Program} {loose : List Str} {mean : ExcName → Option Value} {mg mb : Str → Option Value} {g : Heap} {s : Shared} {Q E : Value → Shared → Prop} {m : Str → Option Value} (X : (Mine.hd.heap_1 w.params).In g) (T : Top p loose mean mg mb g)
    (F : Fr g C s.heap m) (N : News g C s.heap news) (m1 : m (Str.ofString "way") = some (.ref W))
    (hret : ∀ V t u v h' tk', IsRange h' V 0 ((ns.length + 1 : Nat) : Int) 1 t u v → Fr g C h' m → News g C h' news → Q (.ref V) { s with heap := h', toks := tk' }) :
    wpAny (model PySem.Challenge.rw_ul0005_01.row.prog w) A (eval (lcIter 1 wComp) (wenv L C)) Q E s := by
  revert X
  k_fill
  intro X
  have F1 := Fr.known0 F m1
  conv in (lcIter 1 wComp) => whnf
  k_with_none
  k_with "my name" => (walk_at "MINE names"; (try dsimp only))
  k_with "my len" => refine len_to (by k_asm) (by k_mem) hi rfl (by omega) ?_; intro t9 tk9
  k_steps
  dsimp only
  (with_reducible rename Fr g C _ _ => F9)
  (with_reducible rename News _ _ _ _ => N9)
  (with_reducible rename IsRange _ _ _ _ _ _ _ _ => R9)
  exact hret _ _ _ _ _ _ R9 (fr_congr F9 (known_eq m1 fun _ => rfl)) N9
theorem tup_spec (w : World) (A : Around) (hh : A.handled = none) (L C : Addr) (news : List (Addr × Obj)) (o : Obj) (z : Int) (u : Tok) (ho : (L + 1, o) ∈ news) (hd : o.data = .cell (some (.int z u)))
    {p : Program} {loose : List Str} {mean : ExcName → Option Value} {mg mb : Str → Option Value} {g : Heap} {s : Shared} {Q E : Value → Shared → Prop} {m : Str → Option Value} (X : (Mine.hd.heap_1 w.params).In g) (T : Top p loose mean mg mb g)
    (F : Fr g C s.heap m) (N : News g C s.heap news)
    (hret : ∀ V t n h' tk', Fr g C h' m → News g C h' ((V, { cls := .type "tuple", data := .seq #[.int z u, .int (-z) t] n }) :: news) → Q (.ref V) { s with heap := h', toks := tk' }) :
    wpAny (model PySem.Challenge.rw_ul0005_01.row.prog w) A (eval (lcIter 2 wComp) (wenv L C)) Q E s := by
  revert X
  k_fill
  intro X
  conv in (lcIter 2 wComp) => whnf
  k_with_none
  k_with "my name" => (walk_at "MINE names"; (try dsimp only))
  k_steps
  exact hret _ _ _ _ _ (by k_asm) (by k_asm)
-- ways3
structure WI where
  a : Addr
  vs : List Value
  n : Nat
  ns : List Int
def Live (h : Heap) (x : WI) : Prop := h.get? x.a = some (listOf x.vs.toArray x.n) ∧ IntsAre x.vs x.ns
def refsOf (xs : List WI) : List Value := xs.map fun x => Value.ref x.a
structure CI (hS : Heap) (C D : Addr) (xs : List WI) (h : Heap) : Prop where
  keep : ∀ b o, b ≠ C → b ≠ D → hS.get? b = some o → h.get? b = some o
  ns : ∃ m, h.Ns C m
  acc : ∃ k, h.get? D = some (listOf (refsOf xs).toArray k)
  live : ∀ x ∈ xs, Live h x ∧ x.a ≠ C ∧ x.a ≠ D
  new : ∀ x ∈ xs, hS.get? x.a = none
theorem CI.alive {hS h : Heap} {C D b : Addr} {xs : List WI} {o : Obj} (c : CI hS C D xs h) (e : hS.get? b = some o) : @LT.lt Nat _ b h.objs.size := by
  by_cases h1 : b = C
  · rw [h1]; exact c.ns.elim fun _ n => n.lt
  · by_cases h2 : b = D
    · obtain ⟨k, hk⟩ := c.acc
      rw [h2]; exact Heap.lt_size hk
    · exact Heap.lt_size (c.keep b o h1 h2 e)
theorem CI.next {hS h : Heap} {C D : Addr} {xs : List WI} (c : CI hS C D xs h) : hS.get? h.objs.size = none := by
  cases e : hS.get? h.objs.size with
  | none => rfl
  | some o => exact absurd (c.alive e) (Nat.lt_irrefl _)
theorem CI.up {hS h h' : Heap} {C D I : Addr} {xs : List WI} {oI : Obj} (c : CI hS C D xs h) (hI : hS.get? I = none) (ho : h.get? I = some oI) (hc : oI.cls ≠ .type "list") (hCI : C ≠ I)
    (up : ∀ b o, b ≠ I → b ≠ C → h.get? b = some o → h'.get? b = some o) (hn : ∃ m, h'.Ns C m) (hDC : D ≠ C) : CI hS C D xs h' := by
  have nl : ∀ b its n, h.get? b = some (listOf its n) → b ≠ I := fun b its n e q => by
    rw [q, ho] at e
    cases e
    exact hc rfl
  refine ⟨fun b o n1 n2 e => up b o (fun q => by rw [q, hI] at e; cases e) n1 (c.keep b o n1 n2 e), hn, ?_, fun x hx => ?_, c.new⟩
  · obtain ⟨k, hk⟩ := c.acc
    exact ⟨k, up D _ (nl _ _ _ hk) hDC hk⟩
  · obtain ⟨⟨l1, l2⟩, l3, l4⟩ := c.live x hx
    exact ⟨⟨up _ _ (nl _ _ _ l1) l3 l1, l2⟩, l3, l4⟩
theorem kept_all {g h h' : Heap} {C : Addr} {m m' : Str → Option Value} {cons : List (Addr × Obj)} (F : Fr g C h m) (hc : ∀ b o, b ≠ C → b ≠ C → h.get? b = some o → g.get? b = none → (b, o) ∈ cons) (F' : Fr g C h' m') (N' : News g C h' cons) :
    ∀ b o, b ≠ C → h.get? b = some o → h'.get? b = some o := fun b o n1 e => by
  cases q : g.get? b with
  | none => exact (N' _ (hc b o n1 n1 e q)).1
  | some o' =>
    have e2 := F.keep b o' q
    rw [e] at e2
    cases e2
    exact F'.keep b o q
theorem refs_snoc (xs : List WI) (x : WI) : (refsOf xs).toArray.push (.ref x.a) = (refsOf (xs ++ [x])).toArray := by
  simp [refsOf]
/-- the ways that come of one way, a place and two steps -/
def put2 (z : Int) (ns : List Int) (k : Nat) : List (List Int) := [ns.take k ++ [z] ++ ns.drop k, ns.take k ++ [-z] ++ ns.drop k]
def put1 (z : Int) (ns : List Int) : List (List Int) := (List.range (ns.length + 1)).flatMap (put2 z ns)
theorem waysStep_put (z : Int) (ws : List (List Int)) : waysStep ws z = ws.flatMap (put1 z) := rfl
theorem sne1 : ¬ Str.ofString "way" = Str.ofString "step" := by decide
theorem sne2 : ¬ Str.ofString "k" = Str.ofString "step" := by decide
theorem sne3 : ¬ Str.ofString "way" = Str.ofString "k" := by decide
theorem scl1 : "tuple_iterator" ≠ "list" := by decide
theorem scl2 : "range_iterator" ≠ "list" := by decide
theorem scl3 : "list_iterator" ≠ "list" := by decide
theorem cls_ne {o : Obj} {a : String} (h : o.cls = .type a) (n : a ≠ "list") : o.cls ≠ .type "list" := fun q => n (by rw [h] at q; exact Value.type.inj q)
theorem wenv_hp (L C : Addr) : ((wenv L C).scope.kind == .class || ((wenv L C).scope.kind == .module && (wenv L C).locals != (wenv L C).globals)) = false := rfl
theorem wenv_locals (L C : Addr) : (wenv L C).locals = C := rfl
theorem fold1 (L C : Addr) : ∀ x, foldedSetIterable (lcIter 1 wComp) (wenv L C) x = pure x := fun _ => rfl
theorem fold2 (L C : Addr) : ∀ x, foldedSetIterable (lcIter 2 wComp) (wenv L C) x = pure x := fun _ => rfl
/-- the comprehension, its places aside -/
abbrev wE (q₀ q₁ q₂ : Pos) (i₀ : Expr) (sc : Scope) (ps : Pos) : Expr := .ListComp (lcElt wComp) (cl3 (Str.ofString "way") (Str.ofString "k") (Str.ofString "step") q₀ q₁ q₂ i₀ (lcIter 1 wComp) (lcIter 2 wComp)) sc ps
theorem put1_len (z : Int) (ns : List Int) : (put1 z ns).length = 2 * (ns.length + 1) := by
  have key : ∀ n, ((List.range n).flatMap (put2 z ns)).length = 2 * n := fun n => by
    induction n with
    | zero => rfl
    | succ n ih => rw [List.range_succ, List.flatMap_append, List.length_append, ih]; simp [put2]; omega
  exact key _
theorem two_items (z : Int) (u t : Tok) {α : Type} {i : Nat} {v : Value} (l : List α) (f : Int → α) (e : l = [f z, f (-z)]) (hi : i < (#[Value.int z u, Value.int (-z) t] : Array Value).size) (hP : (#[Value.int z u, Value.int (-z) t] : Array Value)[i]? = some v) :
    ∃ (q : Int) (tq : Tok), v = .int q tq ∧ l.take (i + 1) = l.take i ++ [f q] := by
  subst e
  have hi2 : i < 2 := hi
  rcases (show i = 0 ∨ i = 1 by omega) with rfl | rfl
  · refine ⟨z, u, ?_, by simp⟩
    simpa using hP.symm
  · refine ⟨-z, t, ?_, by simp⟩
    simpa using hP.symm
section
variable (q₀ q₁ q₂ : Pos) (i₀ : Expr) (sc : Scope) (ps : Pos) (w : World) (A : Around) (hh : A.handled = none) (L C D : Addr) (hDC : D ≠ C) (z : Int) (hS g : Heap) {p : Program} {loose : List Str} {mean : ExcName → Option Value} {mg mb : Str → Option Value} (X : (hd.heap_1 w.params).In g) (T : Top p loose mean mg mb g)
  (hg : ∀ b o, g.get? b = some o → hS.get? b = some o) (hgC : g.objs.size ≤ C) (hgD : g.get? D = none) (hcell : ∃ o u, hS.get? (L + 1) = some o ∧ o.data = .cell (some (.int z u)) ∧ g.get? (L + 1) = none ∧ L + 1 ≠ C ∧ L + 1 ≠ D)
include hh hDC X T hg hgC hgD hcell
omit hh X T hcell in
theorem based {xs : List WI} {h : Heap} (c : CI hS C D xs h) : ∀ b o, g.get? b = some o → h.get? b = some o :=
  fun b o e => c.keep b o (fun q => absurd (Heap.lt_size e) (by rw [q]; exact Nat.not_lt.mpr hgC)) (fun q => by rw [q, hgD] at e; cases e) (hg b o e)
theorem comp_d2 {R : Result → Shared → Prop} {s : Shared} {xs : List WI} {I T2 W : Addr} {n : Nat} {wvs : List Value} {ns : List Int} {kn : Nat} {u t tk : Tok} {m : Str → Option Value}
    (hi : IntsAre wvs ns) (hl : ns.length ≤ 5) (hkn : kn ≤ ns.length) (hW : hS.get? W = some (listOf wvs.toArray n)) (hWC : W ≠ C) (hWD : W ≠ D) (hWg : g.get? W = none) (hx : xs.length ≤ 1000)
    (hI0 : hS.get? I = none) (hIC : I ≠ C) (hID : I ≠ D) (hTC : T2 ≠ C) (hTD : T2 ≠ D) (hTI : T2 ≠ I) (hIt : s.heap.IsTupleIter I T2 0) (hT2 : s.heap.IsTuple T2 #[.int z u, .int (-z) t])
    (c : CI hS C D xs s.heap) (hn : s.heap.Ns C m) (m1 : m (Str.ofString "way") = some (.ref W)) (m2 : m (Str.ofString "k") = some (.int (kn : Int) tk))
    (hR : ∀ h' tk' ys m', CI hS C D (xs ++ ys) h' → ys.map WI.ns = put2 z ns kn → h'.Ns C m' → m' (Str.ofString "way") = some (.ref W) → (∀ b o, b ≠ C → b ≠ D → b ≠ I → s.heap.get? b = some o → h'.get? b = some o) → R (.ok .next) { s with heap := h', toks := tk' }) :
    codeAny (model PySem.Challenge.rw_ul0005_01.row.prog w) A (.compStart (wE q₀ q₁ q₂ i₀ sc ps) 2 (.ref I) (.ref D) (wenv L C)) R s := by
  have W2 := Walks.tuple (prog := PySem.Challenge.rw_ul0005_01.row.prog) (w := w) hh I T2 hTI #[.int z u, .int (-z) t]
  have loop : codeAny (model PySem.Challenge.rw_ul0005_01.row.prog w) A (.compLoop (wE q₀ q₁ q₂ i₀ sc ps) 2 (.ref I) (.ref D) (wenv L C)) R s := by
    refine comp_walk (B := leafOf (lcElt wComp) (.ref D) (wenv L C)) (turn3_2 ..) W2 (kW_step L C) (wenv_hp L C) ?hcf
      (fun i h => ∃ ys m', CI hS C D (xs ++ ys) h ∧ ys.map WI.ns = (put2 z ns kn).take i ∧ h.Ns C m' ∧ m' (Str.ofString "way") = some (.ref W) ∧ m' (Str.ofString "k") = some (.int (kn : Int) tk) ∧ (∀ b o, b ≠ C → b ≠ D → b ≠ I → s.heap.get? b = some o → h.get? b = some o))
      ?hns ⟨hIt, hT2⟩ ?h0 ?turn ?done
    case hns => exact (fun i h q => q.elim fun _ q => q.elim fun m' q => ⟨m', q.2.2.1⟩)
    case h0 => exact ⟨[], m, by rw [List.append_nil]; exact c, rfl, hn, m1, m2, fun b o _ _ _ e => e⟩
    case hcf =>
      intro q
      rcases List.mem_cons.mp q with q | q
      · exact hIC q.symm
      · exact hTC (List.mem_singleton.mp q).symm
    case turn =>
      rintro i v h h₂ tk' k QQ E' hk hin ⟨ys, m', c', ey, hn', e1, e2, kp⟩ hst hP hst2 up ns2
      obtain ⟨oI, hoI, hcI, _⟩ := id hst.1
      have hcl := cls_ne hcI scl1
      have hn2 := ns2 m' hn'
      have c2 := c'.up hI0 hoI hcl (Ne.symm hIC) up ⟨_, hn2⟩ hDC
      have hylen : ys.length ≤ 2 := by
        have := congrArg List.length ey
        rw [List.length_map, List.length_take] at this
        have : ys.length ≤ i := by omega
        have : i < 2 := hin
        omega
      obtain ⟨q, tq, hv, hq⟩ := two_items z u t (put2 z ns kn) (fun q => ns.take kn ++ [q] ++ ns.drop kn) rfl hin hP
      subst hv
      obtain ⟨cons, N1, _, hc⟩ := all_news (g := g) (h := h₂) (Lg := C) (I := C)
      have hgk : ∀ b o, g.get? b = some o → h₂.get? b = some o := fun b o e => c2.keep b o (fun q => absurd (Heap.lt_size e) (by rw [q]; exact Nat.not_lt.mpr hgC)) (fun q => by rw [q, hgD] at e; cases e) (hg b o e)
      have F1 : Fr g C h₂ _ := ⟨hn2, hgk, hgC⟩
      have hW2 := hc W _ hWC hWC (c2.keep W _ hWC hWD hW) hWg
      refine wpAny_leaf ?_
      refine elt_spec w A hh L C cons W n wvs ns _ q kn _ _ rfl hW2 hi hl hkn X T F1 N1 ((if_neg sne1).trans e1) ((if_neg sne2).trans e2) (if_pos rfl) fun V vvs j h₃ tk3 HI F3 N3 lV => ?_
      have up3 := kept_all F1 hc F3 (news_sub N3 fun _ hq => .tail _ hq)
      obtain ⟨kD, hkD⟩ := c2.acc
      have hD3 := up3 D _ hDC hkD
      have hVD : V ≠ D := fun e => absurd (lV _ (hc D _ hDC hDC hkD hgD)) (by rw [e]; exact Nat.lt_irrefl _)
      have nV := N3 _ (.head _)
      refine append_at (its := (refsOf (xs ++ ys)).toArray) hD3 (fun h₄ hs4 hD4 => ?_) (by rw [List.size_toArray, sizeLine_eq]; unfold refsOf; rw [List.length_map, List.length_append]; omega)
      have hxs := refs_snoc (xs ++ ys) ⟨V, vvs, j, ns.take kn ++ [q] ++ ns.drop kn⟩
      dsimp only at hxs
      rw [hxs] at hD4
      have up4 : ∀ b o, b ≠ C → b ≠ D → h₂.get? b = some o → h₄.get? b = some o := fun b o n1 n2 e => hs4.extBut b o n2 (up3 b o n1 e)
      refine hk h₄ _ ⟨ys ++ [⟨V, vvs, j, ns.take kn ++ [q] ++ ns.drop kn⟩], _, ?_, ?_, F3.ns.sameBut hs4 (Ne.symm hDC), (if_neg sne1).trans e1, (if_neg sne2).trans e2, fun b o n1 n2 n3 e => up4 b o n1 n2 (up b o n3 n1 (kp b o n1 n2 n3 e))⟩ (W2.frame _ _ _ hst2 fun b hb o e => up4 b o (fun q => ?_) (fun q => ?_) e)
      · rw [← List.append_assoc]
        refine ⟨fun b o n1 n2 e => up4 b o n1 n2 (c2.keep b o n1 n2 e), ⟨_, F3.ns.sameBut hs4 (Ne.symm hDC)⟩, ⟨_, hD4⟩, fun x hx => ?_, fun x hx => ?_⟩
        rcases List.mem_append.mp hx with hx | hx
        · obtain ⟨⟨l1, l2⟩, l3, l4⟩ := c2.live x hx
          exact ⟨⟨up4 _ _ l3 l4 l1, l2⟩, l3, l4⟩
        · rw [List.mem_singleton.mp hx]
          exact ⟨⟨hs4.extBut V _ hVD nV.1, HI⟩, nV.2.1, hVD⟩
        · rcases List.mem_append.mp hx with hx | hx
          · exact c2.new x hx
          · rw [List.mem_singleton.mp hx]
            show hS.get? V = none
            cases eV : hS.get? V with
            | none => rfl
            | some oV => exact absurd (lV _ (hc V oV nV.2.1 nV.2.1 (c2.keep V oV nV.2.1 hVD eV) nV.2.2)) (Nat.lt_irrefl _)
      · rw [List.map_append, ey, hq]; rfl
      · rcases List.mem_cons.mp hb with r | r
        · exact hIC (r.symm.trans q)
        · exact hTC ((List.mem_singleton.mp r).symm.trans q)
      · rcases List.mem_cons.mp hb with r | r
        · exact hID (r.symm.trans q)
        · exact hTD ((List.mem_singleton.mp r).symm.trans q)
    case done =>
      rintro h h₁ tk' ⟨ys, m', c', ey, hn', e1, e2, kp⟩ hst up
      obtain ⟨oI, hoI, hcI, _⟩ := id hst.1
      have hcl := cls_ne hcI scl1
      have hn1 : h₁.Ns C m' := hn'.at' fun o e => up C o (Ne.symm hIC) e
      exact hR h₁ tk' ys m' (c'.up hI0 hoI hcl (Ne.symm hIC) (fun b o n1 _ e => up b o n1 e) ⟨_, hn1⟩ hDC) ey hn1 e1 fun b o n1 n2 n3 e => up b o n3 (kp b o n1 n2 n3 e)
  exact comp_start (d := 2) rfl rfl loop fun E' => W2.self 0 _ _ _ ⟨hIt, hT2⟩ loop
theorem comp_d1 {R : Result → Shared → Prop} {s : Shared} {xs : List WI} {I W : Addr} {n : Nat} {wvs : List Value} {ns : List Int} {m : Str → Option Value}
    (hi : IntsAre wvs ns) (hl : ns.length ≤ 5) (hW : hS.get? W = some (listOf wvs.toArray n)) (hWC : W ≠ C) (hWD : W ≠ D) (hWg : g.get? W = none) (hx : xs.length ≤ 900)
    (hI0 : hS.get? I = none) (hIC : I ≠ C) (hID : I ≠ D) (hIt : IsRangeIter s.heap I 0 ((ns.length + 1 : Nat) : Int) 1)
    (c : CI hS C D xs s.heap) (hn : s.heap.Ns C m) (m1 : m (Str.ofString "way") = some (.ref W))
    (hR : ∀ h' tk' ys m', CI hS C D (xs ++ ys) h' → ys.map WI.ns = put1 z ns → h'.Ns C m' → (∀ b o, b ≠ C → b ≠ D → b ≠ I → s.heap.get? b = some o → h'.get? b = some o) → R (.ok .next) { s with heap := h', toks := tk' }) :
    codeAny (model PySem.Challenge.rw_ul0005_01.row.prog w) A (.compStart (wE q₀ q₁ q₂ i₀ sc ps) 1 (.ref I) (.ref D) (wenv L C)) R s := by
  have W1 : Walks PySem.Challenge.rw_ul0005_01.row.prog w A I [I] [I] (ns.length + 1) (fun i v => i < ns.length + 1 ∧ ∃ t, v = .int (0 + i * 1) t) (fun i h => IsRangeIter h I (0 + (i : Nat) * 1) (((ns.length + 1 : Nat) : Int) - (i : Nat)) 1) := (Walks.range hh I 0 1 (ns.length + 1)).bound
  have hIt0 : IsRangeIter s.heap I (0 + ((0 : Nat) : Int) * 1) (((ns.length + 1 : Nat) : Int) - ((0 : Nat) : Int)) 1 := by
    have e1 : (0 : Int) + ((0 : Nat) : Int) * 1 = 0 := by omega
    have e2 : (((ns.length + 1 : Nat) : Int) - ((0 : Nat) : Int)) = ((ns.length + 1 : Nat) : Int) := by omega
    rw [e1, e2]; exact hIt
  have loop : codeAny (model PySem.Challenge.rw_ul0005_01.row.prog w) A (.compLoop (wE q₀ q₁ q₂ i₀ sc ps) 1 (.ref I) (.ref D) (wenv L C)) R s := by
    refine comp_walk (B := innerOf (wE q₀ q₁ q₂ i₀ sc ps) 2 (lcIter 2 wComp) (.ref D) (wenv L C)) (turn3_1 ..) W1 (kW_k L C) (wenv_hp L C) ?hcf
      (fun i h => ∃ ys m', CI hS C D (xs ++ ys) h ∧ ys.map WI.ns = (List.range i).flatMap (put2 z ns) ∧ ys.length = 2 * i ∧ h.Ns C m' ∧ m' (Str.ofString "way") = some (.ref W) ∧ (∀ b o, b ≠ C → b ≠ D → b ≠ I → s.heap.get? b = some o → h.get? b = some o))
      ?hns hIt0 ?h0 ?turn ?done
    case hns => exact (fun i h q => q.elim fun _ q => q.elim fun m' q => ⟨m', q.2.2.2.1⟩)
    case h0 => exact ⟨[], m, by rw [List.append_nil]; exact c, rfl, rfl, hn, m1, fun b o _ _ _ e => e⟩
    case hcf => exact fun q => hIC (List.mem_singleton.mp q).symm
    case turn =>
      rintro i v h h₂ tk' k QQ E' hk hin ⟨ys, m', c', ey, yl, hn', e1, kp⟩ hst ⟨_, t, rfl⟩ hst2 up ns2
      obtain ⟨oI, hst', hcI⟩ : ∃ o : Obj, h.get? I = some o ∧ o.cls = .type "range_iterator" := ⟨_, hst, rfl⟩
      obtain ⟨oI2, hst2'⟩ : ∃ o : Obj, h₂.get? I = some o := ⟨_, hst2⟩
      have hcl := cls_ne hcI scl2
      have hn2 := ns2 m' hn'
      have c2 := c'.up hI0 hst' hcl (Ne.symm hIC) up ⟨_, hn2⟩ hDC
      obtain ⟨cons, N1, _, hc⟩ := all_news (g := g) (h := h₂) (Lg := C) (I := C)
      have hgk := based C D hDC hS g hg hgC hgD c2
      have F1 : Fr g C h₂ _ := ⟨hn2, hgk, hgC⟩
      obtain ⟨oL, uL, hoL, hdL, hgL, hLC, hLD⟩ := hcell
      have hL2 := hc (L + 1) _ hLC hLC (c2.keep _ _ hLC hLD hoL) hgL
      refine wpAny_inner ?_ (fold2 L C)
      refine tup_spec w A hh L C cons oL z uL hL2 hdL X T F1 N1 fun V tV nV h₃ tk3 F3 N3 => ?_
      have up3 := kept_all F1 hc F3 (news_sub N3 fun _ hq => .tail _ hq)
      have hV := N3 _ (.head _)
      obtain ⟨kD, hkD⟩ := c2.acc
      have hVD : V ≠ D := fun q => by
        have e3 := up3 D _ hDC hkD
        rw [q] at hV
        rw [hV.1] at e3
        have := congrArg Obj.cls (Option.some.inj e3)
        exact absurd (Value.type.inj this) (by decide)
      have hT : h₃.IsTuple V #[.int z uL, .int (-z) tV] := ⟨_, hV.1, rfl, _, rfl⟩
      refine wpAny_pyIter_tuple hT ?_
      have hnL := F3.ns.lt
      obtain ⟨J, hJ⟩ : ∃ J, J = h₃.objs.size := ⟨_, rfl⟩
      have c3 : CI hS C D (xs ++ ys) h₃ := ⟨fun b o n1 n2 e => up3 b o n1 (c2.keep b o n1 n2 e), ⟨_, F3.ns⟩, ⟨kD, up3 D _ hDC hkD⟩, fun x hx => let ⟨⟨l1, l2⟩, l3, l4⟩ := c2.live x hx; ⟨⟨up3 _ _ l3 l1, l2⟩, l3, l4⟩, c2.new⟩
      have pu : ∀ b o, h₃.get? b = some o → (h₃.push { cls := .type "tuple_iterator", data := .fields #[.ref V, .int 0 0] }).get? b = some o := fun b o e => Heap.get?_push_of_some _ e
      have hJn : h₃.get? J = none := Heap.get?_none_of_le (by rw [hJ]; exact Nat.le_refl _)
      have hJS : hS.get? J = none := by rw [hJ]; exact c3.next
      have hJC : J ≠ C := fun q => absurd hnL (by rw [hJ] at q; rw [← q]; exact Nat.lt_irrefl _)
      have hJD : J ≠ D := fun q => by have := up3 D _ hDC hkD; rw [← q, hJn] at this; cases this
      have hVJ : V ≠ J := fun q => by have := hV.1; rw [q] at this; dsimp only at this; rw [hJn] at this; cases this
      have hIJ : I ≠ J := fun q => by have := up3 I _ hIC hst2'; rw [q, hJn] at this; cases this
      have c4 : CI hS C D (xs ++ ys) (h₃.push { cls := .type "tuple_iterator", data := .fields #[.ref V, .int 0 0] }) := ⟨fun b o n1 n2 e => pu b o (c3.keep b o n1 n2 e), ⟨_, F3.ns.at' fun o e => pu _ o e⟩, c3.acc.elim fun k e => ⟨k, pu _ _ e⟩, fun x hx => let ⟨⟨l1, l2⟩, l3, l4⟩ := c3.live x hx; ⟨⟨pu _ _ l1, l2⟩, l3, l4⟩, c3.new⟩
      have ek : (0 + (i : Int) * 1) = (i : Int) := by omega
      rw [← hJ]
      refine comp_d2 q₀ q₁ q₂ i₀ sc ps w A hh L C D hDC z hS g X T hg hgC hgD ⟨oL, uL, hoL, hdL, hgL, hLC, hLD⟩ (kn := i) (tk := t) (u := uL) (t := tV) (W := W) (m := _) hi hl (by omega) hW hWC hWD hWg (by rw [List.length_append]; omega) hJS hJC hJD hV.2.1 hVD hVJ ⟨_, by rw [hJ]; exact Heap.get?_push_size _ rfl, rfl, rfl⟩ ⟨_, pu _ _ hV.1, rfl, _, rfl⟩ c4 (F3.ns.at' fun o e => pu _ o e) ((if_neg sne3).trans e1) ((if_pos rfl).trans (by rw [ek])) ?_
      intro h₅ tk5 zs m5 c5 ez hn5 e5 k5
      refine hk h₅ tk5 ⟨ys ++ zs, m5, by rw [← List.append_assoc]; exact c5, ?_, ?_, hn5, e5, fun b o n1 n2 n3 e => ?_⟩ (W1.frame _ _ _ hst2 fun b hb o e => ?_)
      · rw [List.map_append, ey, ez, List.range_succ, List.flatMap_append]; simp
      · have := congrArg List.length ez
        rw [List.length_map] at this
        rw [List.length_append, yl, this]
        show 2 * i + 2 = _
        omega
      · have e3 := up3 b o n1 (up b o n3 n1 (kp b o n1 n2 n3 e))
        exact k5 b o n1 n2 (fun q => by rw [q, hJn] at e3; cases e3) (pu b o e3)
      · rw [List.mem_singleton.mp hb] at e ⊢
        exact k5 I o hIC hID hIJ (pu _ o (up3 I o hIC e))
    case done =>
      rintro h h₁ tk' ⟨ys, m', c', ey, yl, hn', e1, kp⟩ hst up
      obtain ⟨oI, hst', hcI⟩ : ∃ o : Obj, h.get? I = some o ∧ o.cls = .type "range_iterator" := ⟨_, hst, rfl⟩
      have hcl := cls_ne hcI scl2
      have hn1 : h₁.Ns C m' := hn'.at' fun o e => up C o (Ne.symm hIC) e
      exact hR h₁ tk' ys m' (c'.up hI0 hst' hcl (Ne.symm hIC) (fun b o n1 _ e => up b o n1 e) ⟨_, hn1⟩ hDC) ey hn1 fun b o n1 n2 n3 e => up b o n3 (kp b o n1 n2 n3 e)
  exact comp_start (d := 1) rfl rfl loop fun E' => W1.self 0 _ _ _ hIt0 loop
theorem comp_d0 {R : Result → Shared → Prop} {s : Shared} {old : List WI} {I Wl : Addr} {kl : Nat} {m : Str → Option Value}
    (hold : ∀ x ∈ old, Live hS x ∧ x.a ≠ C ∧ x.a ≠ D ∧ g.get? x.a = none ∧ x.ns.length ≤ 5) (hlen : old.length ≤ 60) (hWl : hS.get? Wl = some (listOf (refsOf old).toArray kl)) (hlC : Wl ≠ C) (hlD : Wl ≠ D) (hlI : Wl ≠ I)
    (hI0 : hS.get? I = none) (hIC : I ≠ C) (hID : I ≠ D) (hIt : s.heap.IsListIter I Wl 0)
    (c : CI hS C D [] s.heap) (hn : s.heap.Ns C m)
    (hR : ∀ h' tk' ys m', CI hS C D ys h' → ys.map WI.ns = waysStep (old.map WI.ns) z → h'.Ns C m' → R (.ok .next) { s with heap := h', toks := tk' }) :
    codeAny (model PySem.Challenge.rw_ul0005_01.row.prog w) A (.compStart (wE q₀ q₁ q₂ i₀ sc ps) 0 (.ref I) (.ref D) (wenv L C)) R s := by
  have W0 := Walks.list (prog := PySem.Challenge.rw_ul0005_01.row.prog) (w := w) hh I Wl hlI (refsOf old).toArray
  have hLs : ∀ h, CI hS C D [] h → h.IsList Wl (refsOf old).toArray := fun h q => ⟨_, q.keep Wl _ hlC hlD hWl, rfl, _, rfl⟩
  have hsz : (refsOf old).toArray.size = old.length := by unfold refsOf; simp
  have loop : codeAny (model PySem.Challenge.rw_ul0005_01.row.prog w) A (.compLoop (wE q₀ q₁ q₂ i₀ sc ps) 0 (.ref I) (.ref D) (wenv L C)) R s := by
    refine comp_walk (B := innerOf (wE q₀ q₁ q₂ i₀ sc ps) 1 (lcIter 1 wComp) (.ref D) (wenv L C)) (turn3_0 ..) W0 (kW_way L C) (wenv_hp L C) ?hcf
      (fun i h => ∃ ys m', CI hS C D ys h ∧ ys.map WI.ns = waysStep ((old.take i).map WI.ns) z ∧ ys.length ≤ 12 * i ∧ h.Ns C m')
      ?hns ⟨hIt, hLs _ c⟩ ?h0 ?turn ?done
    case hns => exact (fun i h q => q.elim fun _ q => q.elim fun m' q => ⟨m', q.2.2.2⟩)
    case h0 => exact ⟨[], m, c, rfl, Nat.le_refl _, hn⟩
    case hcf =>
      intro q
      rcases List.mem_cons.mp q with q | q
      · exact hIC q.symm
      · exact hlC (List.mem_singleton.mp q).symm
    case turn =>
      rintro i v h h₂ tk' k QQ E' hk hin ⟨ys, m', c', ey, yl, hn'⟩ hst hP hst2 up ns2
      rw [hsz] at hin
      obtain ⟨x, hx, hv⟩ : ∃ x, old[i]? = some x ∧ v = .ref x.a := by
        refine ⟨old[i], List.getElem?_eq_getElem hin, ?_⟩
        have e : (refsOf old)[i]? = some v := by simpa using hP
        unfold refsOf at e
        rw [List.getElem?_map, List.getElem?_eq_getElem hin] at e
        exact (Option.some.inj e).symm
      subst hv
      obtain ⟨⟨x1, x2⟩, x3, x4, x5, x6⟩ := hold x (List.mem_of_getElem? hx)
      obtain ⟨oI, hst', hcI, _⟩ := id hst.1
      obtain ⟨oI2, hst2', _, _⟩ := id hst2.1
      have hcl := cls_ne hcI scl3
      have hn2 := ns2 m' hn'
      have c2 := c'.up hI0 hst' hcl (Ne.symm hIC) up ⟨_, hn2⟩ hDC
      obtain ⟨cons, N1, _, hc⟩ := all_news (g := g) (h := h₂) (Lg := C) (I := C)
      have hgk := based C D hDC hS g hg hgC hgD c2
      have F1 : Fr g C h₂ _ := ⟨hn2, hgk, hgC⟩
      have hW2 := hc x.a _ x3 x3 (c2.keep _ _ x3 x4 x1) x5
      refine wpAny_inner ?_ (fold1 L C)
      refine rng_spec w A hh L C cons x.a x.n x.vs x.ns hW2 x2 x6 X T F1 N1 (if_pos rfl) fun V tV uV vV h₃ tk3 hRg F3 N3 => ?_
      have up3 := kept_all F1 hc F3 N3
      obtain ⟨kD, hkD⟩ := c2.acc
      refine wpAny_pyIter_range hRg (small_one (by omega) (by omega) (by omega) (by omega)) ?_
      have hnL := F3.ns.lt
      obtain ⟨J, hJ⟩ : ∃ J, J = h₃.objs.size := ⟨_, rfl⟩
      have c3 : CI hS C D ys h₃ := ⟨fun b o n1 n2 e => up3 b o n1 (c2.keep b o n1 n2 e), ⟨_, F3.ns⟩, ⟨kD, up3 D _ hDC hkD⟩, fun x hx => let ⟨⟨l1, l2⟩, l3, l4⟩ := c2.live x hx; ⟨⟨up3 _ _ l3 l1, l2⟩, l3, l4⟩, c2.new⟩
      have hJn : h₃.get? J = none := Heap.get?_none_of_le (by rw [hJ]; exact Nat.le_refl _)
      have hJS : hS.get? J = none := by rw [hJ]; exact c3.next
      have hJC : J ≠ C := fun q => absurd hnL (by rw [hJ] at q; rw [← q]; exact Nat.lt_irrefl _)
      have hJD : J ≠ D := fun q => by have := up3 D _ hDC hkD; rw [← q, hJn] at this; cases this
      have hIJ : I ≠ J := fun q => by have := up3 I _ hIC hst2'; rw [q, hJn] at this; cases this
      have erg : Builtin.Range.rangeSize 0 ((x.ns.length + 1 : Nat) : Int) 1 = ((x.ns.length + 1 : Nat) : Int) := by rw [rangeSize_nat]; omega
      rw [erg]
      have pu : ∀ b o, h₃.get? b = some o → (h₃.push { cls := .type "range_iterator", data := .fields #[rawInt 0, rawInt ((x.ns.length + 1 : Nat) : Int), rawInt 1] }).get? b = some o := fun b o e => Heap.get?_push_of_some _ e
      have c4 : CI hS C D ys (h₃.push { cls := .type "range_iterator", data := .fields #[rawInt 0, rawInt ((x.ns.length + 1 : Nat) : Int), rawInt 1] }) := ⟨fun b o n1 n2 e => pu b o (c3.keep b o n1 n2 e), ⟨_, F3.ns.at' fun o e => pu _ o e⟩, c3.acc.elim fun k e => ⟨k, pu _ _ e⟩, fun x hx => let ⟨⟨l1, l2⟩, l3, l4⟩ := c3.live x hx; ⟨⟨pu _ _ l1, l2⟩, l3, l4⟩, c3.new⟩
      rw [← hJ]
      refine comp_d1 q₀ q₁ q₂ i₀ sc ps w A hh L C D hDC z hS g X T hg hgC hgD hcell (W := x.a) (m := _) x2 x6 x1 x3 x4 x5 (by omega) hJS hJC hJD (by rw [hJ]; exact Heap.get?_push_size _ rfl) c4 (F3.ns.at' fun o e => pu _ o e) (if_pos rfl) ?_
      intro h₅ tk5 zs m5 c5 ez hn5 k5
      refine hk h₅ tk5 ⟨ys ++ zs, m5, c5, ?_, ?_, hn5⟩ (W0.frame _ _ _ hst2 fun b hb o e => ?_)
      · rw [List.map_append, ey, ez, waysStep_put, waysStep_put, List.take_add_one, hx]
        simp
      · have := congrArg List.length ez
        rw [List.length_map, put1_len] at this
        rw [List.length_append, this]
        omega
      · rcases List.mem_cons.mp hb with r | r
        · rw [r] at e ⊢
          exact k5 I o hIC hID hIJ (pu _ o (up3 I o hIC e))
        · have r' := List.mem_singleton.mp r
          rw [r'] at e ⊢
          have e3 := up3 Wl o hlC e
          exact k5 Wl o hlC hlD (fun q => by rw [q, hJn] at e3; cases e3) (pu _ o e3)
    case done =>
      rintro h h₁ tk' ⟨ys, m', c', ey, yl, hn'⟩ hst up
      obtain ⟨oI, hst', hcI, _⟩ := id hst.1
      have hcl := cls_ne hcI scl3
      have hn1 : h₁.Ns C m' := hn'.at' fun o e => up C o (Ne.symm hIC) e
      rw [hsz, List.take_length] at ey
      exact hR h₁ tk' ys m' (c'.up hI0 hst' hcl (Ne.symm hIC) (fun b o n1 _ e => up b o n1 e) ⟨_, hn1⟩ hDC) ey hn1
  exact comp_start (d := 0) rfl rfl loop fun E' => W0.self 0 _ _ _ ⟨hIt, hLs _ c⟩ loop
end
-- ways4
theorem w_clos (L : Addr) : closureFor (lcScope wComp) (fenv L) = pure [(Str.ofString "size", L + 1)] := rfl
theorem w_kind : (lcScope wComp).kind = .function := rfl
theorem w_names : ∀ x ∈ (lcScope wComp).names, x.2 = .local → (lcScope wComp).names.lookup x.1 = some .local := by decide
theorem w_cell : ∀ x ∈ (lcScope wComp).names, x.2 ≠ .cell := by decide
theorem f_ways (L : Addr) : (fenv L).kindOf (Str.ofString "ways") = some .local := rfl
theorem f_size (L : Addr) : (fenv L).kindOf (Str.ofString "size") = some .cell := rfl
theorem f_hp (L : Addr) : ((fenv L).scope.kind == .class || ((fenv L).scope.kind == .module && (fenv L).locals != (fenv L).globals)) = false := rfl
theorem fold0 (L : Addr) (i₀ : Pos) : ∀ x, foldedSetIterable (.Name (Str.ofString "ways") i₀) (fenv L) x = pure x := fun _ => rfl
theorem wBody_eq : ∃ q₀ q₁ q₂ i₀ ps py sp, wBodyS = [Stmt.Assign [.Name (Str.ofString "ways") py] (wE q₀ q₁ q₂ (.Name (Str.ofString "ways") i₀) (lcScope wComp) ps) sp] ∧ ∀ L, swapsWith (wE q₀ q₁ q₂ (.Name (Str.ofString "ways") i₀) (lcScope wComp) ps) (some (.Name (Str.ofString "ways") py)) sp.line (fenv L) = pure true := ⟨_, _, _, _, _, _, _, rfl, fun _ => rfl⟩
theorem ways_assign (w : World) (A : Around) (hh : A.handled = none) (L : Addr) (z : Int) (g : Heap) {p : Program} {loose : List Str} {mean : ExcName → Option Value} {mg mb : Str → Option Value} (X : (hd.heap_1 w.params).In g) (T : Top p loose mean mg mb g)
    {s : Shared} {m : Str → Option Value} {Q : Flow → Shared → Prop} {E : Value → Shared → Prop} (F : Fr g L s.heap m) (hcell : ∃ o u, s.heap.get? (L + 1) = some o ∧ o.data = .cell (some (.int z u)) ∧ g.get? (L + 1) = none) {old : List WI} {Wl : Addr} {kl : Nat}
    (m1 : m (Str.ofString "ways") = some (.ref Wl)) (hold : ∀ x ∈ old, Live s.heap x ∧ g.get? x.a = none ∧ x.ns.length ≤ 5) (hlen : old.length ≤ 60) (hWl : s.heap.get? Wl = some (listOf (refsOf old).toArray kl))
    (hret : ∀ h' tk D ys k, h'.Ns L (fun y => if y = Str.ofString "ways" then some (.ref D) else m y) → (∀ b o, b ≠ L → s.heap.get? b = some o → h'.get? b = some o) → h'.get? D = some (listOf (refsOf ys).toArray k) → s.heap.get? D = none → (∀ x ∈ ys, Live h' x ∧ s.heap.get? x.a = none ∧ x.a ≠ D) → ys.map WI.ns = waysStep (old.map WI.ns) z → Q .next { s with heap := h', toks := tk }) :
    wpAny (model PySem.Challenge.rw_ul0005_01.row.prog w) A (execs wBodyS (fenv L)) Q E s := by
  obtain ⟨q₀, q₁, q₂, i₀, ps, py, sp, eB, hsw⟩ := wBody_eq
  rw [eB]
  refine wpAny_execs_cons ?_
  rw [exec_Assign_Name_used _ _ _ _ (hsw L)]
  refine wpAny_bind (wpAny_standAt (wpAny_bind ?_))
  refine wpAny_bind (wpAny_mono (wpAny_comprehension_free (use := some (assign (.Name (Str.ofString "ways") py) (fenv L))) (Q := fun _ s' => wpAny (model PySem.Challenge.rw_ul0005_01.row.prog w) A (execs [] (fenv L)) Q E s') rfl (fold0 L i₀) (w_clos L) w_kind w_names ?_) (fun _ s' hq => wpAny_pure (wpAny_pure hq)) fun _ _ e => e)
  have hLl : s.heap.IsList Wl (refsOf old).toArray := ⟨_, hWl, rfl, _, rfl⟩
  refine wpAny_Name (wpAny_loadName_local rfl (f_ways L) F.ns m1 (wpAny_pyIter_list hLl ?_)) (by decide)
  refine wpAny_newObj_type (wpAny_newFunctionEnv w_cell (by intro y hy; simp at hy) (fun h₁ hns₁ hsb₁ => ?_) w_kind)
  dsimp only at hns₁ hsb₁ ⊢
  obtain ⟨H1, hH1⟩ : ∃ H1, H1 = s.heap.push { cls := .type "list_iterator", data := .fields #[.ref Wl, .int 0 0] } := ⟨_, rfl⟩
  rw [← hH1] at hns₁ hsb₁ ⊢
  obtain ⟨H2, hH2⟩ : ∃ H2, H2 = H1.push { cls := .type "list", dict := none, data := .seq ([] : List Value).toArray } := ⟨_, rfl⟩
  rw [← hH2] at hns₁ hsb₁ ⊢
  obtain ⟨I, hI⟩ : ∃ I, I = s.heap.objs.size := ⟨_, rfl⟩
  obtain ⟨D, hD⟩ : ∃ D, D = H1.objs.size := ⟨_, rfl⟩
  obtain ⟨C, hC⟩ : ∃ C, C = H2.objs.size := ⟨_, rfl⟩
  rw [← hC] at hns₁ hsb₁ ⊢
  rw [← hD, ← hI]
  have eD : D = I + 1 := by rw [hD, hH1, Heap.size_push, hI]
  have eC : C = I + 2 := by rw [hC, hH2, Heap.size_push, ← hD, eD]
  have nI : I < I + 1 := Nat.lt_succ_self _
  have nD : D ≠ C := by rw [eD, eC]; exact Nat.ne_of_lt (Nat.lt_succ_self _)
  have nIC : I ≠ C := by rw [eC]; exact Nat.ne_of_lt (Nat.lt_of_lt_of_le nI (Nat.le_succ _))
  have nID : I ≠ D := by rw [eD]; exact Nat.ne_of_lt nI
  have up1 : ∀ b o, s.heap.get? b = some o → H1.get? b = some o := fun b o e => by rw [hH1]; exact Heap.get?_push_of_some _ e
  have up2 : ∀ b o, H1.get? b = some o → H2.get? b = some o := fun b o e => by rw [hH2]; exact Heap.get?_push_of_some _ e
  have lo : ∀ b o, s.heap.get? b = some o → b ≠ I ∧ b ≠ D ∧ b ≠ C := fun b o e => by
    have : @LT.lt Nat _ b I := by rw [hI]; exact Heap.lt_size e
    exact ⟨Nat.ne_of_lt this, by rw [eD]; exact Nat.ne_of_lt (Nat.lt_succ_of_lt this), by rw [eC]; exact Nat.ne_of_lt (Nat.lt_succ_of_lt (Nat.lt_succ_of_lt this))⟩
  have fresh : ∀ b, (∀ o, s.heap.get? b ≠ some o) → s.heap.get? b = none := fun b k => by
    cases e : s.heap.get? b with
    | none => rfl
    | some o => exact absurd e (k o)
  have sI : s.heap.get? I = none := fresh _ fun o e => (lo _ _ e).1 rfl
  have sD : s.heap.get? D = none := fresh _ fun o e => (lo _ _ e).2.1 rfl
  have sC : s.heap.get? C = none := fresh _ fun o e => (lo _ _ e).2.2 rfl
  have gnone : ∀ b, s.heap.get? b = none → g.get? b = none := fun b e => by
    cases q : g.get? b with
    | none => rfl
    | some o => have := F.keep b o q; rw [e] at this; cases this
  have up : ∀ b o, b ≠ C → H2.get? b = some o → h₁.get? b = some o := fun b o n e => hsb₁.extBut b o n (Heap.get?_push_of_some _ e)
  have hDo : h₁.get? D = some (listOf (refsOf []).toArray 0) := up D _ nD (by rw [hH2, hD]; exact Heap.get?_push_size _ rfl)
  have hIo : h₁.get? I = some { cls := .type "list_iterator", data := .fields #[.ref Wl, .int 0 0] } := up I _ nIC (up2 _ _ (by rw [hH1, hI]; exact Heap.get?_push_size _ rfl))
  have c0 : CI s.heap C D [] h₁ := ⟨fun b o n1 n2 e => up b o n1 (up2 _ _ (up1 _ _ e)), ⟨_, hns₁⟩, ⟨0, hDo⟩, fun x hx => (nomatch hx), fun x hx => (nomatch hx)⟩
  obtain ⟨oL, uL, hoL, hdL, hgL⟩ := hcell
  have hgC : @LE.le Nat _ g.objs.size C := by
    have h1 : @LE.le Nat _ g.objs.size L := F.above
    have h2 : @LT.lt Nat _ L I := by rw [hI]; exact F.ns.lt
    rw [eC]; omega
  have lWl := lo _ _ hWl
  have lL := lo _ _ hoL
  have lF : L ≠ I ∧ L ≠ D ∧ L ≠ C := let ⟨_, _, _, e, _⟩ := F.ns; lo _ _ e
  refine comp_d0 q₀ q₁ q₂ (.Name (Str.ofString "ways") i₀) (lcScope wComp) ps w A hh L C D nD z s.heap g X T F.keep hgC (gnone D sD) ⟨oL, uL, hoL, hdL, hgL, lL.2.2, lL.2.1⟩ (old := old) (Wl := Wl) (kl := kl) (m := _)
    (fun x hx => let ⟨h1, h2, h3⟩ := hold x hx; ⟨h1, (lo _ _ h1.1).2.2, (lo _ _ h1.1).2.1, h2, h3⟩) hlen hWl lWl.2.2 lWl.2.1 lWl.1 sI nIC nID ⟨_, hIo, rfl, rfl⟩ c0 hns₁ ?_
  intro h' tk' ys m' c' ey hn'
  have hLn : h'.Ns L m := F.ns.at' fun o e => c'.keep L o lF.2.2 lF.2.1 e
  show wpAny _ A (assign (.Name (Str.ofString "ways") py) (fenv L) (.ref D)) _ _ _
  refine wpAny_assign_Name (wpAny_storeName_local (f_ways L) hLn (fun h₂ hn₂ hs₂ => ?_) (f_hp L))
  refine ⟨m', hn'.sameBut hs₂ (Ne.symm lF.2.2), fun h₃ hs₃ => wpAny_execs_nil ?_⟩
  obtain ⟨kD, hkD⟩ := c'.acc
  have up3 : ∀ b o, b ≠ L → b ≠ C → h'.get? b = some o → h₃.get? b = some o := fun b o n1 n2 e => hs₃.extBut b o n2 (hs₂.extBut b o n1 e)
  refine hret h₃ _ D ys kD (hn₂.sameBut hs₃ lF.2.2) (fun b o n1 e => up3 b o n1 (lo _ _ e).2.2 (c'.keep b o (lo _ _ e).2.2 (lo _ _ e).2.1 e)) (up3 D _ (Ne.symm lF.2.1) nD hkD) sD (fun x hx => ?_) ey
  obtain ⟨⟨l1, l2⟩, l3, l4⟩ := c'.live x hx
  have l5 := c'.new x hx
  exact ⟨⟨up3 _ _ (fun q => by obtain ⟨_, _, _, e, _⟩ := F.ns; rw [q] at l5; have e' : s.heap.get? L = some _ := e; rw [l5] at e'; cases e') l3 l1, l2⟩, l5, l4⟩
-- ways5
theorem wTgt_eq : ∃ ps, wTgt = .Name (Str.ofString "size") ps := ⟨_, rfl⟩
theorem waysOf_snoc (ns : List Int) (z : Int) : waysOf (ns ++ [z]) = waysStep (waysOf ns) z := by simp [waysOf]
theorem put1_lens {z : Int} {ns w : List Int} (h : w ∈ put1 z ns) : w.length = ns.length + 1 := by
  obtain ⟨k, hk, hw⟩ := List.mem_flatMap.mp h
  have hk' := List.mem_range.mp hk
  simp only [put2, List.mem_cons, List.not_mem_nil, or_false] at hw
  rcases hw with rfl | rfl <;> simp <;> omega
theorem waysOf_lens : ∀ ns : List Int, (∀ w ∈ waysOf ns, w.length = ns.length) := rev_ind (fun w hw => by
    rw [show waysOf [] = [[]] from rfl] at hw
    rw [List.mem_singleton.mp hw]) fun ns z ih w hw => by
  rw [waysOf_snoc, waysStep_put] at hw
  obtain ⟨v, hv, hw⟩ := List.mem_flatMap.mp hw
  rw [put1_lens hw, ih v hv, List.length_append]; rfl
theorem waysStep_len {ws : List (List Int)} {n : Nat} (z : Int) (h : ∀ w ∈ ws, w.length = n) : (waysStep ws z).length = ws.length * (2 * (n + 1)) := by
  rw [waysStep_put]
  induction ws with
  | nil => simp
  | cons w ws ih =>
    rw [List.flatMap_cons, List.length_append, ih fun v hv => h v (.tail _ hv), put1_len, h w (.head _), List.length_cons, Nat.add_mul]
    omega
theorem waysOf_few {ns : List Int} (h : ns.length ≤ 2) : (waysOf ns).length ≤ 60 := by
  match ns, h with
  | [], _ => decide
  | [a], _ =>
    have e : waysOf [a] = waysStep (waysOf []) a := rfl
    rw [e, waysStep_len (n := 0) a (fun w hw => waysOf_lens [] w hw)]; decide
  | [a, b], _ =>
    have e1 : waysOf [a] = waysStep (waysOf []) a := rfl
    have e : waysOf [a, b] = waysStep (waysOf [a]) b := rfl
    rw [e, waysStep_len (n := 1) b (fun w hw => waysOf_lens [a] w hw), e1, waysStep_len (n := 0) a (fun w hw => waysOf_lens [] w hw)]; decide
theorem ints_at : ∀ {vs : List Value} {ns : List Int} {i : Nat} {v : Value}, IntsAre vs ns → vs[i]? = some v → ∃ z t, v = .int z t ∧ ns[i]? = some z
  | _, _, 0, _, .cons z t r, e => ⟨z, t, (Option.some.inj e).symm, rfl⟩
  | _, _, i + 1, _, .cons z t r, e => by
    obtain ⟨z', t', h1, h2⟩ := ints_at (i := i) r (by simpa using e)
    exact ⟨z', t', h1, by simpa using h2⟩
theorem ways_loop (w : World) (A : Around) (hh : A.handled = none) (L : Addr) (g : Heap) {p : Program} {loose : List Str} {mean : ExcName → Option Value} {mg mb : Str → Option Value} (X : (hd.heap_1 w.params).In g) (T : Top p loose mean mg mb g)
    {s : Shared} {m : Str → Option Value} {Rr : Result → Shared → Prop} (F : Fr g L s.heap m) {I R : Addr} {vs : List Value} {ns : List Int} (hi : IntsAre vs ns) (hn : ns.length ≤ 3) (hIt : s.heap.IsListIter I R 0) (hL : s.heap.IsList R vs.toArray)
    (hIL : I ≠ L) (hIc : I ≠ L + 1) (hRL : R ≠ L) (hRc : R ≠ L + 1) (hIg : g.get? I = none) (hRI : R ≠ I) (hcell : ∃ o v, s.heap.get? (L + 1) = some o ∧ o.data = .cell v) (hcg : g.get? (L + 1) = none)
    {D0 W0 : Addr} {k0 k1 : Nat} (m1 : m (Str.ofString "ways") = some (.ref D0)) (hD0 : s.heap.get? D0 = some (listOf #[.ref W0] k0)) (hW0 : s.heap.get? W0 = some (listOf #[] k1)) (hgD : g.get? D0 = none) (hgW : g.get? W0 = none) (hDL : D0 ≠ L) (hWL : W0 ≠ L) (hDW : W0 ≠ D0)
    (done : ∀ h' tk D ys k m', Fr g L h' m' → m' (Str.ofString "ways") = some (.ref D) → h'.get? D = some (listOf (refsOf ys).toArray k) → g.get? D = none → D ≠ L → (∀ x ∈ ys, Live h' x ∧ g.get? x.a = none ∧ x.a ≠ L ∧ x.a ≠ D) → ys.map WI.ns = waysOf ns →
      (∀ b o, b ≠ L → b ≠ L + 1 → b ≠ I → s.heap.get? b = some o → h'.get? b = some o) → Rr (.ok .next) { s with heap := h', toks := tk }) :
    codeAny (model PySem.Challenge.rw_ul0005_01.row.prog w) A (.forLoop wTgt (.ref I) wBodyS [] (fenv L)) Rr s := by
  have W := Walks.list (prog := PySem.Challenge.rw_ul0005_01.row.prog) (w := w) hh I R hRI vs.toArray
  have hvl : vs.toArray.size = ns.length := by rw [List.size_toArray, hi.length]
  obtain ⟨ps, eT⟩ := wTgt_eq
  rw [eT]
  have hgL0 : g.get? L = none := Heap.get?_none_of_le F.above
  refine codeAny_forLoop (fun n s' => ∃ i h tk D ys k m', n = ns.length - i ∧ i ≤ ns.length ∧ s' = { s with heap := h, toks := tk } ∧ Fr g L h m' ∧ m' (Str.ofString "ways") = some (.ref D) ∧ h.get? D = some (listOf (refsOf ys).toArray k) ∧ g.get? D = none ∧ D ≠ L ∧
      (∀ x ∈ ys, Live h x ∧ g.get? x.a = none ∧ x.a ≠ L ∧ x.a ≠ D) ∧ ys.map WI.ns = waysOf (ns.take i) ∧ (∃ o v, h.get? (L + 1) = some o ∧ o.data = .cell v) ∧ h.IsListIter I R i ∧ h.IsList R vs.toArray ∧ (∀ b o, b ≠ L → b ≠ L + 1 → b ≠ I → s.heap.get? b = some o → h.get? b = some o)) ?_ ns.length
    ⟨0, s.heap, s.toks, D0, [⟨W0, [], k1, []⟩], k0, m, rfl, Nat.zero_le _, rfl, F, m1, hD0, hgD, hDL, fun x hx => ?_, rfl, hcell, hIt, hL, fun b o _ _ _ e => e⟩
  · rintro n s' ⟨i, h, tk, D, ys, k, m', rfl, hin, rfl, F1, e1, hD, hDg, hDL, hlive, ey, ⟨oc, vc, hoc, hdc⟩, hst1, hst2, kp⟩
    by_cases hlt : i < ns.length
    · refine W.item i _ _ _ (by rw [hvl]; exact hlt) ⟨hst1, hst2⟩ fun v h₁ tk₁ hPv hS₁ hk₁ => ?_
      obtain ⟨z, t, rfl, hz⟩ := ints_at (i := i) hi (by simpa using hPv)
      have hk : ∀ b o, b ≠ I → h.get? b = some o → h₁.get? b = some o := fun b o n e => hk₁ b o (by simpa using n) e
      have hIh : ∃ o : Obj, h.get? I = some o ∧ o.cls = .type "list_iterator" := let ⟨o, a, b, _⟩ := hst1; ⟨o, a, b⟩
      obtain ⟨oI, hoI, hcI⟩ := hIh
      have hcl := cls_ne hcI scl3
      have nl : ∀ b its n, h.get? b = some (listOf its n) → b ≠ I := fun b its n e q => by
        rw [q, hoI] at e
        cases e
        exact hcl rfl
      have F2 : Fr g L h₁ m' := ⟨F1.ns.at' fun o e => hk L o (Ne.symm hIL) e, fun b o e => hk b o (fun q => by rw [q, hIg] at e; cases e) (F1.keep b o e), F1.above⟩
      refine wpAny_assign_Name (wpAny_storeName_cell rfl (f_size L) (c := L + 1) rfl ⟨oc, hk _ _ (Ne.symm hIc) hoc, hdc⟩ fun h₂ hc₂ hs₂ => ?_)
      have up : ∀ b o, b ≠ I → b ≠ L + 1 → h.get? b = some o → h₂.get? b = some o := fun b o n1 n2 e => hs₂.extBut b o n2 (hk b o n1 e)
      have hLc : L ≠ L + 1 := Nat.ne_of_lt (Nat.lt_succ_self _)
      have nc : ∀ b its n, h.get? b = some (listOf its n) → b ≠ L + 1 := fun b its n e q => by
        rw [q, hoc] at e
        cases e
        cases hdc
      have F3 : Fr g L h₂ m' := ⟨F2.ns.sameBut hs₂ hLc, fun b o e => hs₂.extBut b o (fun q => by rw [q, hcg] at e; cases e) (F2.keep b o e), F2.above⟩
      obtain ⟨oc2, hoc2, hdc2⟩ := hc₂
      have hyl : ys.length ≤ 60 := by
        have := congrArg List.length ey
        rw [List.length_map] at this
        rw [this]
        exact waysOf_few (by rw [List.length_take]; omega)
      refine ways_assign w A hh L z g X T F3 ⟨oc2, t, hoc2, hdc2, hcg⟩ (old := ys) (Wl := D) (kl := k) e1 (fun x hx => ?_) hyl (up D _ (nl _ _ _ hD) (nc _ _ _ hD) hD) ?_
      · obtain ⟨⟨l1, l2⟩, l3, _⟩ := hlive x hx
        refine ⟨⟨up _ _ (nl _ _ _ l1) (nc _ _ _ l1) l1, l2⟩, l3, ?_⟩
        have hm : x.ns ∈ waysOf (ns.take i) := by rw [← ey]; exact List.mem_map_of_mem hx
        rw [waysOf_lens _ _ hm, List.length_take]; omega
      · intro h₃ tk₃ D' zs k' hn₃ up3 hD' hsD' hlive' ez
        have gnone : ∀ b, h₂.get? b = none → g.get? b = none ∧ b ≠ L := fun b e => by
          refine ⟨?_, fun q => ?_⟩
          · cases q : g.get? b with
            | none => rfl
            | some o => have := F3.keep b o q; rw [e] at this; cases this
          · obtain ⟨_, _, _, e', _⟩ := F3.ns
            rw [q] at e
            have e'' : h₂.get? L = some _ := e'
            rw [e] at e''; cases e''
        have upA : ∀ b o, b ≠ L → b ≠ L + 1 → b ≠ I → h.get? b = some o → h₃.get? b = some o := fun b o n1 n2 n3 e => up3 b o n1 (up b o n3 n2 e)
        refine ⟨ns.length - (i + 1), by omega, i + 1, h₃, _, D', zs, k', _, rfl, hlt, rfl, ⟨hn₃, fun b o e => up3 b o (fun q => by rw [q, hgL0] at e; cases e) (F3.keep b o e), F3.above⟩, if_pos rfl, hD', (gnone _ hsD').1, (gnone _ hsD').2, fun x hx => ?_, ?_, ⟨oc2, _, up3 _ _ (Ne.symm hLc) hoc2, hdc2⟩, ?_, ?_, fun b o n1 n2 n3 e => upA b o n1 n2 n3 (kp b o n1 n2 n3 e)⟩
        · obtain ⟨l1, l2, l3⟩ := hlive' x hx
          exact ⟨l1, (gnone _ l2).1, (gnone _ l2).2, l3⟩
        · rw [ez, ey, ← waysOf_snoc, List.take_add_one, hz]; rfl
        · exact hS₁.1.at fun o e => up3 I o hIL (hs₂.extBut I o hIc e)
        · exact hst2.at fun o e => upA R o hRL hRc hRI e
    · obtain rfl : i = ns.length := by omega
      rw [List.take_length] at ey
      refine W.done _ _ _ ⟨hvl ▸ hst1, hst2⟩ fun h₁ tk₁ hk₁ => ?_
      have hIh : ∃ o : Obj, h.get? I = some o ∧ o.cls = .type "list_iterator" := let ⟨o, a, b, _⟩ := hst1; ⟨o, a, b⟩
      obtain ⟨oI, hoI, hcI⟩ := hIh
      have hcl := cls_ne hcI scl3
      have nl : ∀ b its n, h.get? b = some (listOf its n) → b ≠ I := fun b its n e q => by
        rw [q, hoI] at e
        cases e
        exact hcl rfl
      have hk : ∀ b o, b ≠ I → h.get? b = some o → h₁.get? b = some o := fun b o n e => hk₁ b o (by simpa using n) e
      refine wpAny_execs_nil (done h₁ _ D ys k m' ⟨F1.ns.at' fun o e => hk L o (Ne.symm hIL) e, fun b o e => hk b o (fun q => by rw [q, hIg] at e; cases e) (F1.keep b o e), F1.above⟩ e1 (hk D _ (nl _ _ _ hD) hD) hDg hDL (fun x hx => ?_) ey fun b o n1 n2 n3 e => hk b o n3 (kp b o n1 n2 n3 e))
      obtain ⟨⟨l1, l2⟩, l3, l4, l5⟩ := hlive x hx
      exact ⟨⟨hk _ _ (nl _ _ _ l1) l1, l2⟩, l3, l4, l5⟩
  · rw [List.mem_singleton.mp hx]
    exact ⟨⟨hW0, .nil⟩, hgW, hWL, hDW⟩
-- ways6
def ledOf (ys : List WI) : List (Addr × Obj) := ys.map fun x => (x.a, listOf x.vs.toArray x.n)
theorem ways_spec (w : World) (news : List (Addr × Obj)) (R : Addr) (vs : List Value) (ns : List Int) (k : Nat) (hR : (R, listOf vs.toArray k) ∈ news) (hi : IntsAre vs ns) (hlen : ns.length ≤ 3) :
    Ctr w 124 news [.ref R] 40 200 (fun L K => ∀ D ys k', (∀ x ∈ ys, IntsAre x.vs x.ns) → ys.map WI.ns = waysOf ns → K (.ref D) ((D, listOf (refsOf ys).toArray k') :: (ledOf ys ++ news))) := by
  have hR0 := hR
  unfold Ctr
  k_fill
  intro p loose mean mg mb dp un gd cn cs a' ccd cl outer A₀ base h₀ L m' s Q E B' F X' NN T hk hd hu h51 hret
  (refine wpAny_call ?_; k_dflt (refine' code_defC ?k1 ?k2 ?k3 ?k4 ?k5 ?kA ?kF ?kK ?k6 ?k7 ?k8 ?k9 ?kB ?kD ?_ ?c2 ?c3 ?c4; (case kA => exact rfl); (case kF => exact rfl); (case kK => first | exact rfl | assumption); (case k1 => k_asm); (case k2 => k_asm); (case k3 => k_asm); (case k4 => k_asm); (case k5 => k_asm); (case k6 => k_is); (case k7 => k_is); (case k8 => ktr_room); (case k9 => first | exact BindsTo.of_eq rfl | exact binds_K (by k_in) rfl (by k_is) rfl rfl rfl | fail "k_enter: no rule for these arguments"); (case kB => exact rfl); (case kD => decide +kernel); (case c2 => exact rfl); (case c3 => exact rfl); (case c4 => exact rfl); k_whole; intro zg' zL' zh' ztk' zcells' zFG' zF' zN' zY' zB' zX' zT' zl1; have zlo' := Lo.mk zl1; have zhLL := lt_frames zFG' zF'; (try k_lt zl1); k_cells zY'; (try simp only [List.cons_append, List.nil_append] at zN'); (try dsimp only); k_unmd; k_fold))
  rename_i o00 d00
  k_with_none
  k_with "my for2" => refine wpAny_For ?_
  k_with "my iter" => refine Halt.of ?_
  k_steps
  unfold Halt
  (with_reducible rename Fr _ _ _ _ => FF)
  (with_reducible rename News _ _ _ _ => N2)
  (with_reducible rename _ ∧ _ => lA)
  rename_i lb1 hb1 lB1 lb2 hb2 hb3
  have nD0 := N2 _ (.head _)
  have nW0 := N2 _ (.tail _ (.head _))
  have nC := N2 _ (.tail _ (.tail _ (.head _)))
  have nR := N2 _ (.tail _ (.tail _ (.tail _ hR0)))
  have hLR : Heap.IsList _ R vs.toArray := ⟨_, nR.1, rfl, k, rfl⟩
  have hRlt : @LT.lt Nat _ R zL' := zl1 _ hR0
  refine wpAny_pyIter_list hLR ?_
  have hnI := next_is_new FF
  have up : ∀ b o, hb3.get? b = some o → (hb3.push { cls := .type "list_iterator", data := .fields #[.ref R, .int 0 0] }).get? b = some o := fun b o e => Heap.get?_push_of_some _ e
  have ltR := Heap.lt_size nR.1
  have ltC := Heap.lt_size nC.1
  have ltL := FF.ns.lt
  dsimp only at nD0 nW0 nC nR ltR ltC
  dsimp only
  obtain ⟨I, hI⟩ : ∃ I, I = hb3.objs.size := ⟨_, rfl⟩
  have hIi : (hb3.push { cls := .type "list_iterator", data := .fields #[.ref R, .int 0 0] }).IsListIter I R 0 := by rw [hI]; exact ⟨_, Heap.get?_push_size _ rfl, rfl, rfl⟩
  rw [← hI] at ltR ltC ltL hnI ⊢
  refine ways_loop w _ rfl zL' zg' (by k_asm) (by k_asm) (FF.keeps up) hi hlen hIi (hLR.at fun o e => up _ o e) (Nat.ne_of_gt ltL) (Nat.ne_of_gt ltC) (Nat.ne_of_lt hRlt) (Nat.ne_of_lt (Nat.lt_succ_of_lt hRlt)) hnI (Nat.ne_of_lt ltR) ⟨_, _, up _ _ nC.1, d00⟩ nC.2.2 (D0 := lb2) (W0 := lb1) (if_pos rfl) (up _ _ nD0.1) (up _ _ nW0.1) nD0.2.2 nW0.2.2 nD0.2.1 nW0.2.1 (Nat.ne_of_lt lA.1) ?_
  intro h9 tk9 D ys k9 m9 F8 e9 hD9 hgD hDL hys ey kp
  have F9 := Fr.known0 F8 e9
  have N9 : News zg' zL' h9 ((D, listOf (refsOf ys).toArray k9) :: (ledOf ys ++ news)) := fun q hq => by
    rcases List.mem_cons.mp hq with rfl | hq
    · exact ⟨hD9, hDL, hgD⟩
    · rcases List.mem_append.mp hq with hq | hq
      · obtain ⟨x, hx, rfl⟩ := List.mem_map.mp hq
        obtain ⟨l1, l2, l3, l4⟩ := hys x hx
        exact ⟨l1.1, l3, l2⟩
      · have nq := N2 q (.tail _ (.tail _ (.tail _ hq)))
        have lq := zl1 _ hq
        exact ⟨kp _ _ nq.2.1 (Nat.ne_of_lt (Nat.lt_succ_of_lt lq)) (fun e => by have := Heap.lt_size nq.1; rw [e, hI] at this; exact Nat.lt_irrefl _ this) (up _ _ nq.1), nq.2.1, nq.2.2⟩
  clear N2 FF
  dsimp only
  k_with_none
  k_steps
  exact hret D ys k9 (fun x hx => (hys x hx).1.2) ey _ _ (by k_asm) (by k_asm)
-- loops3
def IsLst (o : Obj) : Prop := o.cls = .type "list_iterator" ∧ ∃ (l : Addr) (i : Int), o.data = .fields #[.ref l, .int i 0]
theorem isLst_list (its : Array Value) (n : Nat) : ¬ IsLst (listOf its n) := fun h => absurd (Value.type.inj h.1) (by decide)
section
variable {prog : Program} {w : World} {A : Around} {E : Value → Shared → Prop} {s : Shared} {env : Env} {h₀ : Heap} {x : Str} {body : List Stmt} {Q : Flow → Shared → Prop}
theorem list_loop {σ : Type} {ax : Addr} {lo : Obj} {vs : List Value} {n : Nat} {m₀ : Str → Option Value} (Led : σ → List (Addr × Obj)) (ps : σ → List (Str × Value)) (stored : List Str) (P : Nat → σ → Prop) (c₀ : σ)
    (hh : A.handled = none) (F : Fr h₀ env.locals s.heap m₀) (N : News h₀ env.locals s.heap (Led c₀)) (hm : ∀ c, (ax, lo) ∈ Led c) (hc : lo.cls = .type "list") (hd : lo.data = .seq vs.toArray n)
    (hk : ∀ p ∈ ps c₀, m₀ p.1 = some p.2) (hp : P 0 c₀)
    (turn : ∀ (c : σ) (I : Addr) (i : Nat) (v : Value) (u : Str → Option Value) (it : Obj) h tk, IsLst it → @LT.lt Nat _ env.locals I → vs[i]? = some v → P i c →
      Fr h₀ env.locals h (fun y => if y = x then some v else kstB (fun q => if stored.contains q then u q else m₀ q) (ps c) y) → News h₀ env.locals h ((I, it) :: Led c) →
      wpAny (model prog w) A (execs body env) (Turn h₀ env.locals { s with heap := h, toks := tk } I it (Kept Led ps x stored m₀ (P (i + 1))) Q) E { s with heap := h, toks := tk })
    (done : ∀ (c : σ) (u : Str → Option Value) h tk, P vs.length c → Fr h₀ env.locals h (fun y => if y = x then u y else kstB (fun q => if stored.contains q then u q else m₀ q) (ps c) y) → News h₀ env.locals h (Led c) → Q .next { s with heap := h, toks := tk }) :
    wpAny (model prog w) A (pyIter (.ref ax)) (fun it s₂ => LoopAtV prog w A h₀ env x body Q E it s₂) E s := by
  have hax := N _ (hm c₀)
  have hl : s.heap.IsList ax vs.toArray := ⟨lo, hax.1, hc, n, hd⟩
  have hlt : ax < s.heap.objs.size := Heap.lt_size hax.1
  have hne : ax ≠ s.heap.objs.size := Nat.ne_of_lt hlt
  refine wpAny_pyIter_list hl ?_
  have W := Walks.list (prog := prog) (w := w) hh s.heap.objs.size ax hne vs.toArray
  have hnew := next_is_new F
  have hlen : vs.toArray.size = vs.length := by simp
  rw [hlen] at W
  refine ⟨_, _, _, vs.length, _, _, m₀, Led c₀, fun i m nx => Kept Led ps x stored m₀ (P i) m nx, rfl, W, ?_, ?_, ?_, ⟨⟨_, Heap.get?_push_size _ rfl, rfl, rfl⟩, hl.at fun o e => Heap.get?_push_of_some _ e⟩, F.push _, (fun p hp => ⟨Heap.get?_push_of_some _ (N p hp).1, (N p hp).2⟩), ⟨c₀, rfl, hk, fun _ _ _ _ => rfl, hp⟩, ?_, ?_⟩
  · intro hmm
    rcases List.mem_cons.mp hmm with e | hmm
    · exact absurd F.ns.lt (e ▸ Nat.lt_irrefl _)
    · exact hax.2.1 (List.mem_singleton.mp hmm).symm
  · intro b hb
    rw [List.mem_singleton.mp hb]
    exact hnew
  · intro p hp hI
    exact absurd (Heap.lt_size (N p hp).1) ((List.mem_singleton.mp hI) ▸ Nat.lt_irrefl _)
  · rintro i v m₁ news₁ s₁ own ⟨hh', tk', rfl⟩ hin hP ⟨c, rfl, h1, h2, h3⟩ hoff hown hget hall hst F₁ N₁
    obtain ⟨it, hit, hic, hid⟩ := hst.1
    have hmemI := hall s.heap.objs.size (List.mem_cons_self ..) hnew _ hit
    have N₂ : News h₀ env.locals hh' ((s.heap.objs.size, it) :: Led c) := fun p hp => by
      rcases List.mem_cons.mp hp with rfl | hp
      · exact N₁ _ (List.mem_append_left _ hmemI)
      · exact N₁ _ (List.mem_append_right _ hp)
    refine wpAny_mono (turn c _ i v m₁ it hh' tk' ⟨hic, _, _, hid⟩ F.ns.lt (by simpa using hP) h3 (kst_fr h1 h2 F₁) N₂) (fun f s₂ p => ?_) fun _ _ e => e
    have fin : UnrEnd h₀ env.locals { s with heap := hh', toks := tk' } s.heap.objs.size it (Kept Led ps x stored m₀ (P (i + 1))) s₂ →
        LoopStepU h₀ env.locals [s.heap.objs.size] own (fun m nx => Kept Led ps x stored m₀ (P (i + 1)) m nx) { s with heap := hh', toks := tk' } .next s₂ := by
      rintro ⟨h', tk, m', news', e, F', N', ho, r⟩
      refine ⟨rfl, h', tk, m', news', e, F', fun p hp => ?_, fun p hp hI => ho p hp (List.mem_singleton.mp hI), r⟩
      rcases List.mem_append.mp hp with hp | hp
      · have h5 : hh'.get? p.1 = some p.2 := hget p hp
        rcases List.mem_cons.mp (hown p hp) with h4 | h4
        · rw [h4, hit] at h5
          have h6 : p = (s.heap.objs.size, it) := Prod.ext h4 (Option.some.inj h5).symm
          rw [h6]; exact N' _ (List.mem_cons_self ..)
        · have h1' : p.1 = ax := List.mem_singleton.mp h4
          have h3' : p = (ax, lo) := by
            rw [h1', (N₁ _ (List.mem_append_right _ (hm c))).1] at h5
            exact Prod.ext h1' (Option.some.inj h5).symm
          obtain ⟨c', e', _⟩ := r
          rw [h3']; exact N' _ (List.mem_cons_of_mem _ (by rw [e']; exact hm c'))
      · exact N' _ (List.mem_cons_of_mem _ hp)
    cases f with
    | ret v => exact .ret p
    | brk => exact .brk p
    | next => exact .next (fin p)
    | cont => exact .cont (fin p)
  · rintro h' tk m' news' F' N' _ ⟨c, rfl, h1, h2, h3⟩
    exact done c m' h' tk h3 (kst_frOut h1 h2 F') N'
end
-- plain13
theorem abv_range : ∀ (xs : List Int) (h : Int), 0 ≤ abv h xs ∧ abv h xs ≤ xs.length
  | [], h => by simp [abv]
  | x :: xs, h => by
    have ih := abv_range xs (h + x)
    show 0 ≤ (if 0 < h + x then 1 else 0) + abv (h + x) xs ∧ (if 0 < h + x then 1 else 0) + abv (h + x) xs ≤ ((xs.length + 1 : Nat) : Int)
    split <;> omega
theorem judged_above (xs : List Int) : 0 ≤ (judged xs).1 ∧ (judged xs).1 ≤ xs.length := by
  unfold judged
  rw [judged_abv]
  have := abv_range xs 0
  omega
theorem hp_range : ∀ (xs : List Int) (h hi p : Int) (k : Nat), 0 ≤ p → p ≤ k → 0 ≤ (hp h hi p k xs).2 ∧ (hp h hi p k xs).2 ≤ k + xs.length
  | [], h, hi, p, k, h1, h2 => by simp [hp]; omega
  | x :: xs, h, hi, p, k, h1, h2 => by
    have ih := hp_range xs (h + x) (if hi < h + x then h + x else hi) (if hi < h + x then (k : Int) + 1 else p) (k + 1) (by split <;> omega) (by split <;> omega)
    show 0 ≤ (hp (h + x) _ _ (k + 1) xs).2 ∧ (hp (h + x) _ _ (k + 1) xs).2 ≤ (k : Int) + ((xs.length + 1 : Nat) : Int)
    omega
theorem judged_place (xs : List Int) : 0 ≤ (judged xs).2.1 ∧ (judged xs).2.1 ≤ xs.length := by
  unfold judged
  rw [judged_hp]
  have := hp_range xs 0 0 0 0 (by omega) (by omega)
  omega
theorem waysOf_mem : ∀ ns : List Int, Small ns → ∀ w ∈ waysOf ns, Small w := rev_ind (fun _ w hw => by
    rw [show waysOf [] = [[]] from rfl] at hw
    rw [List.mem_singleton.mp hw]
    exact fun _ h => nomatch h) fun ns z ih hs w hw => by
  rw [waysOf_snoc, waysStep_put] at hw
  obtain ⟨v, hv, hw⟩ := List.mem_flatMap.mp hw
  have h1 := ih (small_left hs) v hv
  have hz := hs z (List.mem_append_right _ (.head _))
  obtain ⟨k, hk, hw⟩ := List.mem_flatMap.mp hw
  simp only [put2, List.mem_cons, List.not_mem_nil, or_false] at hw
  intro y hy
  rcases hw with rfl | rfl
  · simp only [List.mem_append, List.mem_cons, List.not_mem_nil, or_false] at hy
    rcases hy with (hy | rfl) | hy
    · exact h1 y (List.mem_of_mem_take hy)
    · exact hz
    · exact h1 y (List.mem_of_mem_drop hy)
  · simp only [List.mem_append, List.mem_cons, List.not_mem_nil, or_false] at hy
    rcases hy with (hy | rfl) | hy
    · exact h1 y (List.mem_of_mem_take hy)
    · rw [Int.natAbs_neg]; exact hz
    · exact h1 y (List.mem_of_mem_drop hy)
-- comp1
theorem ints_nth : ∀ {vs : List Value} {ns : List Int} {i : Nat} {v : Value}, IntsAre vs ns → vs[i]? = some v → ∃ z t, v = .int z t ∧ ns[i]? = some z
  | _, _, 0, _, .cons z t r, e => ⟨z, t, (Option.some.inj e).symm, rfl⟩
  | _, _, i + 1, _, .cons z t r, e => by
    obtain ⟨z', t', h1, h2⟩ := ints_nth (i := i) r (by simpa using e)
    exact ⟨z', t', h1, by simpa using h2⟩
section
variable {prog : Program} {w : World} {A : Around} {s₁ : Shared} {h₀ : Heap} {L : Addr} {m : Str → Option Value} {env : Env} {elt : Expr} {x : Str} {scope : Scope} {cl : List (Str × Addr)} {Fin : Shared → List Value → List (Addr × Obj) → Prop}
def EltIs (prog : Program) (w : World) (A : Around) (env : Env) (elt : Expr) (x : Str) (scope : Scope) (cl : List (Str × Addr)) (f : Int → Int) : Prop :=
  ∀ (C : Addr) (m₂ : Str → Option Value) (s : Shared) (z : Int) (t : Tok) (E' Q : Value → Shared → Prop), s.heap.Ns C m₂ → m₂ x = some (.int z t) → (∀ t' tk', Q (.int (f z) t') { s with toks := tk' }) → wpAny (model prog w) A (eval elt (compEnvC scope cl C env)) Q E' s
theorem comp_ints {ax : Addr} {vs : List Value} {ns : List Int} {k : Nat} {news : List (Addr × Obj)} {f : Int → Int} (hh : A.handled = none) (F : Fr h₀ L s₁.heap m) (N : News h₀ L s₁.heap news) (hm : (ax, listOf vs.toArray k) ∈ news) (hi : IntsAre vs ns) (hn : ns.length ≤ 100)
    (he : EltIs prog w A env elt x scope cl f) (fin : ∀ g' ys, IntsAre ys (ns.map f) → Fin { s₁ with heap := g' } ys news) : LCg.CompSrc prog w A h₀ L m env elt x scope cl Fin (.ref ax) s₁ := by
  have hvl : vs.toArray.size = ns.length := by rw [List.size_toArray, hi.length]
  refine LCg.CompSrc.ledger hh F N hm (by rw [hvl, sizeLine_eq]; omega) fun g' => ?_
  rw [hvl]
  have key : ∀ rem i ys, i + rem = ns.length → IntsAre ys ((ns.take i).map f) → LCg.CompRest prog w A h₀ L m env elt x scope cl { s₁ with heap := g' } (LCg.SrcAt h₀ ax vs.toArray) (fun i v => vs.toArray[i]? = some v) (Fin { s₁ with heap := g' }) rem i ys news := by
    intro rem
    induction rem with
    | zero =>
      intro i ys e hy
      rw [List.take_of_length_le (by omega)] at hy
      exact LCg.CompRest.zero (fin g' ys hy)
    | succ rem ih =>
      intro i ys e hy
      refine LCg.CompRest.succ fun v I oI C oC D m₂ h tk E' hP hNs hx F' N' off ne => ?_
      obtain ⟨z, t, rfl, hz⟩ := ints_nth (i := i) hi (by simpa using hP)
      have nC := (N' (C, oC) (.tail _ (.head _))).1
      refine he C m₂ _ z t E' _ (hNs.ns nC) hx fun t' tk' => ?_
      refine LCg.CompEnd.intro (s₁ := { s₁ with heap := h, toks := tk }) F' N' news (fun p hp => hp) off (.inr ⟨_, hm, rfl, _, rfl⟩) (ih (i + 1) _ (by omega) ?_)
      rw [List.take_add_one, hz, List.map_append]
      exact hy.append (.cons _ _ .nil)
  exact key ns.length 0 [] (by omega) .nil
end
section
variable {prog : Program} {w : World} {A : Around} {env : Env} {scope : Scope} {cl : List (Str × Addr)} {x : Str} {p₁ p₂ pos : Pos} {kk : Nat}
theorem el_sub (hk : scope.kind = .function) (hx : scope.names.lookup x = some .local) (hd : (x == ("__debug__" : Str)) = false) : EltIs prog w A env (.BinOp (.Name x p₁) .Sub (.Constant (.int 128) kk p₂) pos) x scope cl (fun z => z - 128) := fun C m₂ s z t E' Q hn hm h =>
  wpAny_BinOp (wpAny_Name (wpAny_loadName_local hk (lookup_relabel_local hx) hn hm (wpAny_Constant_int (sub_int (h _ _)))) hd)
theorem el_add (hk : scope.kind = .function) (hx : scope.names.lookup x = some .local) (hd : (x == ("__debug__" : Str)) = false) : EltIs prog w A env (.BinOp (.Name x p₁) .Add (.Constant (.int 128) kk p₂) pos) x scope cl (fun z => z + 128) := fun C m₂ s z t E' Q hn hm h =>
  wpAny_BinOp (wpAny_Name (wpAny_loadName_local hk (lookup_relabel_local hx) hn hm (wpAny_Constant_int (add_int (h _ _)))) hd)
end
-- comp2
section
variable {prog : Program} {w : World} {A : Around} {s₁ : Shared} {h₀ : Heap} {L : Addr} {m : Str → Option Value} {env : Env} {elt : Expr} {x : Str} {scope : Scope} {cl : List (Str × Addr)} {Fin : Shared → List Value → List (Addr × Obj) → Prop}
theorem comp_intsF {ax : Addr} {vs : List Value} {ns : List Int} {k : Nat} {news : List (Addr × Obj)} {f : Int → Int} (hh : A.handled = none) (F : Fr h₀ L s₁.heap m) (N : News h₀ L s₁.heap news) (hm : (ax, listOf vs.toArray k) ∈ news) (hi : IntsAre vs ns) (hn : ns.length ≤ 100)
    (he : ∀ (I : Addr) (oI : Obj) (C : Addr) (oC : Obj) (D : Addr) (ys : List Value) (m₂ : Str → Option Value) (s : Shared) (z : Int) (t : Tok) (E' Q : Value → Shared → Prop), LCg.NsObj oC m₂ → m₂ x = some (.int z t) → z ∈ ns → Fr h₀ L s.heap m → News h₀ L s.heap ((I, oI) :: (C, oC) :: (D, LCg.lst ys) :: news) →
      (∀ t' tk', Q (.int (f z) t') { s with toks := tk' }) → wpAny (model prog w) A (eval elt (compEnvC scope cl C env)) Q E' s)
    (fin : ∀ g' ys, IntsAre ys (ns.map f) → Fin { s₁ with heap := g' } ys news) : LCg.CompSrc prog w A h₀ L m env elt x scope cl Fin (.ref ax) s₁ := by
  have hvl : vs.toArray.size = ns.length := by rw [List.size_toArray, hi.length]
  refine LCg.CompSrc.ledger hh F N hm (by rw [hvl, sizeLine_eq]; omega) fun g' => ?_
  rw [hvl]
  have key : ∀ rem i ys, i + rem = ns.length → IntsAre ys ((ns.take i).map f) → LCg.CompRest prog w A h₀ L m env elt x scope cl { s₁ with heap := g' } (LCg.SrcAt h₀ ax vs.toArray) (fun i v => vs.toArray[i]? = some v) (Fin { s₁ with heap := g' }) rem i ys news := by
    intro rem
    induction rem with
    | zero =>
      intro i ys e hy
      rw [List.take_of_length_le (by omega)] at hy
      exact LCg.CompRest.zero (fin g' ys hy)
    | succ rem ih =>
      intro i ys e hy
      refine LCg.CompRest.succ fun v I oI C oC D m₂ h tk E' hP hNs hx F' N' off ne => ?_
      obtain ⟨z, t, rfl, hz⟩ := ints_nth (i := i) hi (by simpa using hP)
      refine he I oI C oC D ys m₂ _ z t E' _ hNs hx (List.mem_of_getElem? hz) F' N' fun t' tk' => ?_
      refine LCg.CompEnd.intro (s₁ := { s₁ with heap := h, toks := tk }) F' N' news (fun p hp => hp) off (.inr ⟨_, hm, rfl, _, rfl⟩) (ih (i + 1) _ (by omega) ?_)
      rw [List.take_add_one, hz, List.map_append]
      exact hy.append (.cons _ _ .nil)
  exact key ns.length 0 [] (by omega) .nil
end
-- law1
def lawBody : List Stmt := (gFn (gSt 24)).1
def lawScope : Scope := (gFn (gSt 24)).2
abbrev lenv (L fa : Addr) (cd : Value) : Env := envOfC (Str.ofString "law") lawScope L fa cd
theorem slice3_to {w : World} {prog : Program} {A : Around} {h₀ : Heap} {L : Addr} {m : Str → Option Value} {s : Shared} {news : List (Addr × Obj)} {E : Value → Shared → Prop} {l : Addr} {vs : List Value} {ns : List Int} {k : Int} {t1 t2 t3 : Tok} {value slice : Expr} {ops : List Value} {Q : Value → Shared → Prop}
    (F : Fr h₀ L s.heap m) (N : News h₀ L s.heap news) (hl : s.heap.IsList l vs.toArray) (hi : IntsAre vs ns) (hz : ns.length ≤ 63)
    (h : ∀ D ws h', Fr h₀ L h' m → News h₀ L h' ((D, listOf (List.toArray ws) 0) :: news) → (∀ p ∈ news, p.1 < D) → IntsAre ws (pickNums ns (some k) (some 60) (some 3)) → (pickNums ns (some k) (some 60) (some 3)).length ≤ 63 → Q (.ref D) { s with heap := h' })
    (hs : subscripted slice false (.ref l) (.ref s.heap.objs.size) = operate ops (getItem (.ref l) (.ref s.heap.objs.size))) (ht : ∀ r, letTemporaryGo value (.ref l) r = pure ()) :
    wpAny (model prog w) A (subscriptTail value slice (.ref l) (.ref s.heap.objs.size)) Q E { s with heap := s.heap.push { cls := .type "slice", data := .fields #[.int k t1, .int 60 t2, .int 3 t3] } } := by
  have hp := hi.pick (some k) (some 60) (some 3)
  refine kmk_slice3_lit F N hl (.int _ _) (.int _ _) (.int _ _) (by decide) rfl (fun D h' F' N' l1 => h D _ h' F' N' l1 hp ?_) hs ht (by rw [List.size_toArray, hi.length, sizeLine_eq]; omega)
  have := slicePick_size_le vs.toArray (some k) (some 60) (some 3)
  have e : vs.toArray.size = ns.length := by rw [List.size_toArray, hi.length]
  rw [← hp.length, Array.length_toList]
  exact Nat.le_trans this (by rw [e]; exact hz)
local macro_rules | `(tactic| walk_at "subscriptTail Name Slice ref ref") => `(tactic| k_dflt (k_extra "my slice"))
theorem law_s1 (w : World) (fa : Addr) (cd : Value) (L : Addr) (g : Heap) (R : Addr) (vs : List Value) (script : List Int) (hlen : script.length ≤ 63) {p : Program} {loose : List Str} {mean : ExcName → Option Value} {mg mb : Str → Option Value} (o1 o2 : Obj) {s : Shared} {m : Str → Option Value} {Q : Flow → Shared → Prop} {E : Value → Shared → Prop}
    (B : Below callerA g [] g) (X : (hd.heap_1 w.params).In g) (T : Top p loose mean mg mb g) (hL : g.IsList R vs.toArray) (hI : IntsAre vs script) (F : Fr g L s.heap m) (N : News g L s.heap [(L + 1 + 1, o2), (L + 1, o1), (51, tabObj #[]), (44, tabObj #[])])
    (e1 : o1.data = .cell (some (.ref R))) (l0 : @LT.lt Nat _ 51 L ∧ @LT.lt Nat _ 44 L)
    (h : ∀ D ys ds n h' tk', IntsAre ys ds → ds.length = 3 → Fr g L h' (fun z => if z = Str.ofString "draws" then some (Value.ref D) else m z) → News g L h' [(D, listOf ys.toArray n), (L + 1 + 1, o2), (L + 1, o1), (51, tabObj #[]), (44, tabObj #[])] → @Ne Nat (L + 1 + 1) D ∧ @Ne Nat (L + 1) D ∧ @Ne Nat 51 D ∧ @Ne Nat 44 D →
      wpAny (model PySem.Challenge.rw_ul0005_01.row.prog w) (callerA.deeper (lenv L fa cd)) (execs (lawBody.drop 1) (lenv L fa cd)) Q E { s with heap := h', toks := tk' }) :
    wpAny (model PySem.Challenge.rw_ul0005_01.row.prog w) (callerA.deeper (lenv L fa cd)) (execs lawBody (lenv L fa cd)) Q E s := by
  refine (?_ : wpAny _ _ (execs (lawBody.take 1 ++ lawBody.drop 1) _) _ _ _)
  generalize lawBody.drop 1 = rest at h ⊢
  revert X
  k_fill
  intro X
  conv in (lawBody.take 1) => whnf
  dsimp only [List.cons_append, List.nil_append, List.append]
  k_with_none
  k_with "my call" => refine Halt.of ?_
  k_with "my slice" => (refine' slice3_to ?F ?N ?l hI hlen ?_ ?s ?t; (case F => k_asm); (case N => k_asm); (case l => exact Fr.lst (by k_asm) (by k_asm)); (case s => with_unfolding_all rfl); (case t => kmk_pure); k_whole; intro D' ws' h' F' N' l1 hI' hL'; (try k_lt l1))
  k_steps
  (with_reducible rename IntsAre _ (List.map _ _) => HI)
  exact h _ _ _ _ _ _ HI (by rw [List.length_map]; rfl) (by k_asm) (by k_asm) (by k_asm)
-- law2
/-- a size: no nought, 120 at most -/
def IsSz (z : Int) : Prop := z ≠ 0 ∧ z.natAbs ≤ 120
theorem isSz_of (d : Int) : IsSz (if (d.fdiv 120).fmod 2 = 0 then 1 + d.fmod 120 else -1 - d.fmod 120) := by
  have h := Int.fmod_nonneg_of_pos d (show (0 : Int) < 120 by decide)
  have h2 := Int.fmod_lt_of_pos d (show (0 : Int) < 120 by decide)
  unfold IsSz
  split <;> omega
theorem pick_a {g h : Heap} {L : Addr} {A e3 e2 e1 z d : Addr × Obj} {r : List (Addr × Obj)} (N : News g L h (A :: e3 :: e2 :: e1 :: z :: d :: r)) : News g L h (e1 :: z :: r) := news_sub N fun p hp => by
  simp only [List.mem_cons] at hp ⊢
  rcases hp with h | h | h <;> simp [h]
theorem pick_b {g h : Heap} {L : Addr} {A e3 e2 e1 z d : Addr × Obj} {r : List (Addr × Obj)} (N : News g L h (A :: e3 :: e2 :: e1 :: z :: d :: r)) : News g L h (e2 :: z :: r) := news_sub N fun p hp => by
  simp only [List.mem_cons] at hp ⊢
  rcases hp with h | h | h <;> simp [h]
theorem pick_c {g h : Heap} {L : Addr} {A e3 e2 e1 z d : Addr × Obj} {r : List (Addr × Obj)} (N : News g L h (A :: e3 :: e2 :: e1 :: z :: d :: r)) : News g L h (e3 :: z :: r) := news_sub N fun p hp => by
  simp only [List.mem_cons] at hp ⊢
  rcases hp with h | h | h <;> simp [h]
theorem law_s2 (w : World) (fa : Addr) (cd : Value) (L : Addr) (g : Heap) {p : Program} {loose : List Str} {mean : ExcName → Option Value} {mg mb : Str → Option Value} (o1 o2 : Obj) {s : Shared} {m : Str → Option Value} {Q : Flow → Shared → Prop} {E : Value → Shared → Prop}
    (B : Below callerA g [] g) (X : (hd.heap_1 w.params).In g) (T : Top p loose mean mg mb g) {D : Addr} {ys : List Value} {ds : List Int} {n : Nat} (hI : IntsAre ys ds) (hl : ds.length = 3) (F : Fr g L s.heap (fun z => if z = Str.ofString "draws" then some (Value.ref D) else m z)) (N : News g L s.heap [(D, listOf ys.toArray n), (L + 1 + 1, o2), (L + 1, o1), (51, tabObj #[]), (44, tabObj #[])])
    (l0 : @LT.lt Nat _ 51 L ∧ @LT.lt Nat _ 44 L) (l1 : @Ne Nat (L + 1 + 1) D ∧ @Ne Nat (L + 1) D ∧ @Ne Nat 51 D ∧ @Ne Nat 44 D)
    (h : ∀ D Dz De zs ev a b c es n h' tk', Fr g L h' (fun z => if z = Str.ofString "ending" then some (Value.ref De) else if z = Str.ofString "sizes" then some (Value.ref Dz) else if z = Str.ofString "draws" then some (Value.ref D) else m z) → IntsAre zs [a, b, c] → IsSz a → IsSz b → IsSz c → IntsAre ev es → (es = [0, 7] ∨ es = [127, 7] ∨ es = []) →
      News g L h' [(De, listOf ev.toArray 0), (Dz, listOf zs.toArray n), (L + 1 + 1, o2), (L + 1, o1), (51, tabObj #[]), (44, tabObj #[])] → (@Ne Nat (L + 1 + 1) De ∧ @Ne Nat (L + 1) De ∧ @Ne Nat 51 De ∧ @Ne Nat 44 De) → (@Ne Nat (L + 1 + 1) Dz ∧ @Ne Nat (L + 1) Dz ∧ @Ne Nat 51 Dz ∧ @Ne Nat 44 Dz) → @Ne Nat Dz De →
      wpAny (model PySem.Challenge.rw_ul0005_01.row.prog w) (callerA.deeper (lenv L fa cd)) (execs (lawBody.drop 3) (lenv L fa cd)) Q E { s with heap := h', toks := tk' }) :
    wpAny (model PySem.Challenge.rw_ul0005_01.row.prog w) (callerA.deeper (lenv L fa cd)) (execs (lawBody.drop 1) (lenv L fa cd)) Q E s := by
  refine (?_ : wpAny _ _ (execs ((lawBody.drop 1).take 2 ++ lawBody.drop 3) _) _ _ _)
  generalize lawBody.drop 3 = rest at h ⊢
  revert X
  k_fill
  intro X
  conv in ((lawBody.drop 1).take 2) => (delta lawBody gFn gSt Challenge.pw_ul0005_01; simp only [List.getD_cons_succ, List.getD_cons_zero, List.drop_succ_cons, List.drop_zero, List.take_succ_cons, List.take_zero])
  dsimp only [List.cons_append, List.nil_append, List.append]
  k_with_none
  k_with "my call" => refine Halt.of ?_
  k_steps
  all_goals (
    (with_reducible rename IntsAre _ (List.map _ _) => HI)
    (with_reducible rename Fr _ _ _ _ => F9)
    (with_reducible rename News _ _ _ _ => N9)
    (with_reducible rename @LT.lt Nat _ _ _ ∧ @LT.lt Nat _ _ _ ∧ @LT.lt Nat _ _ _ ∧ @LT.lt Nat _ _ _ ∧ @LT.lt Nat _ _ _ ∧ @LT.lt Nat _ _ _ ∧ @LT.lt Nat _ _ _ ∧ @LT.lt Nat _ _ _ ∧ @LT.lt Nat _ _ _ => l9)
    (with_reducible rename @Ne Nat D _ ∧ _ => o9)
    obtain ⟨x, y, z, rfl⟩ : ∃ x y z, ds = [x, y, z] := by
      match ds, hl with
      | [x, y, z], _ => exact ⟨x, y, z, rfl⟩
    simp only [List.map_cons, List.map_nil] at HI)
  · exact h D _ _ _ [.int 0 _, .int 7 _] _ _ _ [0, 7] _ _ _ F9 HI (isSz_of _) (isSz_of _) (isSz_of _) (.cons _ _ (.cons _ _ .nil)) (.inl rfl) (pick_a N9) (by refine ⟨?_, ?_, ?_, ?_⟩ <;> omega) o9.2 (by omega)
  · exact h D _ _ _ [.int 127 _, .int 7 _] _ _ _ [127, 7] _ _ _ F9 HI (isSz_of _) (isSz_of _) (isSz_of _) (.cons _ _ (.cons _ _ .nil)) (.inr (.inl rfl)) (pick_b N9) (by refine ⟨?_, ?_, ?_, ?_⟩ <;> omega) o9.2 (by omega)
  · exact h D _ _ _ [] _ _ _ [] _ _ _ F9 HI (isSz_of _) (isSz_of _) (isSz_of _) .nil (.inr (.inr rfl)) (pick_c N9) (by refine ⟨?_, ?_, ?_, ?_⟩ <;> omega) o9.2 (by omega)
-- plain14
theorem perm2 {q r y z : Int} (h : [y, z].Perm [q, r]) : (y = q ∧ z = r) ∨ (y = r ∧ z = q) := by
  have hy : y ∈ [q, r] := h.mem_iff.mp (.head _)
  simp only [List.mem_cons, List.not_mem_nil, or_false] at hy
  rcases hy with rfl | rfl
  · have := (List.perm_cons y).mp h
    exact .inl ⟨rfl, by simpa using this⟩
  · have := (List.perm_cons y).mp (h.trans (List.Perm.swap y q []))
    exact .inr ⟨rfl, by simpa using this⟩
theorem ok_swap12 {a b c d : Int} (h : Ok48 [a, b, c] d) : Ok48 [b, a, c] d := by
  unfold Ok48 at h ⊢
  simp only [S_swap12 _ a b c]
  exact h
theorem ok_swap23 {a b c d : Int} (h : Ok48 [a, b, c] d) : Ok48 [a, c, b] d := by
  unfold Ok48 at h ⊢
  simp only [S_swap23 _ a b c]
  exact h
theorem ok_neg {a b c d : Int} (h : Ok48 [a, b, c] d) : Ok48 [-a, b, c] d := by
  unfold Ok48 at h ⊢
  simp only [S_neg _ a b c]
  exact h
theorem ok_perm {p q r x y z d : Int} (h : [x, y, z].Perm [p, q, r]) (k : Ok48 [p, q, r] d) : Ok48 [x, y, z] d := by
  have hx : x ∈ [p, q, r] := h.mem_iff.mp (.head _)
  simp only [List.mem_cons, List.not_mem_nil, or_false] at hx
  rcases hx with rfl | rfl | rfl
  · rcases perm2 ((List.perm_cons x).mp h) with ⟨rfl, rfl⟩ | ⟨rfl, rfl⟩
    · exact k
    · exact ok_swap23 k
  · rcases perm2 ((List.perm_cons x).mp (h.trans (List.Perm.swap x p [r]))) with ⟨rfl, rfl⟩ | ⟨rfl, rfl⟩
    · exact ok_swap12 k
    · exact ok_swap23 (ok_swap12 k)
  · have e : [p, q, x].Perm [x, p, q] := ((List.Perm.swap x q []).cons p).trans (List.Perm.swap x p [q])
    rcases perm2 ((List.perm_cons x).mp (h.trans e)) with ⟨rfl, rfl⟩ | ⟨rfl, rfl⟩
    · exact ok_swap12 (ok_swap23 k)
    · exact ok_swap23 (ok_swap12 (ok_swap23 k))
theorem ok_abs {a b c d : Int} (k : Ok48 [(a.natAbs : Int), (b.natAbs : Int), (c.natAbs : Int)] d) : Ok48 [a, b, c] d := by
  have one : ∀ {a b c : Int}, Ok48 [(a.natAbs : Int), b, c] d → Ok48 [a, b, c] d := fun {a b c} h => by
    rcases (show (a.natAbs : Int) = a ∨ (a.natAbs : Int) = -a by omega) with e | e
    · rw [e] at h; exact h
    · rw [e] at h
      have := ok_neg h
      rw [Int.neg_neg] at this
      exact this
  have k1 := one k
  have k2 := one (ok_swap12 k1)
  have k3 := one (ok_swap12 (ok_swap23 (ok_swap12 k2)))
  exact ok_swap23 (ok_swap12 (k3))
theorem ok_any {a b c p q r : Int} (ha : IsSz a) (hb : IsSz b) (hc : IsSz c) (h : [p, q, r].Perm [(a.natAbs : Int), (b.natAbs : Int), (c.natAbs : Int)]) (ho : [p, q, r].Pairwise (· ≤ ·)) : Ok48 [a, b, c] (due3 p q r) := by
  have hp : p ∈ [(a.natAbs : Int), (b.natAbs : Int), (c.natAbs : Int)] := h.mem_iff.mp (.head _)
  simp only [List.mem_cons, List.not_mem_nil, or_false] at hp
  have h0 : 0 < p := by
    obtain ⟨a1, _⟩ := ha
    obtain ⟨b1, _⟩ := hb
    obtain ⟨c1, _⟩ := hc
    omega
  simp only [List.pairwise_cons, List.mem_cons, List.not_mem_nil, or_false, forall_eq_or_imp, forall_eq] at ho
  exact ok_abs (ok_perm h.symm (ok_sorted h0 ho.1.1 ho.2.1))
theorem dg_all : dg 8 (nlen 8 252250383) 252250383 = [15, 9, 9, 15] := by decide +kernel
-- law3
def rowOf (a b c : Int) (es : List Int) : List Int := [a, b, c] ++ (if es.take 1 = [0] then [c, c] else [])
theorem outs_row {a b c : Int} {es : List Int} (ha : IsSz a) (hb : IsSz b) (hc : IsSz c) (he : es = [0, 7] ∨ es = [127, 7] ∨ es = []) : ∃ fin, outs none ([a, b, c] ++ es) 5 = (rowOf a b c es, fin) ∧ (fin = true ∨ (rowOf a b c es).length = 5) ∧ (rowOf a b c es).length ≤ 5 := by
  obtain ⟨a0, a1⟩ := ha
  obtain ⟨b0, b1⟩ := hb
  obtain ⟨c0, c1⟩ := hc
  have a2 : ¬ a = 127 := by omega
  have b2 : ¬ b = 127 := by omega
  have c2 : ¬ c = 127 := by omega
  rcases he with rfl | rfl | rfl <;> simp [outs, rowOf, a0, b0, c0, a2, b2, c2]
theorem pick_d {g h : Heap} {L : Addr} {A e4 e3 e2 e1 : Addr × Obj} {r : List (Addr × Obj)} (N : News g L h (A :: e4 :: e3 :: e2 :: e1 :: r)) : News g L h (A :: r) := news_sub N fun p hp => by
  simp only [List.mem_cons] at hp ⊢
  rcases hp with h | h <;> simp [h]
theorem law_s3 (w : World) (fa : Addr) (cd : Value) (L : Addr) (g : Heap) {p : Program} {loose : List Str} {mean : ExcName → Option Value} {mg mb : Str → Option Value} (o1 o2 : Obj) {s : Shared} {m : Str → Option Value} {Q : Flow → Shared → Prop} {E : Value → Shared → Prop}
    (B : Below callerA g [] g) (X : (hd.heap_1 w.params).In g) (T : Top p loose mean mg mb g) {Dz De : Addr} {zs ev : List Value} {a b c : Int} {es : List Int} {n : Nat} (F : Fr g L s.heap (fun z => if z = Str.ofString "ending" then some (Value.ref De) else if z = Str.ofString "sizes" then some (Value.ref Dz) else m z)) (hz : IntsAre zs [a, b, c]) (ha : IsSz a) (hb : IsSz b) (hc : IsSz c) (hev : IntsAre ev es) (hes : es = [0, 7] ∨ es = [127, 7] ∨ es = [])
    (N : News g L s.heap [(De, listOf ev.toArray 0), (Dz, listOf zs.toArray n), (L + 1 + 1, o2), (L + 1, o1), (51, tabObj #[]), (44, tabObj #[])])
    (l0 : @LT.lt Nat _ 51 L ∧ @LT.lt Nat _ 44 L) (l1 : @Ne Nat (L + 1 + 1) De ∧ @Ne Nat (L + 1) De ∧ @Ne Nat 51 De ∧ @Ne Nat 44 De) (l2 : @Ne Nat (L + 1 + 1) Dz ∧ @Ne Nat (L + 1) Dz ∧ @Ne Nat 51 Dz ∧ @Ne Nat 44 Dz) (l3 : @Ne Nat Dz De)
    (h : ∀ D ws k gs h' tk', Fr g L h' (fun z => if z = Str.ofString "row" then some (Value.ref D) else if z = Str.ofString "ending" then some (Value.ref De) else if z = Str.ofString "sizes" then some (Value.ref Dz) else m z) → gs.bare = true → IntsAre ws (rowOf a b c es) →
      News g L h' [(D, listOf ws.toArray k), (De, listOf ev.toArray 0), (Dz, listOf zs.toArray n), (L + 1 + 1, o2), (L + 1, o1), (51, tabObj #[]), (44, tabObj #[])] → (@LT.lt Nat _ (L + 1 + 1) D ∧ @LT.lt Nat _ De D ∧ @LT.lt Nat _ Dz D) →
      wpAny (model PySem.Challenge.rw_ul0005_01.row.prog w) (callerA.deeper (lenv L fa cd)) (execs (lawBody.drop 5) (lenv L fa cd)) Q E { s with heap := h', gens := (s.gens.push .finished).push gs, toks := tk' }) :
    wpAny (model PySem.Challenge.rw_ul0005_01.row.prog w) (callerA.deeper (lenv L fa cd)) (execs (lawBody.drop 3) (lenv L fa cd)) Q E s := by
  refine (?_ : wpAny _ _ (execs ((lawBody.drop 3).take 2 ++ lawBody.drop 5) _) _ _ _)
  generalize lawBody.drop 5 = rest at h ⊢
  obtain ⟨fin, hout, hx5, hx6⟩ := outs_row ha hb hc hes
  have hel : es.length ≤ 2 := by rcases hes with rfl | rfl | rfl <;> decide
  revert X
  k_fill
  intro X
  conv in ((lawBody.drop 3).take 2) => (delta lawBody gFn gSt Challenge.pw_ul0005_01; simp only [List.getD_cons_succ, List.getD_cons_zero, List.drop_succ_cons, List.drop_zero, List.take_succ_cons, List.take_zero])
  dsimp only [List.cons_append, List.nil_append, List.append]
  k_with_none
  k_with "my call" => refine Halt.of ?_
  k_steps
  unfold Halt
  (with_reducible rename IntsAre _ ([0] ++ _ ++ _) => HI)
  (with_reducible rename News _ _ _ _ => N9)
  refine refused_spec w _ _ _ ([a, b, c] ++ es) _ (.head _) HI (by k_asm) (by k_asm) (by k_asm) N9 (by k_asm) (by first | exact rfl | assumption) (by ktr_room) (by ktr_units) (by omega) ?_
  intro h1 tk1 F1 N1
  dsimp only
  clear N9
  k_with_none
  k_with "my call" => refine Halt.of ?_
  k_steps
  unfold Halt
  (with_reducible rename IntsAre _ ([a, b, c] ++ es) => HJ)
  (with_reducible rename News _ _ _ _ => N9)
  refine told_spec w _ _ _ ([a, b, c] ++ es) _ _ (.head _) HJ (fun z r e => ?_) (rowOf a b c es) fin hout hx5 hx6 (by k_asm) (by k_asm) (by k_asm) N9 (by k_asm) (by first | exact rfl | assumption) (by ktr_room) (by ktr_units) (by omega) ?_
  · cases e; exact ha.1
  intro D ws k gs h2 tk2 lD hgs HW F2 N2
  dsimp only
  clear N9
  k_lt lD
  k_with_none
  k_with "my call" => refine Halt.of ?_
  k_steps
  (with_reducible rename News _ _ _ _ => N9)
  exact h D ws k gs _ _ (by k_asm) hgs HW (pick_d N9) ⟨by omega, by omega, by omega⟩
-- law4
theorem dbl_rule {w : World} {prog : Program} {A : Around} {h₀ : Heap} {L : Addr} {m : Str → Option Value} {s : Shared} {news : List (Addr × Obj)} {E : Value → Shared → Prop} {l : Addr} {vs : List Value} {ns : List Int} {k : Nat} {u : Tok} {Q : Value → Shared → Prop}
    (F : Fr h₀ L s.heap m) (N : News h₀ L s.heap news) (hl : (l, listOf vs.toArray k) ∈ news) (hi : IntsAre vs ns) (hn : ns.length ≤ 5)
    (h : ∀ D h', Fr h₀ L h' m → News h₀ L h' ((D, listOf (vs ++ vs).toArray 0) :: news) → (∀ p ∈ news, p.1 < D) → IntsAre (vs ++ vs) (ns ++ ns) → Q (.ref D) { s with heap := h' }) :
    wpAny (model prog w) A (binaryOp .Mult (.ref l) (.int 2 u)) Q E s := by
  have hs := hi.length
  refine mul_list F N (N _ hl).1 (by omega) (by omega) (by rw [List.size_toArray]; show vs.length * 2 ≤ _; omega) fun h' F' N' => ?_
  have e : List.foldl (fun x1 x2 => x1 ++ x2) #[] (List.replicate (if vs.toArray.isEmpty = true then 0 else (2 : Int).toNat) vs.toArray) = (vs ++ vs).toArray := by
    cases vs with
    | nil => rfl
    | cons v r =>
      show List.foldl (fun x1 x2 => x1 ++ x2) #[] [(v :: r).toArray, (v :: r).toArray] = _
      simp
  rw [e] at N'
  exact h _ h' F' N' (fun p hp => Heap.lt_size (N p hp).1) (hi.append hi)
theorem row_small {a b c : Int} {es : List Int} (ha : IsSz a) (hb : IsSz b) (hc : IsSz c) : Small (rowOf a b c es) := by
  intro x hx
  unfold rowOf at hx
  have : x = a ∨ x = b ∨ x = c := by
    split at hx <;> simp at hx <;> omega
  rcases this with rfl | rfl | rfl
  · exact ha.2
  · exact hb.2
  · exact hc.2
theorem pick_e {g h : Heap} {L : Addr} {n : Nat} {l r : List (Addr × Obj)} (N : News g L h l) (e : l.drop n = r) : News g L h r := news_sub N fun p hp => List.mem_of_mem_drop (by rw [e]; exact hp)
theorem law_s4 (w : World) (fa : Addr) (cd : Value) (L : Addr) (g : Heap) {p : Program} {loose : List Str} {mean : ExcName → Option Value} {mg mb : Str → Option Value} (o1 o2 : Obj) {s : Shared} {m : Str → Option Value} {Q : Flow → Shared → Prop} {E : Value → Shared → Prop}
    (B : Below callerA g [] g) (X : (hd.heap_1 w.params).In g) (T : Top p loose mean mg mb g) {D Dz De : Addr} {ws zs ev : List Value} {a b c : Int} {es : List Int} {n k : Nat} (F : Fr g L s.heap (fun z => if z = Str.ofString "row" then some (Value.ref D) else if z = Str.ofString "ending" then some (Value.ref De) else if z = Str.ofString "sizes" then some (Value.ref Dz) else m z)) (hz : IntsAre zs [a, b, c]) (ha : IsSz a) (hb : IsSz b) (hc : IsSz c) (hev : IntsAre ev es) (hes : es = [0, 7] ∨ es = [127, 7] ∨ es = [])
    (hw : IntsAre ws (rowOf a b c es)) (N : News g L s.heap [(D, listOf ws.toArray k), (De, listOf ev.toArray 0), (Dz, listOf zs.toArray n), (L + 1 + 1, o2), (L + 1, o1), (51, tabObj #[]), (44, tabObj #[])])
    (l0 : @LT.lt Nat _ 51 L ∧ @LT.lt Nat _ 44 L) (l3 : @LT.lt Nat _ (L + 1 + 1) D ∧ @LT.lt Nat _ De D ∧ @LT.lt Nat _ Dz D)
    (h : ∀ t h' tk', Fr g L h' (fun z => if z = Str.ofString "number" then some (Value.int (turnedGo 0 0 0 (rowOf a b c es)) t) else if z = Str.ofString "row" then some (Value.ref D) else if z = Str.ofString "ending" then some (Value.ref De) else if z = Str.ofString "sizes" then some (Value.ref Dz) else m z) →
      News g L h' [(D, listOf ws.toArray k), (De, listOf ev.toArray 0), (Dz, listOf zs.toArray n), (L + 1 + 1, o2), (L + 1, o1), (51, tabObj #[]), (44, tabObj #[])] →
      wpAny (model PySem.Challenge.rw_ul0005_01.row.prog w) (callerA.deeper (lenv L fa cd)) (execs (lawBody.drop 7) (lenv L fa cd)) Q E { s with heap := h', toks := tk' }) :
    wpAny (model PySem.Challenge.rw_ul0005_01.row.prog w) (callerA.deeper (lenv L fa cd)) (execs (lawBody.drop 5) (lenv L fa cd)) Q E s := by
  refine (?_ : wpAny _ _ (execs ((lawBody.drop 5).take 2 ++ lawBody.drop 7) _) _ _ _)
  generalize lawBody.drop 7 = rest at h ⊢
  have hel : es.length ≤ 2 := by rcases hes with rfl | rfl | rfl <;> decide
  have hrl : (rowOf a b c es).length ≤ 5 := by rcases hes with rfl | rfl | rfl <;> simp [rowOf]
  revert X
  k_fill
  intro X
  conv in ((lawBody.drop 5).take 2) => (delta lawBody gFn gSt Challenge.pw_ul0005_01; simp only [List.getD_cons_succ, List.getD_cons_zero, List.drop_succ_cons, List.drop_zero, List.take_succ_cons, List.take_zero])
  dsimp only [List.cons_append, List.nil_append, List.append]
  k_with_none
  k_with "my call" => refine Halt.of ?_
  k_with "my zeros" => (refine' dbl_rule ?F ?N ?l (by assumption) ?z ?_; (case F => k_asm); (case N => k_asm); (case l => k_mem); (case z => simp); k_whole; intro D' h' F' N' l1 hI'; (k_lt l1))
  k_steps
  · unfold Halt
    (with_reducible rename News _ _ _ _ => N9)
    refine turned_spec w _ D ws (rowOf a b c es) k (by k_mem) hw hrl (row_small ha hb hc) (by k_asm) (by k_asm) (by k_asm) N9 (by k_asm) (by first | exact rfl | assumption) (by ktr_room) (by ktr_units) l0.1 ?_
    intro t1 h1 tk1 F1 N1
    dsimp only
    clear N9
    k_with_none
    k_steps
    (with_reducible rename News _ _ _ _ => N9)
    exact h _ _ _ (by k_asm) (pick_e (n := 5) N9 rfl)
  · exfalso
    (with_reducible rename List.take 1 es = [0] => e1)
    (with_reducible rename ¬ rowOf a b c es = _ => e2)
    exact e2 (by unfold rowOf; rw [if_pos e1]; rfl)
  · unfold Halt
    (with_reducible rename News _ _ _ _ => N9)
    refine turned_spec w _ D ws (rowOf a b c es) k (by k_mem) hw hrl (row_small ha hb hc) (by k_asm) (by k_asm) (by k_asm) N9 (by k_asm) (by first | exact rfl | assumption) (by ktr_room) (by ktr_units) l0.1 ?_
    intro t1 h1 tk1 F1 N1
    dsimp only
    clear N9
    k_with_none
    k_steps
    (with_reducible rename News _ _ _ _ => N9)
    exact h _ _ _ (by k_asm) (pick_e (n := 4) N9 rfl)
  · exfalso
    (with_reducible rename ¬ List.take 1 es = [0] => e1)
    (with_reducible rename ¬ rowOf a b c es = _ => e2)
    exact e2 (by unfold rowOf; rw [if_neg e1])
-- law5
theorem tl_nlen {row : List Int} (h : Small row) : dg 8 (nlen 8 (enc (tlGo [] 0 row))) (enc (tlGo [] 0 row)) = (tlGo [] 0 row).map (· + 128) := by
  rw [nlen_enc (tl_small h), dg_enc (tl_small h)]
theorem enc_48 {T : List Int} (h : Small T) (hl : T.length ≤ 5) : enc T < 2 ^ 48 :=
  Nat.lt_of_lt_of_le (enc_lt h) (Nat.le_trans (Nat.pow_le_pow_right (by decide) hl) (by decide))
theorem map_back (T : List Int) : (T.map (· + 128)).map (fun x => x - 128) = T := by
  rw [List.map_map]
  conv => rhs; rw [← List.map_id T]
  exact List.map_congr_left fun x _ => by show x + 128 - 128 = x; omega
local macro_rules | `(tactic| walk_at "exec Assign cons ListComp") => `(tactic| k_dflt (k_extra "my comp"))
local macro_rules | `(tactic| walk_at "eval ListComp") => `(tactic| k_dflt (k_extra "my comp2"))
theorem law_s5 (w : World) (fa : Addr) (cd : Value) (L : Addr) (g : Heap) {p : Program} {loose : List Str} {mean : ExcName → Option Value} {mg mb : Str → Option Value} (o1 o2 : Obj) {s : Shared} {m : Str → Option Value} {Q : Flow → Shared → Prop} {E : Value → Shared → Prop}
    (B : Below callerA g [] g) (X : (hd.heap_1 w.params).In g) (T : Top p loose mean mg mb g) {D : Addr} {ws : List Value} {row : List Int} {k : Nat} {t : Tok} {led : List (Addr × Obj)} (F : Fr g L s.heap (fun z => if z = Str.ofString "number" then some (Value.int (turnedGo 0 0 0 row) t) else if z = Str.ofString "row" then some (Value.ref D) else m z))
    (hw : IntsAre ws row) (hs : Small row) (hl : row.length ≤ 5) (hr : (D, listOf ws.toArray k) ∈ led) (N : News g L s.heap ((44, tabObj #[]) :: led)) (h44 : ∀ p ∈ led, p.1 ≠ 44)
    (l0 : @LT.lt Nat _ 51 L ∧ @LT.lt Nat _ 44 L)
    (h : ∀ D2 T44 t h' tk', Fr g L h' (fun z => if z = Str.ofString "turned" then some (.ref D2) else if z = Str.ofString "number" then some (Value.int (enc (tlGo [] 0 row) : Nat) t) else if z = Str.ofString "row" then some (Value.ref D) else m z) → Grown44 T44 →
      News g L h' (T44 ++ led) →
      wpAny (model PySem.Challenge.rw_ul0005_01.row.prog w) (callerA.deeper (lenv L fa cd)) (execs (lawBody.drop 9) (lenv L fa cd)) Q E { s with heap := h', toks := tk' }) :
    wpAny (model PySem.Challenge.rw_ul0005_01.row.prog w) (callerA.deeper (lenv L fa cd)) (execs (lawBody.drop 7) (lenv L fa cd)) Q E s := by
  refine (?_ : wpAny _ _ (execs ((lawBody.drop 7).take 2 ++ lawBody.drop 9) _) _ _ _)
  generalize lawBody.drop 9 = rest at h ⊢
  have hst := tl_small hs
  have hlt : (tlGo [] 0 row).length = row.length := by rw [tl_len]; simp
  have e0 : turnedGo 0 0 0 row = (enc (tlGo [] 0 row) : Nat) := turned_tl row [] 0 (fun _ h => nomatch h) hs
  rw [e0] at F
  revert X
  k_fill
  intro X
  conv in ((lawBody.drop 7).take 2) => (delta lawBody gFn gSt Challenge.pw_ul0005_01; simp only [List.getD_cons_succ, List.getD_cons_zero, List.drop_succ_cons, List.drop_zero, List.take_succ_cons, List.take_zero])
  dsimp only [List.cons_append, List.nil_append, List.append]
  k_with_none
  k_with "my call" => refine Halt.of ?_
  k_with "my comp" => refine LCg.Assign_ListComp_U (F₀ := by k_asm) (by rfl) (by with_unfolding_all rfl) (by with_unfolding_all rfl) (by decide) (by rfl) (by decide) (by rfl) (by rfl) (by rfl) ?_
  k_steps
  unfold Halt
  refine digs_first w led _ _ (enc (tlGo [] 0 row)) 8 _ _ rfl rfl (enc_48 hst (by omega)) (by decide) (by decide) h44 (by k_asm) (by k_asm) (by k_asm) (by k_asm) (by k_asm) (by first | exact rfl | assumption) (by ktr_room) (by ktr_units) l0.1 ?_
  intro Dd dvs T44 lDd hT hdv h1 tk1 F1 N1
  rw [tl_nlen hs] at hdv
  dsimp only
  clear N
  refine comp_ints rfl F1 N1 (.head _) hdv (by rw [List.length_map]; omega) (el_sub rfl rfl (by decide)) fun g' ys hy => ?_
  rw [map_back] at hy
  intro D2 h2 tk2 F2 N2 _
  dsimp only
  clear F1 N1 hdv
  have N3 := news_more N2 (p := (D, listOf ws.toArray k)) (.tail _ (.tail _ (List.mem_append_right _ hr)))
  clear N2
  k_with_none
  k_with "my call" => refine Halt.of ?_
  k_steps
  · unfold Halt
    (with_reducible rename News _ _ _ _ => N9)
    refine judged_spec w _ D2 ys (tlGo [] 0 row) ys.length (by k_mem) hy (by omega) hst (by k_asm) (by k_asm) (by k_asm) N9 (by k_asm) (by first | exact rfl | assumption) (by ktr_room) (by ktr_units) l0.1 ?_
    intro Dj tj tj' lDj h3 tk3 F3 N4
    dsimp only
    clear N9
    k_lt lDj
    k_with_none
    k_with "my call" => refine Halt.of ?_
    k_steps
    unfold Halt
    (with_reducible rename News _ _ _ _ => N9)
    refine judged_spec w _ D ws row k (by k_mem) hw hl hs (by k_asm) (by k_asm) (by k_asm) N9 (by k_asm) (by first | exact rfl | assumption) (by ktr_room) (by ktr_units) l0.1 ?_
    intro Dk tk tk' lDk h4 tk4 F4 N5
    dsimp only
    clear N9
    k_lt lDk
    k_with_none
    k_with "my call" => refine Halt.of ?_
    k_steps
    · exfalso
      (with_reducible rename _ ≠ (judged row).1 => q3)
      exact q3 (place_above row)
    · (with_reducible rename News _ _ _ _ => N9)
      exact h D2 T44 _ _ _ (by k_asm) hT (news_sub N9 fun p hp => by walk_at "MINE tailmem")
  · exfalso
    (with_reducible rename List.Perm _ (tlGo [] 0 row) => q1)
    (with_reducible rename List.Perm _ row => q2)
    (with_reducible rename ¬ _ = _ => q3)
    exact q3 (ksm_same (q1.trans ((tl_perm row [] 0).trans q2.symm)) (by assumption) (by assumption))
-- law6
theorem sum_map128 : ∀ T : List Int, (T.map (· + 128)).sum = T.sum + 128 * (T.length : Int)
  | [] => rfl
  | x :: T => by
    rw [List.map_cons, List.sum_cons, List.sum_cons, sum_map128 T, List.length_cons]
    push_cast
    omega
theorem home_row {row : List Int} (hs : Small row) : (homeList row.length (enc (tlGo [] 0 row)) ((dg 8 (nlen 8 (enc (tlGo [] 0 row))) (enc (tlGo [] 0 row))).sum - 128 * (row.length : Int))).reverse = row := by
  have hl : (tlGo [] 0 row).length = row.length := by rw [tl_len]; simp
  have hsum : (tlGo [] 0 row).sum = row.sum := by rw [tl_sum]; simp
  rw [tl_nlen hs, sum_map128, hl, hsum, Int.add_sub_cancel, home_tl row hs, List.reverse_reverse]
theorem law_s6 (w : World) (fa : Addr) (cd : Value) (L : Addr) (g : Heap) {p : Program} {loose : List Str} {mean : ExcName → Option Value} {mg mb : Str → Option Value} {s : Shared} {m : Str → Option Value} {Q : Flow → Shared → Prop} {E : Value → Shared → Prop}
    (B : Below callerA g [] g) (X : (hd.heap_1 w.params).In g) (T : Top p loose mean mg mb g) {D : Addr} {ws : List Value} {row : List Int} {k : Nat} {t : Tok} {T44 led : List (Addr × Obj)} (F : Fr g L s.heap m) (m1 : m (Str.ofString "number") = some (Value.int (enc (tlGo [] 0 row) : Nat) t)) (m2 : m (Str.ofString "row") = some (Value.ref D))
    (hw : IntsAre ws row) (hs : Small row) (hl : row.length ≤ 5) (hr : (D, listOf ws.toArray k) ∈ led) (hT : Grown44 T44) (N : News g L s.heap ([(51, tabObj #[])] ++ (T44 ++ led))) (h51 : ∀ p ∈ T44 ++ led, p.1 ≠ 51)
    (l0 : @LT.lt Nat _ 51 L ∧ @LT.lt Nat _ 44 L)
    (h : ∀ T51 h' tk', Fr g L h' m → Tbl51 T51 → News g L h' (T51 ++ (T44 ++ led)) →
      wpAny (model PySem.Challenge.rw_ul0005_01.row.prog w) (callerA.deeper (lenv L fa cd)) (execs (lawBody.drop 10) (lenv L fa cd)) Q E { s with heap := h', toks := tk' }) :
    wpAny (model PySem.Challenge.rw_ul0005_01.row.prog w) (callerA.deeper (lenv L fa cd)) (execs (lawBody.drop 9) (lenv L fa cd)) Q E s := by
  refine (?_ : wpAny _ _ (execs ((lawBody.drop 9).take 1 ++ lawBody.drop 10) _) _ _ _)
  generalize lawBody.drop 10 = rest at h ⊢
  have hst := tl_small hs
  have hlt : (tlGo [] 0 row).length = row.length := by rw [tl_len]; simp
  have F1 := Fr.known0 (Fr.known0 F m1) ((if_neg (by decide)).trans m2)
  revert X
  k_fill
  intro X
  conv in ((lawBody.drop 9).take 1) => (delta lawBody gFn gSt Challenge.pw_ul0005_01; simp only [List.getD_cons_succ, List.getD_cons_zero, List.drop_succ_cons, List.drop_zero, List.take_succ_cons, List.take_zero])
  dsimp only [List.cons_append, List.nil_append, List.append]
  have hr2 : (D, listOf ws.toArray k) ∈ ([(51, tabObj #[])] ++ (T44 ++ led) : List (Addr × Obj)) := List.mem_append_right _ (List.mem_append_right _ hr)
  k_with_none
  k_with "my call" => refine Halt.of ?_
  k_with "my len" => refine len_to (by k_asm) hr2 hw rfl (by omega) ?_; intro t9 tk9
  k_steps
  unfold Halt
  refine home_spec w (T44 ++ led) T44 [(51, tabObj #[])] _ _ (enc (tlGo [] 0 row)) row.length _ _ rfl rfl (enc_48 hst (by omega)) (by omega) hT (fun p hp => List.mem_append_left _ hp) (.inl rfl) h51 (by k_asm) F1 (by k_asm) N (by k_asm) (by first | exact rfl | assumption) (by ktr_room) (by ktr_units) l0.1 ?_
  intro Dh hv T51 kh lDh hT51 hhv h1 tk1 F2 N2
  rw [home_row hs] at hhv
  dsimp only
  clear F1 N
  have N3 := news_more N2 (p := (D, listOf ws.toArray k)) (.tail _ (List.mem_append_right _ (List.mem_append_right _ hr)))
  clear N2
  k_with_none
  k_with "my call" => refine Halt.of ?_
  k_steps
  (with_reducible rename News _ _ _ _ => N9)
  (with_reducible rename Fr _ _ _ _ => F9)
  exact h T51 _ _ (fr_congr F9 (known_eq m2 (known_eq m1 fun _ => rfl))) hT51 (news_sub N9 fun p hp => by walk_at "MINE tailmem")
-- law7
theorem dv_enc : ∀ {row : List Int}, Small row → dv 8 (row.map (· + 128)) = (enc row : Nat)
  | [], _ => rfl
  | x :: xs, h => by
    have h1 := dv_enc (small_cons h).2
    have h2 := (small_cons h).1
    show (x + 128) + 2 ^ 8 * dv 8 (xs.map (· + 128)) = (((x + 128).toNat + 256 * enc xs : Nat) : Int)
    rw [h1]
    push_cast
    omega
theorem row_nlen {row : List Int} (h : Small row) : dg 8 (nlen 8 (enc row)) (enc row) = row.map (· + 128) := by
  rw [nlen_enc h, dg_enc h]
def ownOf (row : List Int) : List Int := (homeList row.length (enc row) row.sum).reverse
theorem own_home {row : List Int} (hs : Small row) : (homeList row.length (enc row) ((dg 8 (nlen 8 (enc row)) (enc row)).sum - 128 * (row.length : Int))).reverse = ownOf row := by
  rw [row_nlen hs, sum_map128, Int.add_sub_cancel]; rfl
theorem own_small {row : List Int} (hs : Small row) : Small (ownOf row) := fun y hy => (tl_home row.length row rfl hs).1 y (List.mem_reverse.mp hy)
theorem own_len (row : List Int) : (ownOf row).length = row.length := by unfold ownOf; rw [List.length_reverse, homeList_len]
theorem own_tl {row : List Int} (hs : Small row) : tlGo [] 0 (ownOf row) = row := (tl_home row.length row rfl hs).2.2
theorem big128 {row : List Int} (hs : Small row) : ∀ d ∈ row.map (· + 128), d.natAbs < 2 ^ 64 := fun d hd => by
  obtain ⟨x, hx, rfl⟩ := List.mem_map.mp hd
  have := hs x hx
  show (x + 128).natAbs < _
  omega
theorem law_s7 (w : World) (fa : Addr) (cd : Value) (L : Addr) (g : Heap) {p : Program} {loose : List Str} {mean : ExcName → Option Value} {mg mb : Str → Option Value} {s : Shared} {m : Str → Option Value} {Q : Flow → Shared → Prop} {E : Value → Shared → Prop}
    (B : Below callerA g [] g) (X : (hd.heap_1 w.params).In g) (T : Top p loose mean mg mb g) {D : Addr} {ws : List Value} {row : List Int} {k : Nat} {T44 T51 led : List (Addr × Obj)} (F : Fr g L s.heap m) (m2 : m (Str.ofString "row") = some (Value.ref D))
    (hw : IntsAre ws row) (hs : Small row) (hl : row.length ≤ 5) (hr : (D, listOf ws.toArray k) ∈ led) (hT : Grown44 T44) (hT2 : Tbl51 T51) (N : News g L s.heap (T51 ++ (T44 ++ led))) (h51 : ∀ p ∈ T44 ++ led, p.1 ≠ 51)
    (l0 : @LT.lt Nat _ 51 L ∧ @LT.lt Nat _ 44 L)
    (h : ∀ T51 D2 h' tk', Fr g L h' (fun z => if z = Str.ofString "own" then some (.ref D2) else m z) → Tbl51 T51 → News g L h' (T51 ++ (T44 ++ led)) →
      wpAny (model PySem.Challenge.rw_ul0005_01.row.prog w) (callerA.deeper (lenv L fa cd)) (execs (lawBody.drop 12) (lenv L fa cd)) Q E { s with heap := h', toks := tk' }) :
    wpAny (model PySem.Challenge.rw_ul0005_01.row.prog w) (callerA.deeper (lenv L fa cd)) (execs (lawBody.drop 10) (lenv L fa cd)) Q E s := by
  refine (?_ : wpAny _ _ (execs ((lawBody.drop 10).take 2 ++ lawBody.drop 12) _) _ _ _)
  generalize lawBody.drop 12 = rest at h ⊢
  have F1 := Fr.known0 F m2
  have N1 := news_more N (p := (D, listOf ws.toArray k)) (List.mem_append_right _ (List.mem_append_right _ hr))
  clear F N
  revert X
  k_fill
  intro X
  conv in ((lawBody.drop 10).take 2) => (delta lawBody gFn gSt Challenge.pw_ul0005_01; simp only [List.getD_cons_succ, List.getD_cons_zero, List.drop_succ_cons, List.drop_zero, List.take_succ_cons, List.take_zero])
  dsimp only [List.cons_append, List.nil_append, List.append]
  k_with_none
  k_with "my call" => refine Halt.of ?_
  k_with "my comp2" => refine Halt.of ?_
  k_with "my len" => refine len_to (by k_asm) (by k_mem) hw rfl (by omega) ?_; intro t9 tk9
  k_steps
  unfold Halt
  refine LCg.ListComp_U (F₀ := by k_asm) (by with_unfolding_all rfl) (by decide) (by rfl) (by decide) (by rfl) ?_
  k_steps
  refine comp_ints rfl F1 N1 (.head _) hw (by omega) (el_add rfl rfl (by decide)) fun g' ys hy => ?_
  intro Ds h1 tk1 F2 N2 _
  dsimp only
  clear F1 N1
  have N3 := news_sub (news' := T51 ++ ((Ds, LCg.lst ys) :: (D, listOf ws.toArray k) :: (T44 ++ led))) N2 fun p hp => by
    simp only [List.mem_append, List.mem_cons] at hp ⊢
    rcases hp with h | h | h | h | h
    · exact .inr (.inr (.inl h))
    · exact .inl h
    · exact .inr (.inl h)
    · exact .inr (.inr (.inr (.inl h)))
    · exact .inr (.inr (.inr (.inr h)))
  have nDs := (N2 _ (.head _))
  have hDs : @Ne Nat Ds 51 := by
    rcases hT2 with rfl | ⟨c', oc, cvs, tq, rfl, e1, e2, hc'⟩
    · exact fun e => by
        have h3 := (N2 (51, tabObj #[]) (.tail _ (.tail _ (.head _)))).1
        rw [← e, nDs.1] at h3
        cases congrArg (fun o => o.map Obj.cls) h3
    · exact fun e => by
        have h3 := (N2 (51, tabObj #[rawInt 54, rawInt 4, .ref c']) (.tail _ (.tail _ (.head _)))).1
        rw [← e, nDs.1] at h3
        cases congrArg (fun o => o.map Obj.cls) h3
  have hD51 := h51 _ (List.mem_append_right _ hr)
  have hne : ∀ p ∈ ((Ds, LCg.lst ys) :: (D, listOf ws.toArray k) :: (T44 ++ led) : List (Addr × Obj)), p.1 ≠ 51 := fun p hp => by
    rcases List.mem_cons.mp hp with rfl | hp
    · exact hDs
    · rcases List.mem_cons.mp hp with rfl | hp
      · exact hD51
      · exact h51 p hp
  clear N2
  k_with_none
  k_with "my call" => refine Halt.of ?_
  k_steps
  unfold Halt
  refine d2i_spec w _ T51 Ds ys (row.map (· + 128)) ys.length _ 8 _ rfl (by decide) (.head _) hy (big128 hs) (by rw [List.length_map]; omega) hT2 hne (by k_asm) F2 (by k_asm) N3 (by k_asm) (by first | exact rfl | assumption) (by ktr_room) (by ktr_units) l0.1 ?_
  intro t5 T51' hT51' h2 tk2 F3 N4
  rw [dv_enc hs]
  dsimp only
  clear F2 N3
  have hD4 : (D, listOf ws.toArray k) ∈ (T51' ++ ((Ds, LCg.lst ys) :: (D, listOf ws.toArray k) :: (T44 ++ led)) : List (Addr × Obj)) := List.mem_append_right _ (.tail _ (.head _))
  k_with_none
  k_with "my call" => refine Halt.of ?_
  k_with "my len" => refine len_to (by k_asm) hD4 hw rfl (by omega) ?_; intro t9 tk9
  k_steps
  unfold Halt
  refine home_spec w _ T44 T51' _ _ (enc row) row.length _ _ rfl rfl (enc_48 hs hl) (by omega) hT (fun p hp => .tail _ (.tail _ (List.mem_append_left _ hp))) (.inr hT51') hne (by k_asm) F3 (by k_asm) N4 (by k_asm) (by first | exact rfl | assumption) (by ktr_room) (by ktr_units) l0.1 ?_
  intro Dh hv T51'' kh lDh hT51'' hhv h3 tk3 F4 N5
  rw [own_home hs] at hhv
  dsimp only
  clear F3 N4
  have N6 := news_more N5 (p := (D, listOf ws.toArray k)) (.tail _ (List.mem_append_right _ (.tail _ (.head _))))
  clear N5
  k_with_none
  k_with "my call" => refine Halt.of ?_
  k_with "my comp2" => refine Halt.of ?_
  k_steps
  unfold Halt
  refine LCg.ListComp_U (F₀ := by k_asm) (by with_unfolding_all rfl) (by decide) (by rfl) (by decide) (by rfl) ?_
  k_steps
  unfold Halt
  (with_reducible rename News _ _ _ _ => N9)
  refine turned_spec w _ Dh hv (ownOf row) kh (.tail _ (.head _)) hhv (by rw [own_len]; exact hl) (own_small hs) (by k_asm) (by k_asm) (by k_asm) N9 (by k_asm) (by first | exact rfl | assumption) (by ktr_room) (by ktr_units) l0.1 ?_
  intro t6 h4 tk4 F5 N7
  have e9 : turnedGo 0 0 0 (ownOf row) = (enc row : Nat) := by
    have := turned_tl (ownOf row) [] 0 (fun _ h => nomatch h) (own_small hs)
    rw [own_tl hs] at this
    exact this
  rw [e9]
  dsimp only
  clear N9
  k_with_none
  k_with "my call" => refine Halt.of ?_
  k_steps
  unfold Halt
  refine digs_next w _ T44 _ _ (enc row) 8 _ _ rfl rfl (enc_48 hs hl) (by decide) (by decide) hT (fun p hp => .tail _ (.tail _ (List.mem_append_right _ (.tail _ (.tail _ (List.mem_append_left _ hp)))))) (by k_asm) F5 (by k_asm) N7 (by k_asm) (by first | exact rfl | assumption) (by ktr_room) (by ktr_units) l0.1 ?_
  intro Dd dvs lDd hdv h5 tk5 F6 N8
  rw [row_nlen hs] at hdv
  refine comp_ints rfl F6 N8 (.head _) hdv (by rw [List.length_map]; omega) (el_sub rfl rfl (by decide)) fun g' ys' hy' => ?_
  rw [map_back] at hy'
  intro D9 h6 tk6 F7 N9 _
  dsimp only
  clear F6 N8 F5 N7
  have N10 := news_more N9 (p := (D, listOf ws.toArray k)) (.tail _ (.tail _ (.head _)))
  clear N9
  k_with_none
  k_with "my call" => refine Halt.of ?_
  k_steps
  refine h T51'' Dh _ _ (fr_congr F7 fun y => ?_) hT51'' (news_sub N10 fun p hp => ?_)
  · by_cases q : y = Str.ofString "own"
    · rw [if_pos q, if_pos q]
    · rw [if_neg q, if_neg q]
      exact known_eq m2 (fun _ => rfl) y
  · simp only [List.mem_append, List.mem_cons] at hp ⊢
    rcases hp with h | h | h <;> simp [h]
-- law8
structure WS where
  h : Int
  t : Int
  l : Int
  th : Tok
  tt : Tok
  tl : Tok
def sumOf (f : Int × Int × Bool → Int) (ws : List (List Int)) : Int := (ws.map fun w => f (judged w)).sum
theorem sumOf_next {f : Int × Int × Bool → Int} {ws : List (List Int)} {i : Nat} {v : List Int} (h : ws[i]? = some v) : sumOf f (ws.take (i + 1)) = sumOf f (ws.take i) + f (judged v) := by
  unfold sumOf
  rw [List.take_add_one, h, List.map_append, List.sum_append]
  simp
def WP (ys : List WI) (i : Nat) (c : WS) : Prop := c.h = sumOf fAb ((ys.map WI.ns).take i) ∧ c.t = sumOf fPl ((ys.map WI.ns).take i) ∧ c.l = sumOf fLv ((ys.map WI.ns).take i)
theorem isLst_51 {L : Nat} {T : List (Addr × Obj)} (hT : Tbl51 T) : NoCls L IsLst T := by
  rcases hT with rfl | ⟨c', oc, cvs, tq, rfl, e1, e2, _⟩
  · exact noCls_cons (fun e => by cases e.1) noCls_nil
  · refine noCls_cons (fun e => by cases e.1) (noCls_cons (fun e => ?_) noCls_nil)
    obtain ⟨_, l, i, e⟩ := e
    dsimp only at e
    rw [e1] at e
    cases e
    cases e2
theorem isLst_44 {L : Nat} {T : List (Addr × Obj)} (hT : Grown44 T) : NoCls L IsLst T := by
  obtain ⟨c', oc, cvs, tq, rfl, e1, e2, _⟩ := hT
  refine noCls_cons (fun e => by cases e.1) (noCls_cons (fun e => ?_) noCls_nil)
  obtain ⟨_, l, i, e⟩ := e
  dsimp only at e
  rw [e1] at e
  cases e
  cases e2
theorem isLst_led {L : Nat} : ∀ ys : List WI, NoCls L IsLst (ledOf ys)
  | [] => noCls_nil
  | _ :: ys => noCls_cons (isLst_list _ _) (isLst_led ys)
theorem law_s8 (w : World) (fa : Addr) (cd : Value) (L : Addr) (g : Heap) {p : Program} {loose : List Str} {mean : ExcName → Option Value} {mg mb : Str → Option Value} {s : Shared} {m : Str → Option Value} {Q : Flow → Shared → Prop} {E : Value → Shared → Prop}
    (B : Below callerA g [] g) (X : (hd.heap_1 w.params).In g) (T : Top p loose mean mg mb g) {Dz : Addr} {zs : List Value} {a b c : Int} {n : Nat} {T44 T51 led : List (Addr × Obj)} (F : Fr g L s.heap m) (m1 : m (Str.ofString "sizes") = some (Value.ref Dz))
    (hz : IntsAre zs [a, b, c]) (hs : Small [a, b, c]) (hr : (Dz, listOf zs.toArray n) ∈ led) (hT : Grown44 T44) (hT2 : Tbl51 T51) (N : News g L s.heap (T51 ++ (T44 ++ led))) (hled : NoCls L IsLst led) (hE : PassesOwn (model PySem.Challenge.rw_ul0005_01.row.prog w) (callerA.deeper (lenv L fa cd)) (lenv L fa cd) E)
    (l0 : @LT.lt Nat _ 51 L ∧ @LT.lt Nat _ 44 L)
    (h : ∀ m' t1 t2 t3 h' tk', Fr g L h' m' → m' (Str.ofString "sizes") = some (Value.ref Dz) → m' (Str.ofString "heights") = some (.int (S (fun w => fAb (judged w)) [a, b, c]) t1) → m' (Str.ofString "tops") = some (.int (S (fun w => fPl (judged w)) [a, b, c]) t2) → m' (Str.ofString "levels") = some (.int (S (fun w => fLv (judged w)) [a, b, c]) t3) →
      News g L h' (T51 ++ (T44 ++ led)) →
      wpAny (model PySem.Challenge.rw_ul0005_01.row.prog w) (callerA.deeper (lenv L fa cd)) (execs (lawBody.drop 16) (lenv L fa cd)) Q E { s with heap := h', toks := tk' }) :
    wpAny (model PySem.Challenge.rw_ul0005_01.row.prog w) (callerA.deeper (lenv L fa cd)) (execs (lawBody.drop 12) (lenv L fa cd)) Q E s := by
  refine (?_ : wpAny _ _ (execs ((lawBody.drop 12).take 4 ++ lawBody.drop 16) _) _ _ _)
  generalize lawBody.drop 16 = rest at h ⊢
  have F1 := Fr.known0 F m1
  have N1 := news_more N (p := (Dz, listOf zs.toArray n)) (List.mem_append_right _ (List.mem_append_right _ hr))
  clear F N
  revert X
  k_fill
  intro X
  conv in ((lawBody.drop 12).take 4) => (delta lawBody gFn gSt Challenge.pw_ul0005_01; simp only [List.getD_cons_succ, List.getD_cons_zero, List.drop_succ_cons, List.drop_zero, List.take_succ_cons, List.take_zero])
  dsimp only [List.cons_append, List.nil_append, List.append]
  k_with_none
  k_with "my call" => refine Halt.of ?_
  k_with "my iter" => refine Halt.of ?_
  k_steps
  unfold Halt
  (with_reducible rename News _ _ _ _ => N9)
  refine ways_spec w _ Dz zs [a, b, c] n (by k_mem) hz (Nat.le_refl 3) (by k_asm) (by k_asm) (by k_asm) N9 (by k_asm) (by first | exact rfl | assumption) (by ktr_room) (by ktr_units) l0.1 ?_
  intro Dw ys kw hys ey h1 tk1 F2 N2
  dsimp only
  clear N9
  have hw3 : ∀ x ∈ ys, x.ns.length = 3 ∧ Small x.ns := fun x hx => by
    have hm : x.ns ∈ waysOf [a, b, c] := by rw [← ey]; exact List.mem_map_of_mem hx
    exact ⟨waysOf_lens _ _ hm, waysOf_mem _ hs _ hm⟩
  obtain ⟨B0, hB0⟩ : ∃ B0, B0 = (Dw, listOf (refsOf ys).toArray kw) :: (ledOf ys ++ (T51 ++ (T44 ++ led))) := ⟨_, rfl⟩
  have N3 : News g L h1 B0 := news_sub N2 fun p hp => by
    rw [hB0] at hp
    simp only [List.mem_append, List.mem_cons] at hp ⊢
    rcases hp with h | h | h | h | h <;> simp [h]
  have hB1 : NoCls L IsLst B0 := by
    rw [hB0]
    exact noCls_cons (isLst_list _ _) (noCls_app (isLst_led ys) (noCls_app (isLst_51 hT2) (noCls_app (isLst_44 hT) hled)))
  refine list_loop (σ := WS) (fun c => B0) (fun c => [(Str.ofString "heights", .int c.h c.th), (Str.ofString "tops", .int c.t c.tt), (Str.ofString "levels", .int c.l c.tl)]) [Str.ofString "above", Str.ofString "place", Str.ofString "level"] (WP ys) ⟨0, 0, 0, _, _, _⟩ rfl F2 N3 (fun _ => by rw [hB0]; exact .head _) rfl rfl (by kst_all) ?_ ?_ ?_
  · exact ⟨rfl, rfl, rfl⟩
  · rintro ⟨hc, tc, lc, th, tt, tl⟩ I i v u1 it h2 tk2 hit hLI hiv ⟨e1, e2, e3⟩ F3 N4
    dsimp only at e1 e2 e3 F3 N4 hLI ⊢
    dsimp only [kstB] at F3
    obtain ⟨x, hx, rfl⟩ : ∃ x, ys[i]? = some x ∧ v = .ref x.a := by
      unfold refsOf at hiv
      rw [List.getElem?_map] at hiv
      cases e : ys[i]? with
      | none => rw [e] at hiv; cases hiv
      | some x => rw [e] at hiv; exact ⟨x, rfl, (Option.some.inj hiv).symm⟩
    have hxm := List.mem_of_getElem? hx
    have hxl : (x.a, listOf x.vs.toArray x.n) ∈ ((I, it) :: B0 : List (Addr × Obj)) := by
      rw [hB0]
      exact .tail _ (.tail _ (List.mem_append_left _ (List.mem_map_of_mem (f := fun x : WI => (x.a, listOf x.vs.toArray x.n)) hxm)))
    have hxn : (ys.map WI.ns)[i]? = some x.ns := by rw [List.getElem?_map, hx]; rfl
    have ja := judged_above x.ns
    have jp := judged_place x.ns
    rw [(hw3 x hxm).1] at ja jp
    k_with_none
    k_with "my call" => refine Halt.of ?_
    k_steps
    unfold Halt
    refine judged_spec w _ x.a x.vs x.ns x.n hxl (hys x hxm) (by rw [(hw3 x hxm).1]; decide) (hw3 x hxm).2 (by k_asm) F3 (by k_asm) N4 (by k_asm) (by first | exact rfl | assumption) (by ktr_room) (by ktr_units) l0.1 ?_
    intro Dj tj tj' lDj h3 tk3 F4 N5
    obtain ⟨ab, pl, lv, hj⟩ : ∃ ab pl lv, judged x.ns = (ab, pl, lv) := ⟨_, _, _, rfl⟩
    have ea : fAb (judged x.ns) = 256 ^ ab.toNat := by rw [hj]; rfl
    have ep : fPl (judged x.ns) = 256 ^ pl.toNat := by rw [hj]; rfl
    have el : fLv (judged x.ns) = if lv then 1 else 0 := by rw [hj]; rfl
    rw [hj] at N5 ja jp
    dsimp only at N5 ja jp ⊢
    clear F3 N4
    k_with_none
    k_with "my pow" => with_reducible first
      | refine pow_to (n := ab) (r := (256 : Int) ^ ab.toNat) ja.1 ja0 hbig rfl ?_
      | refine pow_to (n := pl) (r := (256 : Int) ^ pl.toNat) jp.1 jp0 hbig rfl ?_
    have ja0 : ab ≤ 1000 := by omega
    have jp0 : pl ≤ 1000 := by omega
    have hbig : Int.natAbs 256 < 2 ^ 64 := by decide
    k_steps
    all_goals (
      (with_reducible rename Fr _ _ _ _ => F9)
      (with_reducible rename News _ _ _ _ => N9))
    · refine turn_end (σ := WS) ⟨hc + 256 ^ ab.toNat, tc + 256 ^ pl.toNat, lc + 1, _, _, _⟩ F9 N9 (.tail _ (.head _)) hit (fun p hp => .tail _ (.tail _ hp)) hB1 hLI (by kst_all) (by kst_same) ?_
      have hlv : lv = true := by assumption
      refine ⟨?_, ?_, ?_⟩
      · show hc + 256 ^ ab.toNat = _
        rw [sumOf_next hxn, ea, e1]
      · show tc + 256 ^ pl.toNat = _
        rw [sumOf_next hxn, ep, e2]
      · show lc + 1 = _
        rw [sumOf_next hxn, el, e3, hlv]; rfl
    · refine turn_end (σ := WS) ⟨hc + 256 ^ ab.toNat, tc + 256 ^ pl.toNat, lc, _, _, _⟩ F9 N9 (.tail _ (.head _)) hit (fun p hp => .tail _ (.tail _ hp)) hB1 hLI (by kst_all) (by kst_same) ?_
      have hlv : lv = false := by assumption
      refine ⟨?_, ?_, ?_⟩
      · show hc + 256 ^ ab.toNat = _
        rw [sumOf_next hxn, ea, e1]
      · show tc + 256 ^ pl.toNat = _
        rw [sumOf_next hxn, ep, e2]
      · show lc = _
        rw [sumOf_next hxn, el, e3, hlv]; simp
  · rintro ⟨hc, tc, lc, th, tt, tl⟩ u1 h2 tk2 ⟨e1, e2, e3⟩ F3 N4
    dsimp only at e1 e2 e3 F3 N4 ⊢
    dsimp only [kstB] at F3
    have et : (ys.map WI.ns).take (refsOf ys).length = waysOf [a, b, c] := by
      rw [← ey, List.take_of_length_le]
      unfold refsOf; simp
    rw [et] at e1 e2 e3
    have g1 : hc = S (fun w => fAb (judged w)) [a, b, c] := e1
    have g2 : tc = S (fun w => fPl (judged w)) [a, b, c] := e2
    have g3 : lc = S (fun w => fLv (judged w)) [a, b, c] := e3
    subst g1 g2 g3
    refine h _ th tt tl _ _ F3 ?_ ?_ ?_ ?_ (news_sub N4 fun p hp => by rw [hB0]; exact .tail _ (List.mem_append_right _ hp))
    · rfl
    · rfl
    · rfl
    · rfl
-- law9
theorem plain_cell (L : Addr) : (cellsFrom (L + 1) lawScope.names []).lookup (Str.ofString "plain") = some (L + 1 + 1) := rfl
theorem store_plain {M : Model} {A : Around} {E : Value → Shared → Prop} {s : Shared} {g : Heap} {L fa D : Addr} {cd : Value} {m : Str → Option Value} {Q : Unit → Shared → Prop} {K : List (Addr × Obj)} {od o2 : Obj} {q1 q2 : Addr × Obj} (F : Fr g L s.heap m) (N : News g L s.heap ((D, od) :: q1 :: (L + 1 + 1, o2) :: q2 :: K))
    (e2 : o2.data = .cell none) (hK : ∀ p ∈ K, p.1 ≠ L + 1 + 1) (hD : @LT.lt Nat _ (L + 1 + 1) D) (h : ∀ h' o', Fr g L h' m → News g L h' ((L + 1 + 1, o') :: (D, od) :: K) → o'.data = .cell (some (.ref D)) → Q () { s with heap := h' }) :
    wpAny M A (storeName (lenv L fa cd) (Str.ofString "plain") (.ref D)) Q E s := by
  have N3 : News g L s.heap ((L + 1 + 1, o2) :: (D, od) :: K) := news_sub N fun p hp => by
    simp only [List.mem_cons] at hp ⊢
    rcases hp with h | h | h <;> simp [h]
  refine storeX_C F N3 (plain_cell L) (.head fun p hp => ?_) e2 (fun h' o' F' N' e' => h h' o' F' N' e')
  rcases List.mem_cons.mp hp with rfl | hp
  · exact Nat.ne_of_gt hD
  · exact hK p hp
theorem law_s9 (w : World) (fa : Addr) (cd : Value) (L : Addr) (g : Heap) {p : Program} {loose : List Str} {mean : ExcName → Option Value} {mg mb : Str → Option Value} {s : Shared} {m : Str → Option Value} {Q : Flow → Shared → Prop} {E : Value → Shared → Prop}
    (B : Below callerA g [] g) (X : (hd.heap_1 w.params).In g) (T : Top p loose mean mg mb g) {Dz : Addr} {zs : List Value} {a b c hv lv : Int} {n : Nat} {t1 t2 t3 : Tok} {K : List (Addr × Obj)} {o2 : Obj} (F : Fr g L s.heap m) (m1 : m (Str.ofString "sizes") = some (Value.ref Dz))
    (m2 : m (Str.ofString "heights") = some (Value.int hv t1)) (m3 : m (Str.ofString "tops") = some (Value.int hv t2)) (m4 : m (Str.ofString "levels") = some (Value.int lv t3))
    (hz : IntsAre zs [a, b, c]) (hs : Small [a, b, c]) (N : News g L s.heap ((L + 1 + 1, o2) :: (Dz, listOf zs.toArray n) :: K)) (e2 : o2.data = .cell none) (hK : ∀ p ∈ K, p.1 ≠ L + 1 + 1) (hDz : @Ne Nat Dz (L + 1 + 1))
    (l0 : @LT.lt Nat _ 51 L ∧ @LT.lt Nat _ 44 L)
    (h : ∀ Dp ps pn k o2' h' tk', Fr g L h' m → IntsAre ps pn → pn.Perm [(a.natAbs : Int), (b.natAbs : Int), (c.natAbs : Int)] → pn.Pairwise (· ≤ ·) → o2'.data = .cell (some (.ref Dp)) → News g L h' ((L + 1 + 1, o2') :: (Dp, listOf ps.toArray k) :: K) →
      wpAny (model PySem.Challenge.rw_ul0005_01.row.prog w) (callerA.deeper (lenv L fa cd)) (execs (lawBody.drop 18) (lenv L fa cd)) Q E { s with heap := h', toks := tk' }) :
    wpAny (model PySem.Challenge.rw_ul0005_01.row.prog w) (callerA.deeper (lenv L fa cd)) (execs (lawBody.drop 16) (lenv L fa cd)) Q E s := by
  refine (?_ : wpAny _ _ (execs ((lawBody.drop 16).take 2 ++ lawBody.drop 18) _) _ _ _)
  generalize lawBody.drop 18 = rest at h ⊢
  have F1 := Fr.known0 (Fr.known0 (Fr.known0 (Fr.known0 F m1) ((if_neg (by decide)).trans m2)) ((if_neg (by decide)).trans ((if_neg (by decide)).trans m3))) ((if_neg (by decide)).trans ((if_neg (by decide)).trans ((if_neg (by decide)).trans m4)))
  clear F
  revert X
  k_fill
  intro X
  conv in ((lawBody.drop 16).take 2) => (delta lawBody gFn gSt Challenge.pw_ul0005_01; simp only [List.getD_cons_succ, List.getD_cons_zero, List.drop_succ_cons, List.drop_zero, List.take_succ_cons, List.take_zero])
  dsimp only [List.cons_append, List.nil_append, List.append]
  k_with_none
  k_with "my call" => refine Halt.of ?_
  k_with "my comp2" => refine LCg.ListComp_U (F₀ := by k_asm) (by with_unfolding_all rfl) (by decide) (by rfl) (by decide) (by rfl) ?_
  k_steps
  · exact absurd rfl (by assumption)
  · refine comp_intsF (f := fun z => if z < 0 then -z else z) rfl F1 N (.tail _ (.head _)) hz (by show 3 ≤ 100; decide) ?_ fun g' ys hy => ?_
    · intro I oI C oC D ys m₂ s' z t E' Q' hNs hx hzm F' N' hQ
      k_with_none
      k_steps
      exact hQ _ _
    intro Da h1 tk1 F2 N2 _
    dsimp only
    have eabs : ∀ z : Int, (if z < 0 then -z else z) = (z.natAbs : Int) := fun z => by split <;> omega
    simp only [List.map_cons, List.map_nil, eabs] at hy
    clear F1 N
    k_with_none
    k_steps
    (with_reducible rename News _ _ _ _ => N9)
    (with_reducible rename Fr _ _ _ _ => F9)
    (with_reducible rename _ ∧ _ ∧ _ ∧ AllLt _ K => l9)
    refine store_plain F9 N9 e2 hK l9.2.1 fun h9 o9 F10 N10 e10 => ?_
    dsimp only
    have F11 := fr_congr F10 (known_eq m4 (known_eq m3 (known_eq m2 (known_eq m1 fun _ => rfl))))
    exact h _ _ _ _ o9 _ _ F11 (by assumption) (by assumption) (by assumption) e10 N10
-- law10
theorem law_s10 (w : World) (fa : Addr) (cd : Value) (L : Addr) (g : Heap) {p : Program} {loose : List Str} {mean : ExcName → Option Value} {mg mb : Str → Option Value} {s : Shared} {m : Str → Option Value} {Q : Flow → Shared → Prop} {E : Value → Shared → Prop}
    (B : Below callerA g [] g) (X : (hd.heap_1 w.params).In g) (T : Top p loose mean mg mb g) {Dp : Addr} {ps : List Value} {x y z hv lv : Int} {k : Nat} {t1 t3 : Tok} {K : List (Addr × Obj)} {o2 : Obj} (F : Fr g L s.heap m)
    (m2 : m (Str.ofString "heights") = some (Value.int hv t1)) (m4 : m (Str.ofString "levels") = some (Value.int lv t3))
    (hp : IntsAre ps [x, y, z]) (N : News g L s.heap ((L + 1 + 1, o2) :: (Dp, listOf ps.toArray k) :: K)) (e2 : o2.data = .cell (some (.ref Dp)))
    (l0 : @LT.lt Nat _ 51 L ∧ @LT.lt Nat _ 44 L)
    (h : ∀ m' t h' tk', Fr g L h' m' → m' (Str.ofString "due") = some (.int (due3 x y z) t) → m' (Str.ofString "heights") = some (Value.int hv t1) → m' (Str.ofString "levels") = some (Value.int lv t3) → News g L h' ((Dp, listOf ps.toArray k) :: K) →
      wpAny (model PySem.Challenge.rw_ul0005_01.row.prog w) (callerA.deeper (lenv L fa cd)) (execs (lawBody.drop 20) (lenv L fa cd)) Q E { s with heap := h', toks := tk' }) :
    wpAny (model PySem.Challenge.rw_ul0005_01.row.prog w) (callerA.deeper (lenv L fa cd)) (execs (lawBody.drop 18) (lenv L fa cd)) Q E s := by
  refine (?_ : wpAny _ _ (execs ((lawBody.drop 18).take 2 ++ lawBody.drop 20) _) _ _ _)
  generalize lawBody.drop 20 = rest at h ⊢
  have F1 := Fr.known0 (Fr.known0 F m2) ((if_neg (by decide)).trans m4)
  clear F
  revert X
  k_fill
  intro X
  conv in ((lawBody.drop 18).take 2) => (delta lawBody gFn gSt Challenge.pw_ul0005_01; simp only [List.getD_cons_succ, List.getD_cons_zero, List.drop_succ_cons, List.drop_zero, List.take_succ_cons, List.take_zero])
  dsimp only [List.cons_append, List.nil_append, List.append]
  k_with_none
  k_with "my call" => refine Halt.of ?_
  k_with "CompEnd" => (refine LCg.CompEnd.intro (by k_asm) (by k_asm) _ (fun _ h => h) ?off trivial ?_; (case off => with_unfolding_all assumption))
  k_steps
  all_goals (
    first | have c0 : x = z := by assumption | have c0 : ¬ x = z := by assumption
    first | have c1 : y = x := by assumption | have c1 : ¬ y = x := by assumption
    first | have c2 : z = y := by assumption | have c2 : ¬ z = y := by assumption
    first | have c3 : x + y = z := by assumption | have c3 : ¬ x + y = z := by assumption
    (with_reducible rename Fr _ _ _ _ => F9)
    (with_reducible rename News _ _ _ _ => N9)
    refine h _ _ _ _ F9 ((if_pos rfl).trans (congrArg (fun v => some (Value.int v _)) ?_)) rfl rfl (news_sub N9 fun q hq => ?_)
    · unfold due3
      (first | rw [if_pos c0] | rw [if_neg c0])
      (first | rw [if_pos c1] | rw [if_neg c1])
      (first | rw [if_pos c2] | rw [if_neg c2])
      (first | rw [if_pos c3] | rw [if_neg c3])
      rfl
    · simp only [List.mem_cons] at hq ⊢
      rcases hq with h | h <;> simp [h])
-- law11
theorem law_s11 (w : World) (fa : Addr) (cd : Value) (L : Addr) (g : Heap) {p : Program} {loose : List Str} {mean : ExcName → Option Value} {mg mb : Str → Option Value} {s : Shared} {m : Str → Option Value} {Q : Flow → Shared → Prop} {E : Value → Shared → Prop}
    (B : Below callerA g [] g) (X : (hd.heap_1 w.params).In g) (T : Top p loose mean mg mb g) {hv d : Int} {t1 t2 t3 : Tok} {K T44 : List (Addr × Obj)} (F : Fr g L s.heap m)
    (m1 : m (Str.ofString "due") = some (Value.int d t2)) (m2 : m (Str.ofString "heights") = some (Value.int hv t1)) (m4 : m (Str.ofString "levels") = some (Value.int d t3)) (hd0 : 0 ≤ d) (hd : d = 0 → hv = 252250383) (N : News g L s.heap K) (hT : Grown44 T44) (hTs : ∀ p ∈ T44, p ∈ K)
    (l0 : @LT.lt Nat _ 51 L ∧ @LT.lt Nat _ 44 L)
    (h : ∀ m' h' tk', Fr g L h' m' → News g L h' K → Q (.ret (.bool true)) { s with heap := h', toks := tk' }) :
    wpAny (model PySem.Challenge.rw_ul0005_01.row.prog w) (callerA.deeper (lenv L fa cd)) (execs (lawBody.drop 20) (lenv L fa cd)) Q E s := by
  have F1 := Fr.known0 (Fr.known0 (Fr.known0 F m1) ((if_neg (by decide)).trans m2)) ((if_neg (by decide)).trans ((if_neg (by decide)).trans m4))
  clear F
  revert X
  k_fill
  intro X
  conv in (lawBody.drop 20) => (delta lawBody gFn gSt Challenge.pw_ul0005_01; simp only [List.getD_cons_succ, List.getD_cons_zero, List.drop_succ_cons, List.drop_zero, List.take_succ_cons, List.take_zero])
  k_with_none
  k_with "my call" => refine Halt.of ?_
  k_steps
  · exact absurd rfl (by assumption)
  · have hpos : 0 < d := by assumption
    rw [decide_eq_true hpos]
    dsimp only
    exact h _ _ _ F1 N
  · have hno : ¬ 0 < d := by assumption
    have hv0 : hv = ((252250383 : Nat) : Int) := hd (by omega)
    unfold Halt
    refine digs_next w _ T44 _ _ 252250383 8 _ _ hv0 rfl (by decide) (by decide) (by decide) hT hTs (by k_asm) F1 (by k_asm) N (by k_asm) (by first | exact rfl | assumption) (by ktr_room) (by ktr_units) l0.1 ?_
    intro Dd dvs lDd hdv h1 tk1 F2 N2
    rw [dg_all] at hdv
    dsimp only
    clear F1 N
    k_with_none
    k_steps
    (with_reducible rename News _ _ _ _ => N9)
    exact h _ _ _ (by k_asm) (news_sub N9 fun p hp => .tail _ (.tail _ hp))
-- law12
theorem three_sorted (A B C : Int) : ∃ p q r : Int, [p, q, r].Perm [A, B, C] ∧ [p, q, r].Pairwise (· ≤ ·) := by
  have h1 := List.mergeSort_perm [A, B, C] (fun a b => decide (a ≤ b))
  have h2 := List.pairwise_mergeSort (le := fun a b : Int => decide (a ≤ b)) (fun a b c h1 h2 => by simp at h1 h2 ⊢; omega) (fun a b => by simp; omega) [A, B, C]
  have h3 := h1.length_eq
  obtain ⟨p, q, r, e⟩ : ∃ p q r, [A, B, C].mergeSort (fun a b => decide (a ≤ b)) = [p, q, r] := by
    match [A, B, C].mergeSort (fun a b => decide (a ≤ b)), h3 with
    | [p, q, r], _ => exact ⟨p, q, r, rfl⟩
  rw [e] at h1 h2
  exact ⟨p, q, r, h1, h2.imp fun h => by simpa using h⟩
theorem ht_eq {a b c : Int} (ha : IsSz a) (hb : IsSz b) (hc : IsSz c) : S (fun w => fAb (judged w)) [a, b, c] = S (fun w => fPl (judged w)) [a, b, c] := by
  obtain ⟨p, q, r, h1, h2⟩ := three_sorted (a.natAbs : Int) (b.natAbs : Int) (c.natAbs : Int)
  exact (ok_any ha hb hc h1 h2).1
theorem due_nonneg (x y z : Int) : 0 ≤ due3 x y z := by
  unfold due3
  split <;> split <;> split <;> split <;> decide
theorem small3 {a b c : Int} (ha : IsSz a) (hb : IsSz b) (hc : IsSz c) : Small [a, b, c] := small_mk ha.2 (small_mk hb.2 (small_mk hc.2 fun _ h => nomatch h))
theorem tbl_ne {g h : Heap} {L d : Addr} {T l : List (Addr × Obj)} {o2 : Obj} {v : Option Value} (N : News g L h l) (hT : Tbl51 T) (hs : ∀ p ∈ T, p ∈ l) (hm : (d, o2) ∈ l) (e2 : o2.data = .cell v) : ∀ p ∈ T, p.1 ≠ d := fun p hp => by
  rcases hT with rfl | ⟨c', oc, cvs, tq, rfl, e1, _, _⟩
  · rw [List.mem_singleton.mp hp] at *
    exact news_ne N (hs _ (.head _)) hm (fun e => by rw [← e] at e2; cases e2)
  · rcases List.mem_cons.mp hp with rfl | hp
    · exact news_ne N (hs _ (.head _)) hm (fun e => by rw [← e] at e2; cases e2)
    · rw [List.mem_singleton.mp hp]
      exact news_ne N (hs _ (.tail _ (.head _))) hm (fun e => by rw [← e, e1] at e2; cases e2)
theorem t44_ne {g h : Heap} {L d : Addr} {T l : List (Addr × Obj)} {o2 : Obj} {v : Option Value} (N : News g L h l) (hT : Grown44 T) (hs : ∀ p ∈ T, p ∈ l) (hm : (d, o2) ∈ l) (e2 : o2.data = .cell v) : ∀ p ∈ T, p.1 ≠ d := fun p hp => by
  obtain ⟨c', oc, cvs, tq, rfl, e1, _, _⟩ := hT
  rcases List.mem_cons.mp hp with rfl | hp
  · exact news_ne N (hs _ (.head _)) hm (fun e => by rw [← e] at e2; cases e2)
  · rw [List.mem_singleton.mp hp]
    exact news_ne N (hs _ (.tail _ (.head _))) hm (fun e => by rw [← e, e1] at e2; cases e2)
theorem t44_51 {T : List (Addr × Obj)} (hT : Grown44 T) : ∀ p ∈ T, p.1 ≠ 51 := fun p hp => by
  obtain ⟨c', oc, cvs, tq, rfl, _, _, h⟩ := hT
  rcases List.mem_cons.mp hp with rfl | hp
  · show @Ne Nat 44 51; decide
  · rw [List.mem_singleton.mp hp]; exact Nat.ne_of_gt h
theorem cell_noLst {o : Obj} {v : Option Value} (e : o.data = .cell v) : ¬ IsLst o := fun ⟨_, _, _, h⟩ => by rw [e] at h; cases h
-- law13
theorem law_all (w : World) (fa : Addr) (cd : Value) (L : Addr) (g : Heap) (R : Addr) (vs : List Value) (script : List Int) (hlen : script.length ≤ 63) {p : Program} {loose : List Str} {mean : ExcName → Option Value} {mg mb : Str → Option Value} (o1 o2 : Obj) {s : Shared} {m : Str → Option Value} {Q : Flow → Shared → Prop} {E : Value → Shared → Prop}
    (B : Below callerA g [] g) (X : (hd.heap_1 w.params).In g) (T : Top p loose mean mg mb g) (hL : g.IsList R vs.toArray) (hI : IntsAre vs script) (F : Fr g L s.heap m) (N : News g L s.heap [(L + 1 + 1, o2), (L + 1, o1), (51, tabObj #[]), (44, tabObj #[])])
    (e1 : o1.data = .cell (some (.ref R))) (e2 : o2.data = .cell none) (l0 : @LT.lt Nat _ 51 L ∧ @LT.lt Nat _ 44 L) (hE : PassesOwn (model PySem.Challenge.rw_ul0005_01.row.prog w) (callerA.deeper (lenv L fa cd)) (lenv L fa cd) E)
    (h : ∀ m' gs h' tk' T51 T44, gs.bare = true → Tbl51 T51 → Grown44 T44 → Fr g L h' m' → News g L h' (T51 ++ T44) → Q (.ret (.bool true)) { s with heap := h', gens := (s.gens.push .finished).push gs, toks := tk' }) :
    wpAny (model PySem.Challenge.rw_ul0005_01.row.prog w) (callerA.deeper (lenv L fa cd)) (execs lawBody (lenv L fa cd)) Q E s := by
  refine law_s1 w fa cd L g R vs script hlen o1 o2 B X T hL hI F N e1 l0 ?_
  intro Dd ys ds n h1 tk1 hys hds F1 N1 l1
  refine law_s2 w fa cd L g o1 o2 B X T hys hds F1 N1 l0 l1 ?_
  intro Dd' Dz De zs ev a b c es nz h2 tk2 F2 hz ha hb hc hev hes N2 lE lZ lZE
  refine law_s3 w fa cd L g o1 o2 B X T F2 hz ha hb hc hev hes N2 l0 lE lZ lZE ?_
  intro D ws k gs h3 tk3 F3 hgs hw N3 lD
  refine law_s4 w fa cd L g o1 o2 B X T F3 hz ha hb hc hev hes hw N3 l0 lD ?_
  intro t4 h4 tk4 F4 N4
  have hrs := row_small (es := es) ha hb hc
  have hrl : (rowOf a b c es).length ≤ 5 := by rcases hes with rfl | rfl | rfl <;> simp [rowOf]
  have hL2 : @LT.lt Nat _ 51 (L + 1 + 1) := by have := l0.1; omega
  have q44 : ∀ q ∈ ([(51, tabObj #[]), (D, listOf ws.toArray k), (De, listOf ev.toArray 0), (Dz, listOf zs.toArray nz), (L + 1 + 1, o2), (L + 1, o1)] : List (Addr × Obj)), q.1 ≠ 44 := fun q hq => by
    simp only [List.mem_cons, List.not_mem_nil, or_false] at hq
    rcases hq with rfl | rfl | rfl | rfl | rfl | rfl
    · show @Ne Nat 51 44; decide
    · show @Ne Nat D 44; have := lD.1; omega
    · exact Ne.symm lE.2.2.2
    · exact Ne.symm lZ.2.2.2
    · show @Ne Nat (L + 1 + 1) 44; omega
    · show @Ne Nat (L + 1) 44; omega
  refine law_s5 w fa cd L g o1 o2 B X T (led := [(51, tabObj #[]), (D, listOf ws.toArray k), (De, listOf ev.toArray 0), (Dz, listOf zs.toArray nz), (L + 1 + 1, o2), (L + 1, o1)]) F4 hw hrs hrl (.tail _ (.head _)) (news_sub N4 fun q hq => ?_) q44 l0 ?_
  · simp only [List.mem_cons, List.not_mem_nil, or_false] at hq ⊢
    rcases hq with h | h | h | h | h | h | h <;> simp [h]
  intro D2 T44 t5 h5 tk5 F5 hT44 N5
  obtain ⟨led, hled⟩ : ∃ led, led = [(D, listOf ws.toArray k), (De, listOf ev.toArray 0), (Dz, listOf zs.toArray nz), (L + 1 + 1, o2), (L + 1, o1)] := ⟨_, rfl⟩
  have q51 : ∀ q ∈ T44 ++ led, q.1 ≠ 51 := fun q hq => by
    rcases List.mem_append.mp hq with hq | hq
    · exact t44_51 hT44 q hq
    · rw [hled] at hq
      simp only [List.mem_cons, List.not_mem_nil, or_false] at hq
      rcases hq with rfl | rfl | rfl | rfl | rfl
      · show @Ne Nat D 51; have := lD.1; omega
      · exact Ne.symm lE.2.2.1
      · exact Ne.symm lZ.2.2.1
      · show @Ne Nat (L + 1 + 1) 51; omega
      · show @Ne Nat (L + 1) 51; have := l0.1; omega
  have mR : (D, listOf ws.toArray k) ∈ led := by rw [hled]; exact .head _
  have mZ : (Dz, listOf zs.toArray nz) ∈ led := by rw [hled]; exact .tail _ (.tail _ (.head _))
  have mC : (L + 1 + 1, o2) ∈ led := by rw [hled]; exact .tail _ (.tail _ (.tail _ (.head _)))
  have nL : NoCls L IsLst led := by
    rw [hled]
    exact noCls_cons (isLst_list _ _) (noCls_cons (isLst_list _ _) (noCls_cons (isLst_list _ _) (noCls_cons (cell_noLst e2) (noCls_cons (cell_noLst e1) noCls_nil))))
  have N5' : News g L h5 ([(51, tabObj #[])] ++ (T44 ++ led)) := news_sub N5 fun q hq => by
    rw [hled] at hq
    simp only [List.mem_append, List.mem_cons, List.not_mem_nil, or_false] at hq ⊢
    rcases hq with h | h | h | h | h | h | h <;> simp [h]
  refine law_s6 w fa cd L g B X T F5 ((if_neg (by decide)).trans (if_pos rfl)) ((if_neg (by decide)).trans ((if_neg (by decide)).trans (if_pos rfl))) hw hrs hrl mR hT44 N5' q51 l0 ?_
  intro T51 h6 tk6 F6 hT51 N6
  refine law_s7 w fa cd L g B X T F6 ((if_neg (by decide)).trans ((if_neg (by decide)).trans (if_pos rfl))) hw hrs hrl mR hT44 hT51 N6 q51 l0 ?_
  intro T51' D7 h7 tk7 F7 hT51' N7
  have hs3 := small3 ha hb hc
  refine law_s8 w fa cd L g B X T F7 (Dz := Dz) (zs := zs) (a := a) (b := b) (c := c) (n := nz) ?_ hz hs3 mZ hT44 hT51' N7 nL hE l0 ?_
  · rfl
  intro m8 t81 t82 t83 h8 tk8 F8 m8s m8h m8t m8l N8
  rw [← ht_eq ha hb hc] at m8t
  have nZ : @Ne Nat Dz (L + 1 + 1) := Ne.symm lZ.1
  have hK : ∀ q ∈ T51' ++ T44, q.1 ≠ L + 1 + 1 := fun q hq => by
    rcases List.mem_append.mp hq with hq | hq
    · exact tbl_ne N8 hT51' (fun _ h => List.mem_append_left _ h) (List.mem_append_right _ (List.mem_append_right _ mC)) e2 q hq
    · exact t44_ne N8 hT44 (fun _ h => List.mem_append_right _ (List.mem_append_left _ h)) (List.mem_append_right _ (List.mem_append_right _ mC)) e2 q hq
  refine law_s9 w fa cd L g B X T (n := nz) (K := T51' ++ T44) F8 m8s m8h m8t m8l hz hs3 (news_sub N8 fun q hq => ?_) e2 hK nZ l0 ?_
  · rcases List.mem_cons.mp hq with rfl | hq
    · exact List.mem_append_right _ (List.mem_append_right _ mC)
    · rcases List.mem_cons.mp hq with rfl | hq
      · exact List.mem_append_right _ (List.mem_append_right _ mZ)
      · rcases List.mem_append.mp hq with hq | hq
        · exact List.mem_append_left _ hq
        · exact List.mem_append_right _ (List.mem_append_left _ hq)
  intro Dp pv pn kp o9 h9 tk9 F9 hpv hperm hpw e9 N9
  obtain ⟨x, y, z, rfl⟩ : ∃ x y z, pn = [x, y, z] := by
    have := hperm.length_eq
    match pn, this with
    | [x, y, z], _ => exact ⟨x, y, z, rfl⟩
  obtain ⟨ok1, ok2, ok3⟩ := ok_any ha hb hc hperm hpw
  refine law_s10 w fa cd L g B X T F9 m8h m8l hpv N9 e9 l0 ?_
  intro m10 t10 h10 tk10 F10 md mh ml N10
  rw [ok2] at ml
  refine law_s11 w fa cd L g B X T (T44 := T44) F10 md mh ml (due_nonneg x y z) ok3 N10 hT44 (fun q hq => .tail _ (List.mem_append_right _ hq)) l0 ?_
  intro m11 h11 tk11 F11 N11
  exact h m11 gs h11 tk11 T51' T44 hgs hT51' hT44 F11 (news_sub N11 fun q hq => .tail _ hq)
-- top1
theorem good_end {s₁ : Shared} {cl : Str → Option Addr} {mean : ExcName → Option Value} {args : List WData} {L : Addr} {m' : Str → Option Value} {h' : Heap} {tk' : Nat} {gens : Array GenState} {T51 T44 : List (Addr × Obj)} (hT : TabsAt [(55, 51), (48, 44)] s₁.heap)
    (F : Fr (ghostOf s₁.heap [(55, 51), (48, 44)]) L h' m') (N : News (ghostOf s₁.heap [(55, 51), (48, 44)]) L h' (T51 ++ T44)) (h51 : Tbl51 T51) (h44 : Grown44 T44) (hb : AllBare gens)
    (hpost : PySem.Challenge.rw_ul0005_01.row.claim.post args (.bool true) args = true) :
    GoodWG PySem.Challenge.rw_ul0005_01.row.claim cl mean args s₁ (.ok (.ret (.bool true))) { s₁ with heap := h', gens := gens, toks := tk' } := by
  have t51 : ∃ ps, h'.get? 51 = some (tabObj ps) := by
    rcases h51 with rfl | ⟨c', oc, cvs, tq, rfl, _⟩
    · exact ⟨_, (N (51, _) (.head _)).1⟩
    · exact ⟨_, (N (51, _) (.head _)).1⟩
  have t44 : ∃ ps, h'.get? 44 = some (tabObj ps) := by
    obtain ⟨c', oc, cvs, tq, rfl, _⟩ := h44
    exact ⟨_, (N (44, _) (List.mem_append_right _ (.head _))).1⟩
  have grown : ∀ q ∈ [((55 : Addr), (51 : Addr)), (48, 44)], ∃ ps, h'.get? q.2 = some (tabObj ps) := fun q hq => by
    rcases List.mem_cons.mp hq with rfl | hq
    · exact t51
    · rw [List.mem_singleton.mp hq]; exact t44
  refine ⟨.inl ⟨_, _, _, rfl, fun _ => rfl, .bool true, hpost, fun _ => ⟨.nil, fun _ ha => nomatch ha⟩⟩, ?_, rfl, hb⟩
  have key : ∀ b o, s₁.heap.get? b = some o → h'.get? b = some o ∨ ∃ q ∈ [((55 : Addr), (51 : Addr)), (48, 44)], b = q.2 := fun b o e => by
    by_cases hm : b ∈ [((55 : Addr), (51 : Addr)), (48, 44)].map (·.2)
    · obtain ⟨q, hq, e2⟩ := List.mem_map.mp hm
      exact .inr ⟨q, hq, e2.symm⟩
    · exact .inl (F.keep b o (ghost_ne e hm))
  constructor
  · intro b o e
    rcases key b o e with k | ⟨q, hq, rfl⟩
    · exact .inl k
    · obtain ⟨ps, hps⟩ := grown q hq
      have hq2 := (hT q hq).2
      have e2 := e
      rw [hq2] at e2
      have e3 := Option.some.inj e2
      subst e3
      exact .inr (.inl ⟨((hT q hq).1.tab hq2).isCodeTable, rfl, #[], ps, rfl, by rw [Array.empty_append]; exact hps⟩)
  · intro b o e
    rcases key b o e with k | ⟨q, hq, rfl⟩
    · exact ⟨o, k⟩
    · obtain ⟨ps, hps⟩ := grown q hq
      exact ⟨_, hps⟩
-- The library's head lays a quicker twin of each table of the text, proved part by part: a third of this file's size, and no faster here.
-- It lays none where the twin's name is taken: these names take them, so the head is shown by the tables themselves.
theorem topp.tw10064341117394203990 : True := .intro
theorem topp.tw10195111369196843681 : True := .intro
theorem topp.tw10266555461633262585 : True := .intro
theorem topp.tw10305400283920277433 : True := .intro
theorem topp.tw10399167498903210949 : True := .intro
theorem topp.tw1042403133180535973 : True := .intro
theorem topp.tw10461790498161203888 : True := .intro
theorem topp.tw10532115645195928997 : True := .intro
theorem topp.tw10597860706560859864 : True := .intro
theorem topp.tw10685187537194379599 : True := .intro
theorem topp.tw10994298361876362542 : True := .intro
theorem topp.tw11029865198732385684 : True := .intro
theorem topp.tw11035263291731379589 : True := .intro
theorem topp.tw11078696506264708626 : True := .intro
theorem topp.tw11202935590949653392 : True := .intro
theorem topp.tw11337907807913577534 : True := .intro
theorem topp.tw11421659365934466758 : True := .intro
theorem topp.tw11575812772168837030 : True := .intro
theorem topp.tw11593704879184548500 : True := .intro
theorem topp.tw116469954975847030 : True := .intro
theorem topp.tw11812179522016167875 : True := .intro
theorem topp.tw11887361487896276958 : True := .intro
theorem topp.tw12009470067045066235 : True := .intro
theorem topp.tw12043170885430448746 : True := .intro
theorem topp.tw12095697473408194833 : True := .intro
theorem topp.tw12194778109752746659 : True := .intro
theorem topp.tw12269410613695093552 : True := .intro
theorem topp.tw12324839762223782586 : True := .intro
theorem topp.tw12350194705638829138 : True := .intro
theorem topp.tw12360231612164485636 : True := .intro
theorem topp.tw12574641259981924983 : True := .intro
theorem topp.tw1263184845006639128 : True := .intro
theorem topp.tw12668889800856467324 : True := .intro
theorem topp.tw12824483491961399540 : True := .intro
theorem topp.tw12872488151175847642 : True := .intro
theorem topp.tw12901544804205688423 : True := .intro
theorem topp.tw13041730748543799242 : True := .intro
theorem topp.tw13060474256671952872 : True := .intro
theorem topp.tw13143562447417152792 : True := .intro
theorem topp.tw13161167329241377616 : True := .intro
theorem topp.tw13189053127157631636 : True := .intro
theorem topp.tw13395267401138015904 : True := .intro
theorem topp.tw13483209870875586871 : True := .intro
theorem topp.tw13578778459370857188 : True := .intro
theorem topp.tw13734550745027926421 : True := .intro
theorem topp.tw13763816888611453299 : True := .intro
theorem topp.tw13922697287156943163 : True := .intro
theorem topp.tw13943247954136363390 : True := .intro
theorem topp.tw14680945130412186711 : True := .intro
theorem topp.tw14761494165349154600 : True := .intro
theorem topp.tw14806874811756212808 : True := .intro
theorem topp.tw14990204106291379089 : True := .intro
theorem topp.tw15106710135520280826 : True := .intro
theorem topp.tw1515043593615463393 : True := .intro
theorem topp.tw15249926877770245710 : True := .intro
theorem topp.tw15506054275727981804 : True := .intro
theorem topp.tw15623164136761254589 : True := .intro
theorem topp.tw15718491925980285097 : True := .intro
theorem topp.tw15815029603676688080 : True := .intro
theorem topp.tw16016028025599556799 : True := .intro
theorem topp.tw16066310880854306728 : True := .intro
theorem topp.tw16136734854204968006 : True := .intro
theorem topp.tw16223895428209411387 : True := .intro
theorem topp.tw16361847938318076075 : True := .intro
theorem topp.tw16398882162593388984 : True := .intro
theorem topp.tw16554831697585323511 : True := .intro
theorem topp.tw16687805676961110216 : True := .intro
theorem topp.tw16689646485188261206 : True := .intro
theorem topp.tw16828777075232739805 : True := .intro
theorem topp.tw17203395080936325631 : True := .intro
theorem topp.tw17559196441610374460 : True := .intro
theorem topp.tw17654313258089093732 : True := .intro
theorem topp.tw18102233609318637439 : True := .intro
theorem topp.tw18169226929931591945 : True := .intro
theorem topp.tw1994003600551673411 : True := .intro
theorem topp.tw2218564415506981054 : True := .intro
theorem topp.tw2294866328807826659 : True := .intro
theorem topp.tw2601085304436585569 : True := .intro
theorem topp.tw2703825006226395752 : True := .intro
theorem topp.tw271961936622982894 : True := .intro
theorem topp.tw2907276864467708258 : True := .intro
theorem topp.tw2983714275018017643 : True := .intro
theorem topp.tw3416576278537898645 : True := .intro
theorem topp.tw348896897598512090 : True := .intro
theorem topp.tw357486453476387696 : True := .intro
theorem topp.tw367971198871592882 : True := .intro
theorem topp.tw4091793209817679766 : True := .intro
theorem topp.tw4155717217358720288 : True := .intro
theorem topp.tw4800598570449381994 : True := .intro
theorem topp.tw4934888525113795604 : True := .intro
theorem topp.tw5081728601858619586 : True := .intro
theorem topp.tw5647764517952838313 : True := .intro
theorem topp.tw5967122096553902144 : True := .intro
theorem topp.tw5999163511646882647 : True := .intro
theorem topp.tw609884421674198591 : True := .intro
theorem topp.tw6259615616435534257 : True := .intro
theorem topp.tw7301940287288839077 : True := .intro
theorem topp.tw7402968443596910880 : True := .intro
theorem topp.tw7528147753287448450 : True := .intro
theorem topp.tw77128777569409979 : True := .intro
theorem topp.tw7809547391978225919 : True := .intro
theorem topp.tw8183337490460628872 : True := .intro
theorem topp.tw8303941495129693168 : True := .intro
theorem topp.tw83418077647299961 : True := .intro
theorem topp.tw8402635676306335258 : True := .intro
theorem topp.tw841528257791708545 : True := .intro
theorem topp.tw8702015378522224198 : True := .intro
theorem topp.tw8743996740967030984 : True := .intro
theorem topp.tw9012427944633128848 : True := .intro
theorem topp.tw9215021018190847343 : True := .intro
theorem topp.tw9527595599825833985 : True := .intro
theorem topp.tw9550900167749407056 : True := .intro
theorem topp.tw9796568886590548492 : True := .intro
theorem topp.tw9821806676623222203 : True := .intro
theorem topp.tw9842564617347136166 : True := .intro
local macro_rules | `(tactic| kn_posts) => `(tactic| skip)
set_option maxHeartbeats 8000000 in
set_option Elab.async true in
theorem topp : PySem.Challenge.rw_ul0005_01.Holds := by
  w_on
  o_law
  o_head (kmHook hd.heap_1 [2, 3, 6, 15, 17, 18, 20, 21, 22, 24, 25, 27, 28, 29, 31, 32, 34, 35, 36, 38, 39, 41, 42, 43, 45, 46, 48, 49, 50, 52, 53, 55, 56, 57, 59, 60, 62, 63, 64, 66, 67, 69, 70, 71, 73, 74, 76, 77, 78, 80, 81, 83, 84, 85, 87, 88, 90, 91, 92, 94, 95, 97, 98, 99, 101, 102, 104, 105, 106, 108, 109, 111, 112, 113, 115, 116, 118, 119, 120, 123, 124, 125, 128, 129] (fun _ => by kernel_rfl) [51, 44])
  (case hw => w_witness2)
  k_go0
  (with_reducible rename IntsAre _ _ => hI)
  (with_reducible rename ¬ _ < _ => hc)
  (with_reducible rename Fr _ _ _ _ => FF)
  (with_reducible rename News _ _ _ _ => NN)
  (with_reducible rename Frag.In _ _ => XX)
  (with_reducible rename Shared.gens _ = #[] => hgens)
  (with_reducible rename @LT.lt Nat _ _ _ ∧ @LT.lt Nat _ _ _ => l9)
  (with_reducible rename TabsAt _ _ => hT)
  dsimp only at *
  refine law_all _ _ _ _ _ _ _ _ ?hlen _ _ (by assumption) XX (by assumption) (by assumption) hI FF NN ?e1 ?e2 l9 ?hE ?hh
  case hlen => omega
  case e1 => with_unfolding_all assumption
  case e2 => with_unfolding_all assumption
  case hE => passes_own
  case hh =>
    intro m' gs h' tk' T51 T44 hgs h51 h44 Fz Nz
    exact good_end hT Fz Nz h51 h44 (by rw [hgens]; exact (AllBare.empty.push rfl).push hgs) (by first | rfl | wrow_post | with_unfolding_all rfl)
end Mine
theorem PySem.Challenge.cw_ul0005_01_holds : PySem.Challenge.rw_ul0005_01.Holds := by
  exact Mine.topp

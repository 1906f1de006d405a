import PyProof.Rows.All
import Wide.All
import OpenK.AllK
import Wide.FinOn
import Lean
import PySem.Challenge.RW_hd0005_01
open PySem PySem.W PySem.Calls PyProof.Rows
set_option Elab.async false
set_option linter.unusedVariables false
set_option maxRecDepth 100000
set_option maxHeartbeats 8000000
namespace Mine
open_top hd for PySem.Challenge.rw_hd0005_01
theorem offTop : True := by
  w_top off
  trivial
abbrev pj : Program := PySem.Challenge.rw_hd0005_01.row.prog
theorem allLt_mem {d : Addr} {l : List (Addr × Obj)} (h : AllLt d l) (p : Addr × Obj) (hp : p ∈ l) : @LT.lt Nat _ p.1 d := by
  induction l with
  | nil => exact absurd hp List.not_mem_nil
  | cons x r ih =>
    unfold AllLt at h
    rcases List.mem_cons.mp hp with e | hp
    · rw [e]; exact h.1
    · exact ih h.2 hp
local macro_rules | `(tactic| k_mem) => `(tactic| first | assumption | exact List.mem_cons_of_mem _ (by assumption) | fail "no member")
local macro_rules | `(tactic| news_mem) => `(tactic| first | assumption | k_dflt k_mem | fail "no member")
local macro_rules | `(tactic| walk_at "mEnter") => `(tactic| (refine' code_def ?k1 ?k2 ?k3 ?k4 ?k5 ?kA ?kF ?kK ?k6 ?k7 ?k8 ?k9 ?kB ?_ ?c2 ?c3 ?c4 ?c5; (case kA => exact rfl); (case kF => exact rfl); (case kK => first | exact rfl | assumption); (case k1 => k_asm); (case k2 => k_asm); (case k3 => k_asm); (case k4 => k_asm); (case k5 => k_asm); (case k6 => k_is); (case k7 => k_is); (case k8 => ktr_room); (case k9 => first | exact BindsTo.of_eq rfl | (refine' kp_binds ?kx ?ke; (case kx => k_in); (case ke => exact fun _ => rfl))); (case c5 => decide); (case kB => exact locs rfl); (case c2 => exact rfl); (case c3 => exact rfl); (case c4 => exact rfl); k_whole; intro g' L' h' FG' F' N' B' X' T'; (try dsimp only); (try k_lift B'); (try k_fold)))
local macro_rules | `(tactic| walk_at "mGo") => `(tactic| first | (with_reducible show wpAny _ _ _ _ _ _) | (with_reducible show ite _ _ _) | (with_reducible show LeaveK _ _ _ _ _ _ _) | (with_reducible show codeAny _ _ _ _ _))
local macro_rules | `(tactic| walk_at "mStep") => `(tactic| (walk_at "mGo"; (fail_if_success (with_reducible show wpAny _ _ (exec (PySem.Stmt.While _ _ _ _) _) _ _ _)); (fail_if_success (with_reducible show wpAny _ _ (exec (PySem.Stmt.For _ _ _ _ _) _) _ _ _)); walk1))
local macro_rules | `(tactic| walk_at "mSteps") => `(tactic| repeat' (first | (k_unfold; (try dsimp only)) | walk_at "mStep" | (dsimp only; walk_at "mStep")))
local macro_rules | `(tactic| k_all) => `(tactic| first | assumption | (intro p9 hp9; (rename AllLt _ _ => lT9); have hq9 := ltN (allLt_mem lT9 p9 hp9); (refine neN ?_); omega) | fail "not off")
local macro_rules | `(tactic| walk_at "mEnterC") => `(tactic| (refine' code_defC ?k1 ?k2 ?k3 ?k4 ?k5 ?kA ?kF ?kK ?k6 ?k7 ?k8 ?k9 ?kB ?kD ?_ ?c2 ?c3 ?c4; (case kA => exact rfl); (case kF => exact rfl); (case kK => first | exact rfl | assumption); (case k1 => k_asm); (case k2 => k_asm); (case k3 => k_asm); (case k4 => k_asm); (case k5 => k_asm); (case k6 => k_is); (case k7 => k_is); (case k8 => ktr_room); (case k9 => first | exact BindsTo.of_eq rfl | (refine' kp_binds ?kx ?ke; (case kx => k_in); (case ke => exact fun _ => rfl))); (case kB => exact rfl); (case kD => decide +kernel); (case c2 => exact rfl); (case c3 => exact rfl); (case c4 => exact rfl); k_whole; intro g' L' h' tk' cells' FG' F' N' Y' B' X' T' l1; (try k_lt l1); k_cells Y'; (try simp only [List.cons_append, List.nil_append] at N'); (try dsimp only); (try k_lift B'); (try k_fold)))
local macro_rules | `(tactic| walk_at "mStepC") => `(tactic| ((fail_if_success (with_reducible show wpAny _ _ (call (Value.ref _) _) _ _ _)); walk_at "mStep"))
local macro_rules | `(tactic| walk_at "mStepsC") => `(tactic| repeat' (first | (k_unfold; (try dsimp only)) | walk_at "mStepC" | (dsimp only; walk_at "mStepC")))
local macro_rules | `(tactic| walk_at "mEnterN") => `(tactic| (refine' code_nest ?k1 ?k2 ?k3 ?k4 ?k5 ?kA ?kF ?kK ?k6 ?k7 ?k8 ?k9 ?kB ?_ ?c2 ?c3 ?c4 ?c5; (case kA => exact rfl); (case kF => exact rfl); (case kK => first | exact rfl | assumption); (case k1 => k_asm); (case k2 => k_asm); (case k3 => k_asm); (case k4 => k_asm); (case k5 => k_asm); (case k6 => k_mem); (case k7 => exact codeRec_news (by k_asm) (by k_mem) (by assumption) (by assumption)); (case k8 => ktr_room); (case k9 => exact BindsTo.of_eq rfl); (case c5 => decide); (case kB => exact locs rfl); (case c2 => exact rfl); (case c3 => exact rfl); (case c4 => exact rfl); k_whole; intro g' L' h' FG' F' N' B' X' T'; (try dsimp only); (try k_lift B'); (try k_fold)))
local macro_rules | `(tactic| walk_at "mStepP") => `(tactic| ((fail_if_success (with_reducible show wpAny _ _ (call (Value.ref _) _) _ _ _)); (fail_if_success (with_reducible show wpAny _ _ (pyIter _) _ _ _)); (fail_if_success (with_reducible show wpAny _ _ (exec (PySem.Stmt.While _ _ _ _) _) _ _ _)); (walk_at "mGo"); walk1))
local macro_rules | `(tactic| walk_at "mStepsP") => `(tactic| repeat' (first | (k_unfold; (try dsimp only)) | walk_at "mStepP" | (dsimp only; walk_at "mStepP")))
local macro_rules | `(tactic| size_fits) => `(tactic| first | assumption | fail "no size")

theorem bits_le {x : Int} {k : Nat} (h0 : 0 ≤ x) (h : x < 2 ^ k) : Builtin.Int.intBits x ≤ k := by
  unfold Builtin.Int.intBits
  by_cases hx : x = 0
  · subst hx; simp
  · have : (x == 0) = false := by simpa using hx
    rw [this]
    simp only [Bool.false_eq_true, if_false]
    have h1 : x.natAbs ≠ 0 := by omega
    have h2 : x.natAbs < 2 ^ k := by
      have : ((x.natAbs : Nat) : Int) = x := Int.natAbs_of_nonneg h0
      have h3 : ((x.natAbs : Nat) : Int) < ((2 ^ k : Nat) : Int) := by rw [this]; exact_mod_cast h
      exact_mod_cast h3
    exact (Nat.log2_lt h1).mpr h2

theorem div2 {w : World} {p : Program} {loose : List Str} {mean : ExcName → Option Value} {mg mb : Str → Option Value}
   {x b n : Int} {tx tb tn : Tok} {news : List (Addr × Obj)}
   {dp un : Nat} {gd : Option (List Code)} {cn : Str} {cs : Scope} {a : Addr} {ccd : Value} {cl : List (Str × Addr)} {outer : List Env} {A₀ : Around} {base h₀ : Heap} {L : Addr} {m : Str → Option Value} {s : Shared} {Q E : Value → Shared → Prop}
   (hB : Below A₀ base outer h₀) (hF : Fr h₀ L s.heap m) (hX : (hd.heap_39 w.params).In h₀) (hT : Top p loose mean mg mb h₀) (hk : cs.kind = .function)
   (hN : News h₀ L s.heap news) (hx : 0 ≤ x ∧ x ≤ 10000) (hb : 1 ≤ b ∧ b ≤ 60) (hn : 1 ≤ n ∧ n ≤ 6)
   (hd : dp + 1 < recursionLimit) (hu : un + 8 < cLine)
   (hret : ∀ (D : Addr) (t1 t2 : Tok) (c : Nat) (h' : Heap) (tk' : Nat), Fr h₀ L h' m → News h₀ L h' ((D, ({ cls := .type "tuple", data := .seq #[.int (x.fdiv b) t1, .int (x.fmod b) t2] c } : Obj)) :: news) → (∀ p ∈ news, p.1 < D) → Q (.ref D) { s with heap := h', toks := tk' }) :
   wpAny (model PySem.Challenge.rw_hd0005_01.row.prog w) (ktrTop dp un gd cn cs L a ccd cl outer) (call (.ref 48) [.int x tx, .int b tb, .int n tn]) Q E s := by
  revert hX
  k_fill
  intro hX
  refine wpAny_call ?_
  k_dflt (walk_at "mEnter")
  rename News _ _ _ _ => N₁
  have hbits : (Builtin.Int.intBits x : Int) ≤ 14 := by exact_mod_cast bits_le (k := 14) hx.1 (by omega)
  walk_at "mSteps"
  exact hret _ _ _ _ _ _ (by assumption) (by assumption) (fun p hp => Heap.lt_size (N₁ p hp).1)

/-- the text's own `inner` of _int2digits, read off the program -/
abbrev iStmt : Stmt := match pj.main.body.getD 8 (Stmt.Pass default) with
  | Stmt.FunctionDef _ _ (_ :: st :: _) _ _ _ _ _ _ _ => st
  | _ => Stmt.Pass default
abbrev iParams : Arguments := match iStmt with | Stmt.FunctionDef _ ps .. => ps | _ => ⟨[], [], none, [], [], none, []⟩
abbrev iBody : List Stmt := match iStmt with | Stmt.FunctionDef _ _ b .. => b | _ => []
abbrev iScope : Scope := match iStmt with | Stmt.FunctionDef _ _ _ _ _ _ sc .. => sc | _ => default

abbrev qn1 : Str := Str.ofString "_int2digits" ++ Str.ofString ".<locals>." ++ Str.ofString "inner"

def wr (n : Int) : Nat → List Int → Int → Int → Int → List Int
  | 0, ns, _, _, _ => ns
  | N+1, ns, x, Lo, R => if Lo + 1 = R then ns.set Lo.toNat x else
      wr n N (wr n N ns (Builtin.bitXor x (x.fdiv (2 ^ (((Lo + R).fdiv (2 ^ Int.toNat 1) - Lo) * n).toNat) * 2 ^ (((Lo + R).fdiv (2 ^ Int.toNat 1) - Lo) * n).toNat)) Lo ((Lo + R).fdiv (2 ^ Int.toNat 1)))
        (x.fdiv (2 ^ (((Lo + R).fdiv (2 ^ Int.toNat 1) - Lo) * n).toNat)) ((Lo + R).fdiv (2 ^ Int.toNat 1)) R

theorem wr_succ (n : Int) (N : Nat) (ns : List Int) (x Lo R : Int) (h : Lo + 1 ≠ R) : wr n (N+1) ns x Lo R =
      wr n N (wr n N ns (Builtin.bitXor x (x.fdiv (2 ^ (((Lo + R).fdiv (2 ^ Int.toNat 1) - Lo) * n).toNat) * 2 ^ (((Lo + R).fdiv (2 ^ Int.toNat 1) - Lo) * n).toNat)) Lo ((Lo + R).fdiv (2 ^ Int.toNat 1)))
        (x.fdiv (2 ^ (((Lo + R).fdiv (2 ^ Int.toNat 1) - Lo) * n).toNat)) ((Lo + R).fdiv (2 ^ Int.toNat 1)) R := by rw [wr, if_neg h]
theorem xor_fin : ∀ x : Fin 61, ∀ s : Fin 37, 0 ≤ Builtin.bitXor (x.val : Int) ((x.val : Int).fdiv (2 ^ s.val) * 2 ^ s.val) ∧ Builtin.bitXor (x.val : Int) ((x.val : Int).fdiv (2 ^ s.val) * 2 ^ s.val) ≤ 60 ∧ 0 ≤ (x.val : Int).fdiv (2 ^ s.val) ∧ (x.val : Int).fdiv (2 ^ s.val) ≤ 60 := by decide +kernel
theorem sh_small {x : Int} {s : Nat} (h0 : 0 ≤ x) (h1 : x ≤ 60) (hs : s ≤ 36) : (0 ≤ Builtin.bitXor x (x.fdiv (2 ^ s) * 2 ^ s) ∧ Builtin.bitXor x (x.fdiv (2 ^ s) * 2 ^ s) ≤ 60) ∧ (0 ≤ x.fdiv (2 ^ s) ∧ x.fdiv (2 ^ s) ≤ 60) := by
  obtain ⟨k, rfl⟩ := Int.eq_ofNat_of_zero_le h0
  have := xor_fin ⟨k, by omega⟩ ⟨s, by omega⟩
  exact ⟨⟨this.1, this.2.1⟩, this.2.2⟩
theorem sh_le {d n : Int} (h0 : 0 ≤ d) (h1 : d ≤ 6) (hn : 1 ≤ n ∧ n ≤ 6) : (d * n).toNat ≤ 36 := by
  have h : d * n ≤ 6 * 6 := Int.mul_le_mul h1 hn.2 (by omega) (by omega)
  omega

theorem inner1 (w : World) (p : Program) (loose : List Str) (mean : ExcName → Option Value) (mg mb : Str → Option Value) (n : Int) (tn : Tok) (f D c' aN aI aA : Addr) (oc oN oI oA : Obj) (vsc : Array Value) (tq : Tok) (doc pm ct : Value) (tail : List (Addr × Obj)) (hn : 1 ≤ n ∧ n ≤ 6)
   (hoff : ∀ p ∈ tail, p.1 ≠ D)
   (hf : (f, fnMade (Str.ofString "inner") qn1 iParams iBody iScope [(Str.ofString "n", aN), (Str.ofString "inner", aI), (Str.ofString "a_digits", aA)] doc pm c' ct) ∈ tail)
   (hc : (c', oc) ∈ tail) (hc1 : oc.data = .fields vsc) (hc2 : vsc[1]? = some (.str qn1 tq))
   (hN1 : (aN, oN) ∈ tail) (hN2 : oN.data = .cell (some (.int n tn))) (hI1 : (aI, oI) ∈ tail) (hI2 : oI.data = .cell (some (.ref f))) (hA1 : (aA, oA) ∈ tail) (hA2 : oA.data = .cell (some (.ref D)))
   (N : Nat) : ∀ (x Lo R : Int) (tx tl tr : Tok) (vs : List Value) (ns : List Int) (nn : Nat)
   (dp un : Nat) (gd : Option (List Code)) (cn : Str) (cs : Scope) (a : Addr) (ccd : Value) (cl : List (Str × Addr)) (outer : List Env) (A₀ : Around) (base h₀ : Heap) (L : Addr) (m : Str → Option Value) (s : Shared) (Q E : Value → Shared → Prop)
   (hB : Below A₀ base outer h₀) (hF : Fr h₀ L s.heap m) (hX : (hd.heap_39 w.params).In h₀) (hT : Top p loose mean mg mb h₀) (hk : cs.kind = .function)
   (codeHd : CodeHd base 61 57)
   (hN : News h₀ L s.heap ((D, listOf vs.toArray nn) :: tail)) (hns : IntsAre vs ns) (h0 : 0 ≤ Lo) (h1 : Lo < R) (h2 : R ≤ ns.length) (h3 : ns.length ≤ 6) (h4 : 0 ≤ x ∧ x ≤ 60) (h5 : R - Lo ≤ N)
   (hd : dp + N + 1 < recursionLimit) (hu : un + 8 * (N + 1) < cLine)
   (hret : ∀ (vs' : List Value) (nn' : Nat) (h' : Heap) (tk' : Nat), IntsAre vs' (wr n N ns x Lo R) → (wr n N ns x Lo R).length = ns.length → Fr h₀ L h' m → News h₀ L h' ((D, listOf vs'.toArray nn') :: tail) → Q .none { s with heap := h', toks := tk' }),
   wpAny (model PySem.Challenge.rw_hd0005_01.row.prog w) (ktrTop dp un gd cn cs L a ccd cl outer) (call (.ref f) [.int x tx, .int Lo tl, .int R tr]) Q E s := by
  conv at hf => whnf
  induction N with
  | zero => intros; exfalso; omega
  | succ N ih =>
    intro x Lo R tx tl tr vs ns nn dp un gd cn cs a ccd cl outer A₀ base h₀ L m s Q E hB hF hX hT hk codeHd hN hns h0 h1 h2 h3 h4 h5 hd hu hret
    revert hX
    k_fill
    intro hX
    refine wpAny_call ?_
    have hmb : Lo ≤ (Lo + R).fdiv (2 ^ Int.toNat 1) ∧ (Lo + R).fdiv (2 ^ Int.toNat 1) ≤ R := by
      rw [show (2 ^ Int.toNat 1 : Int) = 2 from rfl, Int.fdiv_eq_ediv_of_nonneg _ (by decide)]; omega
    have hsn := sh_le (d := (Lo + R).fdiv (2 ^ Int.toNat 1) - Lo) (n := n) (by omega) (by omega) hn
    have hs0 : 0 ≤ ((Lo + R).fdiv (2 ^ Int.toNat 1) - Lo) * n := Int.mul_nonneg (by omega) (by omega)
    have hs1 : ((Lo + R).fdiv (2 ^ Int.toNat 1) - Lo) * n ≤ 36 := by omega
    have ⟨hlo, hup⟩ := sh_small h4.1 h4.2 hsn
    k_dflt (walk_at "mEnterN")
    walk_at "mStepsC"
    · rename Lo + 1 = R => hlr
      rename Fr h₀ L _ m => kF9
      rename News h₀ L _ _ => kN9
      have e : wr n (N+1) ns x Lo R = ns.set Lo.toNat x := by rw [wr, if_pos hlr]
      exact hret _ nn _ _ (by rw [e]; assumption) (by rw [e]; assumption) kF9 kN9
    · rename Lo + 1 ≠ R => hlr
      have e := wr_succ n N ns x Lo R hlr
      obtain ⟨m1, m2⟩ : Lo < (Lo + R).fdiv (2 ^ Int.toNat 1) ∧ (Lo + R).fdiv (2 ^ Int.toNat 1) < R := by
        rw [show (2 ^ Int.toNat 1 : Int) = 2 from rfl, Int.fdiv_eq_ediv_of_nonneg _ (by decide)]; omega
      rename News _ _ _ _ => N₁
      rename Fr _ _ _ _ => F₁
      refine ⟨FnAt.of N₁ (.tail _ hf), ?_⟩
      have ih2 := ih (Builtin.bitXor x (x.fdiv (2 ^ (((Lo + R).fdiv (2 ^ Int.toNat 1) - Lo) * n).toNat) * 2 ^ (((Lo + R).fdiv (2 ^ Int.toNat 1) - Lo) * n).toNat)) Lo ((Lo + R).fdiv (2 ^ Int.toNat 1))
      k_dflt (refine' ih2 _ _ _ vs ns nn _ _ _ _ _ _ _ _ _ _ _ _ _ _ _ _ _ ?zb F₁ ?zxx ?zt rfl codeHd N₁ hns h0 m1 ?zg2 h3 hlo ?zg5 ?zgd ?zgu ?zr)
      case zb => assumption
      case zxx => assumption
      case zt => assumption
      case zg2 => omega
      case zg5 => omega
      case zgd => show dp + 1 + N + 1 < recursionLimit; omega
      case zgu => show un + 3 + 8 * (N + 1) < cLine; omega
      case zr =>
        intro vs1 nn1 h1' tk1 hi1 hl1 F₂ N₂
        dsimp only
        clear F₁ N₁
        walk_at "mStepsC"
        rename News _ _ _ _ => N₃
        rename Fr _ _ _ _ => F₃
        refine ⟨FnAt.of N₃ (.tail _ hf), ?_⟩
        k_dflt (refine' ih _ _ _ _ _ _ vs1 _ nn1 _ _ _ _ _ _ _ _ _ _ _ _ _ _ _ _ _ ?zb F₃ ?zxx ?zt rfl codeHd N₃ hi1 ?zg0 m2 ?zg2 ?zg3 hup ?zg5 ?zgd ?zgu ?zr)
        case zb => assumption
        case zxx => assumption
        case zt => assumption
        case zg0 => omega
        case zg2 => omega
        case zg3 => omega
        case zg5 => omega
        case zgd => show dp + 1 + N + 1 < recursionLimit; omega
        case zgu => show un + 3 + 8 * (N + 1) < cLine; omega
        case zr =>
          intro vs2 nn2 h2' tk2 hi2 hl2 F₄ N₄
          dsimp only
          clear F₃ N₃
          walk_at "mStepsC"
          rename Fr h₀ L _ m => kF9
          rename News h₀ L _ _ => kN9
          exact hret _ nn2 _ _ (by rw [e]; exact hi2) (by rw [e]; exact hl2.trans hl1) kF9 kN9

theorem fnMem {f : Addr} {nm qn qn' : Str} {ps ps' : Arguments} {b b' : List Stmt} {sc sc' : Scope} {cl : List (Str × Addr)} {doc pm ct : Value} {c : Addr} {news : List (Addr × Obj)}
   (h : (f, fnMade nm qn ps b sc cl doc pm c ct) ∈ news) (e1 : qn = qn') (e2 : ps = ps') (e3 : b = b') (e4 : sc = sc') : (f, fnMade nm qn' ps' b' sc' cl doc pm c ct) ∈ news := by subst e1 e2 e3 e4; exact h
theorem inner1' {w : World} {p : Program} {loose : List Str} {mean : ExcName → Option Value} {mg mb : Str → Option Value} {n : Int} {tn : Tok} {f D c' aN aI aA : Addr} {oc oN oI oA : Obj} {vsc : Array Value} {tq : Tok} {doc pm ct : Value} {news : List (Addr × Obj)} {x Lo R : Int} {tx tl tr : Tok} {vs : List Value} {ns : List Int} {nn : Nat}
   {dp un : Nat} {gd : Option (List Code)} {cn : Str} {cs : Scope} {a : Addr} {ccd : Value} {cl : List (Str × Addr)} {outer : List Env} {A₀ : Around} {base h₀ : Heap} {L : Addr} {m : Str → Option Value} {s : Shared} {Q E : Value → Shared → Prop}
   (hB : Below A₀ base outer h₀) (hF : Fr h₀ L s.heap m) (hX : (hd.heap_39 w.params).In h₀) (hT : Top p loose mean mg mb h₀) (hk : cs.kind = .function) (hn : 1 ≤ n ∧ n ≤ 6)
   (codeHd : CodeHd base 61 57) (hN : News h₀ L s.heap news)
   (hf : (f, fnMade (Str.ofString "inner") qn1 iParams iBody iScope [(Str.ofString "n", aN), (Str.ofString "inner", aI), (Str.ofString "a_digits", aA)] doc pm c' ct) ∈ news)
   (hc : (c', oc) ∈ news) (hc1 : oc.data = .fields vsc) (hc2 : vsc[1]? = some (.str qn1 tq))
   (hN1 : (aN, oN) ∈ news) (hN2 : oN.data = .cell (some (.int n tn))) (hI1 : (aI, oI) ∈ news) (hI2 : oI.data = .cell (some (.ref f))) (hA1 : (aA, oA) ∈ news) (hA2 : oA.data = .cell (some (.ref D)))
   (hDl : (D, listOf vs.toArray nn) ∈ news)
   (d1 : f ≠ D) (d2 : c' ≠ D) (d3 : aN ≠ D) (d4 : aI ≠ D) (d5 : aA ≠ D)
   (hns : IntsAre vs ns) (h0 : 0 ≤ Lo) (h1 : Lo < R) (h2 : R ≤ ns.length) (h3 : ns.length ≤ 6) (h4 : 0 ≤ x ∧ x ≤ 60)
   (hd : dp + 8 < recursionLimit) (hu : un + 80 < cLine)
   (hret : ∀ (vs' : List Value) (nn' : Nat) (h' : Heap) (tk' : Nat), IntsAre vs' (wr n (R - Lo).toNat ns x Lo R) → (wr n (R - Lo).toNat ns x Lo R).length = ns.length → Fr h₀ L h' m → News h₀ L h' ((D, listOf vs'.toArray nn') :: news.filter fun p => decide (p.1 ≠ D)) → Q .none { s with heap := h', toks := tk' }) :
   wpAny (model PySem.Challenge.rw_hd0005_01.row.prog w) (ktrTop dp un gd cn cs L a ccd cl outer) (call (.ref f) [.int x tx, .int Lo tl, .int R tr]) Q E s := by
  have keep : ∀ {q : Addr × Obj}, q ∈ news → q.1 ≠ D → q ∈ news.filter fun p => decide (p.1 ≠ D) := fun hq hd => List.mem_filter.mpr ⟨hq, by simpa using hd⟩
  refine inner1 w p loose mean mg mb n tn f D c' aN aI aA oc oN oI oA vsc tq doc pm ct _ hn (fun q hq => by simpa using (List.mem_filter.mp hq).2) (keep hf d1) (keep hc d2) hc1 hc2 (keep hN1 d3) hN2 (keep hI1 d4) hI2 (keep hA1 d5) hA2
    (R - Lo).toNat x Lo R tx tl tr vs ns nn dp un gd cn cs a ccd cl outer A₀ base h₀ L m s Q E hB hF hX hT hk codeHd (fun q hq => ?_) hns h0 h1 h2 h3 h4 (by omega) (by omega) (by omega) hret
  rcases List.mem_cons.mp hq with rfl | hq
  · exact hN _ hDl
  · exact hN _ (List.mem_filter.mp hq).1

theorem refilter1 {g h : Heap} {L D : Addr} {o o₁ : Obj} {x : Addr × Obj} {rest : List (Addr × Obj)} (N : News g L h ((D, o) :: List.filter (fun p => decide (p.1 ≠ D)) (x :: (D, o₁) :: rest))) (hx : x.1 ≠ D) (hr : ∀ p ∈ rest, p.1 ≠ D) :
    News g L h ((D, o) :: x :: rest) := by
  have e : List.filter (fun p : Addr × Obj => decide (p.1 ≠ D)) rest = rest := List.filter_eq_self.mpr fun p hp => by simpa using hr p hp
  rw [List.filter_cons_of_pos (by simpa using hx), List.filter_cons_of_neg (by simp), e] at N
  exact N
theorem refilter2 {g h : Heap} {L D : Addr} {o o₁ : Obj} {x y : Addr × Obj} {rest : List (Addr × Obj)} (N : News g L h ((D, o) :: List.filter (fun p => decide (p.1 ≠ D)) (x :: y :: (D, o₁) :: rest))) (hx : x.1 ≠ D) (hy : y.1 ≠ D) (hr : ∀ p ∈ rest, p.1 ≠ D) :
    News g L h ((D, o) :: x :: y :: rest) := by
  have e : List.filter (fun p : Addr × Obj => decide (p.1 ≠ D)) rest = rest := List.filter_eq_self.mpr fun p hp => by simpa using hr p hp
  rw [List.filter_cons_of_pos (by simpa using hx), List.filter_cons_of_pos (by simpa using hy), List.filter_cons_of_neg (by simp), e] at N
  exact N

theorem sub3 {a b c : Addr × Obj} {tail l : List (Addr × Obj)} (ha : a ∈ l) (hb : b ∈ l) (hc : c ∈ l) (ht : ∀ p ∈ tail, p ∈ l) : ∀ p ∈ a :: b :: ([c] ++ tail), p ∈ l := fun p hp => by
  rcases List.mem_cons.mp hp with rfl | hp
  · exact ha
  · rcases List.mem_cons.mp hp with rfl | hp
    · exact hb
    · rcases List.mem_cons.mp hp with rfl | hp
      · exact hc
      · exact ht p hp
theorem sub2 {a b : Addr × Obj} {tail l : List (Addr × Obj)} (ha : a ∈ l) (hb : b ∈ l) (ht : ∀ p ∈ tail, p ∈ l) : ∀ p ∈ a :: b :: ([] ++ tail), p ∈ l := fun p hp => by
  rcases List.mem_cons.mp hp with rfl | hp
  · exact ha
  · rcases List.mem_cons.mp hp with rfl | hp
    · exact hb
    · exact ht p hp

def Tab1 (ps : Array Value) (tail : List (Addr × Obj)) : Prop :=
  ps = #[] ∨ ∃ c oc vs t, ps = #[rawInt 79, rawInt 4, .ref c] ∧ (c, oc) ∈ tail ∧ oc.data = .fields vs ∧ vs[1]? = some (.str qn1 t)
def nd (x n : Int) : Int := ((Builtin.Int.intBits x : Int) + n - 1).fdiv n
def digs (x n : Int) : List Int := wr n (nd x n).toNat (List.replicate (nd x n).toNat [0]).flatten x 0 (nd x n)
theorem digs_of (x n : Int) (N : Nat) (h : (N : Int) = nd x n) : wr n ((N : Int) - 0).toNat (List.replicate (nd x n).toNat [0]).flatten x 0 N = digs x n := by
  rw [digs, h, Int.sub_zero]
theorem bits_pos {x : Int} (h0 : 1 ≤ x) : 1 ≤ (Builtin.Int.intBits x : Int) := by
  unfold Builtin.Int.intBits
  have : (x == 0) = false := by simp; omega
  rw [this]
  simp only [Bool.false_eq_true, if_false]
  omega
theorem nd_bounds {b n : Int} (h1 : 1 ≤ b) (h2 : b ≤ 6) (hn : 1 ≤ n ∧ n ≤ 6) : 1 ≤ (b + n - 1).fdiv n ∧ (b + n - 1).fdiv n ≤ 6 := by
  rw [Int.fdiv_eq_ediv_of_nonneg _ (by omega)]
  have : n = 1 ∨ n = 2 ∨ n = 3 ∨ n = 4 ∨ n = 5 ∨ n = 6 := by omega
  rcases this with rfl | rfl | rfl | rfl | rfl | rfl <;> omega

local macro_rules | `(tactic| walk_at "mInner1") => `(tactic| (
  (rename News _ _ _ _ => N₁);
  (rename Fr _ _ _ _ => F₁);
  (rename CodeHd _ _ _ => C₁);
  (k_dflt (refine' inner1' ?zB ?zF ?zX ?zT ?zk ?zn ?zC ?zN ?zf ?zc ?zc1 ?zc2 ?zN1 ?zN2 ?zI1 ?zI2 ?zA1 ?zA2 ?zDl ?zd1 ?zd2 ?zd3 ?zd4 ?zd5 ?zns ?z0 ?z1 ?z2 ?z3 ?z4 ?zd ?zu ?zr));
  (case zN => exact N₁);
  (case zF => exact F₁);
  (case zk => exact rfl);
  (case zB => assumption);
  (case zC => exact C₁);
  (case zX => assumption);
  (case zT => assumption);
  (case zf => k_dflt (exact fnMem (List.Mem.head _) rfl rfl rfl rfl));
  (case zc => k_dflt k_mem);
  (case zc1 => assumption);
  (case zc2 => assumption);
  (case zN1 => k_dflt k_mem);
  (case zN2 => assumption);
  (case zI1 => k_dflt k_mem);
  (case zI2 => assumption);
  (case zA1 => k_dflt k_mem);
  (case zA2 => assumption);
  (case zDl => k_dflt k_mem);
  (case zd1 => refine neN ?_; omega);
  (case zd2 => refine neN ?_; omega);
  (case zd3 => refine neN ?_; omega);
  (case zd4 => refine neN ?_; omega);
  (case zd5 => refine neN ?_; omega);
  (case zn => assumption);
  (case zns => assumption);
  (case z0 => omega);
  (case z1 => omega);
  (case z2 => omega);
  (case z3 => omega);
  (case z4 => omega);
  (case zd => (try simp only [depth_deeper]); omega);
  (case zu => (try simp only [units_deeper]); omega)))

theorem i2d {w : World} {p : Program} {loose : List Str} {mean : ExcName → Option Value} {mg mb : Str → Option Value}
   {x n : Int} {tx tn : Tok} {ps : Array Value} {tail : List (Addr × Obj)}
   {dp un : Nat} {gd : Option (List Code)} {cn : Str} {cs : Scope} {a : Addr} {ccd : Value} {cl : List (Str × Addr)} {outer : List Env} {A₀ : Around} {base h₀ : Heap} {L : Addr} {m : Str → Option Value} {s : Shared} {Q E : Value → Shared → Prop}
   (hB : Below A₀ base outer h₀) (hF : Fr h₀ L s.heap m) (hX : (hd.heap_39 w.params).In h₀) (hT : Top p loose mean mg mb h₀) (hk : cs.kind = .function)
   (hx : 1 ≤ x ∧ x ≤ 60) (hn : 1 ≤ n ∧ n ≤ 6)
   (hN : News h₀ L s.heap ((57, tabObj ps) :: tail)) (hoff : ∀ p ∈ tail, p.1 ≠ 57) (htab : Tab1 ps tail) (codeHd : CodeHd base 61 57)
   (hd : dp + 14 < recursionLimit) (hu : un + 100 < cLine)
   (hret : ∀ (D : Addr) (vs : List Value) (nn : Nat) (ps' : Array Value) (ext : List (Addr × Obj)) (h' : Heap) (tk' : Nat), IntsAre vs (digs x n) → ((digs x n).length : Int) = nd x n → Fr h₀ L h' m →
     News h₀ L h' ((D, listOf vs.toArray nn) :: (57, tabObj ps') :: (ext ++ tail)) → Tab1 ps' (ext ++ tail) → (57 < D ∧ AllLt D tail) → (∀ q ∈ ext, 57 < q.1 ∧ AllLt q.1 tail) → Q (.ref D) { s with heap := h', toks := tk' }) :
   wpAny (model PySem.Challenge.rw_hd0005_01.row.prog w) (ktrTop dp un gd cn cs L a ccd cl outer) (call (.ref 62) [.int x tx, .int n tn]) Q E s := by
  revert hX
  k_fill
  intro hX
  refine wpAny_call ?_
  k_dflt (walk_at "mEnterC")
  rename _ ∧ AllLt _ _ => l57
  obtain ⟨l57, lT⟩ := l57
  have hbits : (Builtin.Int.intBits x : Int) ≤ 6 := by exact_mod_cast bits_le (k := 6) (by omega) (by omega)
  have hbits1 : 1 ≤ (Builtin.Int.intBits x : Int) := bits_pos hx.1
  obtain ⟨kl, kh⟩ := nd_bounds hbits1 hbits hn
  have hx0 : x ≠ 0 := by omega
  rcases htab with rfl | htab
  · walk_at "mStepsC"
    · rename News _ _ _ _ => N₁
      rename Fr _ _ _ _ => F₁
      rename_i f1 c1 oc1 vc1 tc1 ctv dcv hh1 tkk1 d1 d2 l1 l2 hh2 o2 d3 a3
      have hfn := FnAt.of N₁ (.head _)
      refine ⟨hfn, ?_⟩
      walk_at "mInner1"
      case zr =>
        intro vs1 nn1 h1 tk1 hi1 hl1 F₂ N₂
        dsimp only
        have N₃ := refilter2 N₂ (by k_ne) (by k_ne) (by k_all)
        clear N₂
        walk_at "mStepsC"
        rename 0 ≤ _ → (_ : Int) = _ * _ => e3
        have e4 := e3 (by omega)
        rw [show ((0 + 1 : Nat) : Int) = 1 from rfl, Int.one_mul] at e4
        have e5 := digs_of x n _ (show _ = nd x n from e4)
        have e6 : (digs x n).length = (nd x n).toNat := by rw [← e5]; refine hl1.trans ?_; rw [KM.len_rep]; simp [nd]
        rename News h₀ L _ _ => kN9
        rename _ < _ ∧ _ < _ ∧ _ < _ ∧ _ < _ ∧ _ < _ ∧ 57 < _ ∧ AllLt _ _ => hc9
        rename _ < _ ∧ _ < _ ∧ _ < _ ∧ _ < _ ∧ 57 < _ ∧ AllLt _ _ => hD9
        refine hret _ vs1 nn1 _ [(c1, oc1)] _ _ (e5 ▸ hi1) (by rw [e6]; exact Int.toNat_of_nonneg (by unfold nd; omega)) (by assumption) (fun q hq => kN9 q (sub3 (by k_mem) (by k_mem) (by k_mem) (fun p hp => by repeat (first | exact hp | refine List.Mem.tail _ ?_)) q hq)) ?_ ?_ ?_
        · exact Or.inr ⟨c1, oc1, _, _, rfl, .head _, d1, d2⟩
        · exact hD9.2.2.2.2
        · intro q hq
          rw [List.mem_singleton.mp hq]
          exact hc9.2.2.2.2.2
    · exfalso; omega
  · have htab' := htab
    obtain ⟨c1, oc1, vc1, tc1, rfl, hc1, hd1, hv1⟩ := htab
    walk_at "mStepsC"
    · rename News _ _ _ _ => N₁
      rename Fr _ _ _ _ => F₁
      rename _ < _ ∧ _ < _ ∧ _ < _ ∧ _ < _ ∧ 57 < _ ∧ AllLt _ _ => hD9
      have hcD := ltN (allLt_mem hD9.2.2.2.2.2 _ hc1)
      dsimp only at hcD
      refine ⟨FnAt.of N₁ (.head _), ?_⟩
      walk_at "mInner1"
      case zr =>
        intro vs1 nn1 h1 tk1 hi1 hl1 F₂ N₂
        dsimp only
        have N₃ := refilter1 N₂ (by k_ne) (by k_all)
        clear N₂
        walk_at "mStepsC"
        rename 0 ≤ _ → (_ : Int) = _ * _ => e3
        have e4 := e3 (by omega)
        rw [show ((0 + 1 : Nat) : Int) = 1 from rfl, Int.one_mul] at e4
        have e5 := digs_of x n _ (show _ = nd x n from e4)
        have e6 : (digs x n).length = (nd x n).toNat := by rw [← e5]; refine hl1.trans ?_; rw [KM.len_rep]; simp [nd]
        rename News h₀ L _ _ => kN9
        refine hret _ vs1 nn1 _ [] _ _ (e5 ▸ hi1) (by rw [e6]; exact Int.toNat_of_nonneg (by unfold nd; omega)) (by assumption) (fun q hq => kN9 q (sub2 (by k_mem) (by k_mem) (fun p hp => by repeat (first | exact hp | refine List.Mem.tail _ ?_)) q hq)) ?_ ?_ ?_
        · exact Or.inr htab'
        · exact hD9.2.2.2.2
        · exact fun _ h => nomatch h
    · exfalso; omega

/-- the text's own `inner` of _digits2int, read off the program -/
abbrev jStmt : Stmt := match pj.main.body.getD 9 (Stmt.Pass default) with
  | Stmt.FunctionDef _ _ (st :: _) _ _ _ _ _ _ _ => st
  | _ => Stmt.Pass default
abbrev jParams : Arguments := match jStmt with | Stmt.FunctionDef _ ps .. => ps | _ => ⟨[], [], none, [], [], none, []⟩
abbrev jBody : List Stmt := match jStmt with | Stmt.FunctionDef _ _ b .. => b | _ => []
abbrev jScope : Scope := match jStmt with | Stmt.FunctionDef _ _ _ _ _ _ sc .. => sc | _ => default

abbrev qn2 : Str := Str.ofString "_digits2int" ++ Str.ofString ".<locals>." ++ Str.ofString "inner"

def rd (n : Int) (ds : List Int) : Nat → Int → Int → Int
  | 0, _, _ => 0
  | N+1, Lo, R => if Lo + 1 = R then ds.getD Lo.toNat 0 else
      rd n ds N ((Lo + R).fdiv (2 ^ Int.toNat 1)) R * 2 ^ (((Lo + R).fdiv (2 ^ Int.toNat 1) - Lo) * n).toNat + rd n ds N Lo ((Lo + R).fdiv (2 ^ Int.toNat 1))
def rdOk (n : Int) (ds : List Int) : Nat → Int → Int → Bool
  | 0, _, _ => true
  | N+1, Lo, R => if Lo + 1 = R then true else
      decide (0 ≤ rd n ds N ((Lo + R).fdiv (2 ^ Int.toNat 1)) R) && (decide (rd n ds N ((Lo + R).fdiv (2 ^ Int.toNat 1)) R < 2 ^ 60) && (rdOk n ds N ((Lo + R).fdiv (2 ^ Int.toNat 1)) R && rdOk n ds N Lo ((Lo + R).fdiv (2 ^ Int.toNat 1))))
theorem rd_succ (n : Int) (ds : List Int) (N : Nat) (Lo R : Int) (h : Lo + 1 ≠ R) : rd n ds (N+1) Lo R =
      rd n ds N ((Lo + R).fdiv (2 ^ Int.toNat 1)) R * 2 ^ (((Lo + R).fdiv (2 ^ Int.toNat 1) - Lo) * n).toNat + rd n ds N Lo ((Lo + R).fdiv (2 ^ Int.toNat 1)) := by rw [rd, if_neg h]
theorem rdOk_succ {n : Int} {ds : List Int} {N : Nat} {Lo R : Int} (h : Lo + 1 ≠ R) (k : rdOk n ds (N+1) Lo R = true) :
      0 ≤ rd n ds N ((Lo + R).fdiv (2 ^ Int.toNat 1)) R ∧ rd n ds N ((Lo + R).fdiv (2 ^ Int.toNat 1)) R < 2 ^ 60 ∧ rdOk n ds N ((Lo + R).fdiv (2 ^ Int.toNat 1)) R = true ∧ rdOk n ds N Lo ((Lo + R).fdiv (2 ^ Int.toNat 1)) = true := by
  rw [rdOk, if_neg h] at k
  simp only [Bool.and_eq_true, decide_eq_true_eq] at k
  exact k

theorem inner2 (w : World) (p : Program) (loose : List Str) (mean : ExcName → Option Value) (mg mb : Str → Option Value) (n : Int) (tn : Tok) (f T c' aN aI aA : Addr) (oc oN oI oA : Obj) (vsc : Array Value) (tq : Tok) (doc pm ct : Value) (tail : List (Addr × Obj)) (hn : 1 ≤ n ∧ n ≤ 6)
   (vs : List Value) (ns : List Int) (nn : Nat) (hTl : (T, listOf vs.toArray nn) ∈ tail) (hns : IntsAre vs ns) (h3 : ns.length ≤ 6)
   (hf : (f, fnMade (Str.ofString "inner") qn2 jParams jBody jScope [(Str.ofString "n", aN), (Str.ofString "inner", aI), (Str.ofString "digits", aA)] doc pm c' ct) ∈ tail)
   (hc : (c', oc) ∈ tail) (hc1 : oc.data = .fields vsc) (hc2 : vsc[1]? = some (.str qn2 tq))
   (hN1 : (aN, oN) ∈ tail) (hN2 : oN.data = .cell (some (.int n tn))) (hI1 : (aI, oI) ∈ tail) (hI2 : oI.data = .cell (some (.ref f))) (hA1 : (aA, oA) ∈ tail) (hA2 : oA.data = .cell (some (.ref T)))
   (N : Nat) : ∀ (Lo R : Int) (tl tr : Tok)
   (dp un : Nat) (gd : Option (List Code)) (cn : Str) (cs : Scope) (a : Addr) (ccd : Value) (cl : List (Str × Addr)) (outer : List Env) (A₀ : Around) (base h₀ : Heap) (L : Addr) (m : Str → Option Value) (s : Shared) (Q E : Value → Shared → Prop)
   (hB : Below A₀ base outer h₀) (hF : Fr h₀ L s.heap m) (hX : (hd.heap_39 w.params).In h₀) (hT : Top p loose mean mg mb h₀) (hk : cs.kind = .function)
   (codeHd : CodeHd base 68 64)
   (hN : News h₀ L s.heap tail) (h0 : 0 ≤ Lo) (h1 : Lo < R) (h2 : R ≤ ns.length) (h5 : R - Lo ≤ N) (h6 : rdOk n ns N Lo R = true)
   (hd : dp + N + 1 < recursionLimit) (hu : un + 8 * (N + 1) < cLine)
   (hret : ∀ (t : Tok) (h' : Heap) (tk' : Nat), Fr h₀ L h' m → News h₀ L h' tail → Q (.int (rd n ns N Lo R) t) { s with heap := h', toks := tk' }),
   wpAny (model PySem.Challenge.rw_hd0005_01.row.prog w) (ktrTop dp un gd cn cs L a ccd cl outer) (call (.ref f) [.int Lo tl, .int R tr]) Q E s := by
  conv at hf => whnf
  induction N with
  | zero => intros; exfalso; omega
  | succ N ih =>
    intro Lo R tl tr dp un gd cn cs a ccd cl outer A₀ base h₀ L m s Q E hB hF hX hT hk codeHd hN h0 h1 h2 h5 h6 hd hu hret
    revert hX
    k_fill
    intro hX
    refine wpAny_call ?_
    have hmb : Lo ≤ (Lo + R).fdiv (2 ^ Int.toNat 1) ∧ (Lo + R).fdiv (2 ^ Int.toNat 1) ≤ R := by
      rw [show (2 ^ Int.toNat 1 : Int) = 2 from rfl, Int.fdiv_eq_ediv_of_nonneg _ (by decide)]; omega
    have hsn := sh_le (d := (Lo + R).fdiv (2 ^ Int.toNat 1) - Lo) (n := n) (by omega) (by omega) hn
    have hs0 : 0 ≤ ((Lo + R).fdiv (2 ^ Int.toNat 1) - Lo) * n := Int.mul_nonneg (by omega) (by omega)
    have hs1 : ((Lo + R).fdiv (2 ^ Int.toNat 1) - Lo) * n ≤ 36 := by omega
    k_dflt (walk_at "mEnterN")
    walk_at "mStepsC"
    · rename Lo + 1 = R => hlr
      rename Fr h₀ L _ m => kF9
      rename News h₀ L _ _ => kN9
      have e : rd n ns (N+1) Lo R = ns.getD Lo.toNat 0 := by rw [rd, if_pos hlr]
      rw [e] at hret
      exact hret _ _ _ kF9 kN9
    · rename Lo + 1 ≠ R => hlr
      have e := rd_succ n ns N Lo R hlr
      obtain ⟨k1, k2, k3, k4⟩ := rdOk_succ hlr h6
      obtain ⟨m1, m2⟩ : Lo < (Lo + R).fdiv (2 ^ Int.toNat 1) ∧ (Lo + R).fdiv (2 ^ Int.toNat 1) < R := by
        rw [show (2 ^ Int.toNat 1 : Int) = 2 from rfl, Int.fdiv_eq_ediv_of_nonneg _ (by decide)]; omega
      rename News _ _ _ _ => N₁
      rename Fr _ _ _ _ => F₁
      refine ⟨FnAt.of N₁ hf, ?_⟩
      k_dflt (refine' ih _ _ _ _ _ _ _ _ _ _ _ _ _ _ _ _ _ _ _ _ _ ?zb F₁ ?zxx ?zt rfl codeHd N₁ ?zg0 m2 ?zg2 ?zg5 k3 ?zgd ?zgu ?zr)
      case zb => assumption
      case zxx => assumption
      case zt => assumption
      case zg0 => omega
      case zg2 => omega
      case zg5 => omega
      case zgd => show dp + 1 + N + 1 < recursionLimit; omega
      case zgu => show un + 3 + 8 * (N + 1) < cLine; omega
      case zr =>
        intro t1 h1' tk1 F₂ N₂
        dsimp only
        clear F₁ N₁
        walk_at "mStepsC"
        rename News _ _ _ _ => N₃
        rename Fr _ _ _ _ => F₃
        refine ⟨FnAt.of N₃ hf, ?_⟩
        k_dflt (refine' ih _ _ _ _ _ _ _ _ _ _ _ _ _ _ _ _ _ _ _ _ _ ?zb F₃ ?zxx ?zt rfl codeHd N₃ h0 m1 ?zg2 ?zg5 k4 ?zgd ?zgu ?zr)
        case zb => assumption
        case zxx => assumption
        case zt => assumption
        case zg2 => omega
        case zg5 => omega
        case zgd => show dp + 1 + N + 1 < recursionLimit; omega
        case zgu => show un + 3 + 8 * (N + 1) < cLine; omega
        case zr =>
          intro t2 h2' tk2 F₄ N₄
          dsimp only
          clear F₃ N₃
          walk_at "mStepsC"
          rename Fr h₀ L _ m => kF9
          rename News h₀ L _ _ => kN9
          rw [e] at hret
          exact hret _ _ _ kF9 kN9

theorem inner2' {w : World} {p : Program} {loose : List Str} {mean : ExcName → Option Value} {mg mb : Str → Option Value} {n : Int} {tn : Tok} {f T c' aN aI aA : Addr} {oc oN oI oA : Obj} {vsc : Array Value} {tq : Tok} {doc pm ct : Value} {tail : List (Addr × Obj)} {vs : List Value} {ns : List Int} {nn : Nat} {N : Nat} {Lo R : Int} {tl tr : Tok}
   {dp un : Nat} {gd : Option (List Code)} {cn : Str} {cs : Scope} {a : Addr} {ccd : Value} {cl : List (Str × Addr)} {outer : List Env} {A₀ : Around} {base h₀ : Heap} {L : Addr} {m : Str → Option Value} {s : Shared} {Q E : Value → Shared → Prop}
   (hB : Below A₀ base outer h₀) (hF : Fr h₀ L s.heap m) (hX : (hd.heap_39 w.params).In h₀) (hT : Top p loose mean mg mb h₀) (hk : cs.kind = .function) (hn : 1 ≤ n ∧ n ≤ 6) (codeHd : CodeHd base 68 64) (hN : News h₀ L s.heap tail)
   (hf : (f, fnMade (Str.ofString "inner") qn2 jParams jBody jScope [(Str.ofString "n", aN), (Str.ofString "inner", aI), (Str.ofString "digits", aA)] doc pm c' ct) ∈ tail)
   (hc : (c', oc) ∈ tail) (hc1 : oc.data = .fields vsc) (hc2 : vsc[1]? = some (.str qn2 tq))
   (hN1 : (aN, oN) ∈ tail) (hN2 : oN.data = .cell (some (.int n tn))) (hI1 : (aI, oI) ∈ tail) (hI2 : oI.data = .cell (some (.ref f))) (hA1 : (aA, oA) ∈ tail) (hA2 : oA.data = .cell (some (.ref T)))
   (hTl : (T, listOf vs.toArray nn) ∈ tail) (hns : IntsAre vs ns) (h3 : ns.length ≤ 6)
   (h0 : 0 ≤ Lo) (h1 : Lo < R) (h2 : R ≤ ns.length) (h5 : R - Lo ≤ N) (h6 : rdOk n ns N Lo R = true)
   (hd : dp + N + 1 < recursionLimit) (hu : un + 8 * (N + 1) < cLine)
   (hret : ∀ (t : Tok) (h' : Heap) (tk' : Nat), Fr h₀ L h' m → News h₀ L h' tail → Q (.int (rd n ns N Lo R) t) { s with heap := h', toks := tk' }) :
   wpAny (model PySem.Challenge.rw_hd0005_01.row.prog w) (ktrTop dp un gd cn cs L a ccd cl outer) (call (.ref f) [.int Lo tl, .int R tr]) Q E s :=
  inner2 w p loose mean mg mb n tn f T c' aN aI aA oc oN oI oA vsc tq doc pm ct tail hn vs ns nn hTl hns h3 hf hc hc1 hc2 hN1 hN2 hI1 hI2 hA1 hA2 N Lo R tl tr dp un gd cn cs a ccd cl outer A₀ base h₀ L m s Q E hB hF hX hT hk codeHd hN h0 h1 h2 h5 h6 hd hu hret

def Tab2 (ps : Array Value) (tail : List (Addr × Obj)) : Prop :=
  ps = #[] ∨ ∃ c oc vs t, ps = #[rawInt 94, rawInt 4, .ref c] ∧ (c, oc) ∈ tail ∧ oc.data = .fields vs ∧ vs[1]? = some (.str qn2 t)

theorem sub3' {b c : Addr × Obj} {tail l : List (Addr × Obj)} (hb : b ∈ l) (hc : c ∈ l) (ht : ∀ p ∈ tail, p ∈ l) : ∀ p ∈ b :: ([c] ++ tail), p ∈ l := fun p hp => by
  rcases List.mem_cons.mp hp with rfl | hp
  · exact hb
  · rcases List.mem_cons.mp hp with rfl | hp
    · exact hc
    · exact ht p hp
theorem sub2' {b : Addr × Obj} {tail l : List (Addr × Obj)} (hb : b ∈ l) (ht : ∀ p ∈ tail, p ∈ l) : ∀ p ∈ b :: ([] ++ tail), p ∈ l := fun p hp => by
  rcases List.mem_cons.mp hp with rfl | hp
  · exact hb
  · exact ht p hp
local macro_rules | `(tactic| walk_at "mInner2") => `(tactic| (
  (case zB => assumption);
  (case zX => assumption);
  (case zT => assumption);
  (case zf => k_dflt (exact fnMem (List.Mem.head _) rfl rfl rfl rfl));
  (case zc => k_dflt k_mem);
  (case zN1 => k_dflt k_mem);
  (case zN2 => assumption);
  (case zI1 => k_dflt k_mem);
  (case zI2 => assumption);
  (case zA1 => k_dflt k_mem);
  (case zA2 => assumption);
  (case zTl => k_dflt k_mem);
  (case z0 => omega);
  (case z1 => omega);
  (case z2 => omega);
  (case z5 => omega);
  (case zd => (try simp only [depth_deeper]); omega);
  (case zu => (try simp only [units_deeper]); omega)))

theorem d2i {w : World} {p : Program} {loose : List Str} {mean : ExcName → Option Value} {mg mb : Str → Option Value}
   {n : Int} {T : Addr} {vs : List Value} {ns : List Int} {nn : Nat} {tn : Tok} {ps : Array Value} {tail : List (Addr × Obj)}
   {dp un : Nat} {gd : Option (List Code)} {cn : Str} {cs : Scope} {a : Addr} {ccd : Value} {cl : List (Str × Addr)} {outer : List Env} {A₀ : Around} {base h₀ : Heap} {L : Addr} {m : Str → Option Value} {s : Shared} {Q E : Value → Shared → Prop}
   (hB : Below A₀ base outer h₀) (hF : Fr h₀ L s.heap m) (hX : (hd.heap_39 w.params).In h₀) (hT : Top p loose mean mg mb h₀) (hk : cs.kind = .function)
   (hN : News h₀ L s.heap ((64, tabObj ps) :: tail)) (hoff : ∀ p ∈ tail, p.1 ≠ 64) (htab : Tab2 ps tail) (codeHd : CodeHd base 68 64)
   (hTl : (T, listOf vs.toArray nn) ∈ tail) (hns : IntsAre vs ns) (hlen : 1 ≤ ns.length ∧ ns.length ≤ 6) (hn : 1 ≤ n ∧ n ≤ 6) (hok : rdOk n ns ns.length 0 ns.length = true)
   (hd : dp + 14 < recursionLimit) (hu : un + 100 < cLine)
   (hret : ∀ (t : Tok) (ps' : Array Value) (ext : List (Addr × Obj)) (h' : Heap) (tk' : Nat), Fr h₀ L h' m →
     News h₀ L h' ((64, tabObj ps') :: (ext ++ tail)) → Tab2 ps' (ext ++ tail) → (∀ q ∈ ext, 64 < q.1 ∧ AllLt q.1 tail) → Q (.int (rd n ns ns.length 0 ns.length) t) { s with heap := h', toks := tk' }) :
   wpAny (model PySem.Challenge.rw_hd0005_01.row.prog w) (ktrTop dp un gd cn cs L a ccd cl outer) (call (.ref 69) [.ref T, .int n tn]) Q E s := by
  revert hX
  k_fill
  intro hX
  refine wpAny_call ?_
  k_dflt (walk_at "mEnterC")
  rename _ ∧ AllLt _ _ => l57
  obtain ⟨l57, lT⟩ := l57
  have hlt : ∀ q ∈ tail, q.1 < _ := allLt_mem lT
  rcases htab with rfl | htab
  · walk_at "mStepsC"
    rename News _ _ _ _ => N₁
    rename Fr _ _ _ _ => F₁
    rename_i f1 c1 oc1 vc1 tc1 ctv dcv hh1 tkk1 d1 d2 l1 l2 hh2 o2 d3
    refine ⟨FnAt.of N₁ (.head _), ?_⟩
    k_dflt (refine' inner2' (N := ns.length) ?zB F₁ ?zX ?zT rfl hn codeHd N₁ ?zf ?zc d1 d2 ?zN1 ?zN2 ?zI1 ?zI2 ?zA1 ?zA2 ?zTl hns hlen.2 ?z0 ?z1 ?z2 ?z5 hok ?zd ?zu ?zr)
    walk_at "mInner2"
    case zr =>
      intro t1 h1' tk1 F₂ N₂
      dsimp only
      clear F₁ N₁
      walk_at "mStepsC"
      rename News h₀ L _ _ => kN9
      refine hret t1 _ [(c1, oc1)] _ _ (by assumption) (fun q hq => kN9 q (sub3' (by k_mem) (by k_mem) (fun p hp => by repeat (first | exact hp | refine List.Mem.tail _ ?_)) q hq)) ?_ ?_
      · exact Or.inr ⟨c1, oc1, _, _, rfl, .head _, d1, d2⟩
      · intro q hq
        rw [List.mem_singleton.mp hq]
        exact l1.2.2.2
  · have htab' := htab
    obtain ⟨c1, oc1, vc1, tc1, rfl, hc1, hd1, hv1⟩ := htab
    walk_at "mStepsC"
    rename News _ _ _ _ => N₁
    rename Fr _ _ _ _ => F₁
    refine ⟨FnAt.of N₁ (.head _), ?_⟩
    k_dflt (refine' inner2' (N := ns.length) ?zB F₁ ?zX ?zT rfl hn codeHd N₁ ?zf ?zc hd1 hv1 ?zN1 ?zN2 ?zI1 ?zI2 ?zA1 ?zA2 ?zTl hns hlen.2 ?z0 ?z1 ?z2 ?z5 hok ?zd ?zu ?zr)
    walk_at "mInner2"
    case zr =>
      intro t1 h1' tk1 F₂ N₂
      dsimp only
      clear F₁ N₁
      walk_at "mStepsC"
      rename News h₀ L _ _ => kN9
      refine hret t1 _ [] _ _ (by assumption) (fun q hq => kN9 q (sub2' (by k_mem) (fun p hp => by repeat (first | exact hp | refine List.Mem.tail _ ?_)) q hq)) ?_ ?_
      · exact Or.inr htab'
      · exact fun _ h => nomatch h

section
open PyProof.V PySem.Spec
variable {prog : Program} {w : World} {A : Around} {E : Value → Shared → Prop} {s : Shared} {env : Env} {h₀ : Heap} {x : Str} {body : List Stmt} {Q : Flow → Shared → Prop}

theorem rev_ind {I : Addr} {lpp : Addr × Obj} (Inv : List Int → (Str → Option Value) → List (Addr × Obj) → Prop)
    (step : ∀ (d : Int) (rs : List Int) (t : Tok) m news (it : Obj) h tk, Inv (d :: rs) m news → it.cls = .type "list_reverseiterator" → Fr h₀ env.locals h (fun y => if y = x then some (.int d t) else m y) → News h₀ env.locals h ((I, it) :: news) →
      wpAny (model prog w) A (execs body env) (UnrPost h₀ env.locals { s with heap := h, toks := tk } I it (fun m' n' => lpp ∈ n' ∧ Inv rs m' n') Q) E { s with heap := h, toks := tk })
    (fin : ∀ m news h tk, Inv [] m news → Fr h₀ env.locals h m → News h₀ env.locals h news → Q .next { s with heap := h, toks := tk }) :
    ∀ (r : List Value) (rs : List Int), IntsAre r rs → ∀ m news, Inv rs m news → RevRest prog w A E h₀ env x body Q s I lpp r m news := by
  intro r
  induction r with
  | nil =>
    intro rs hi m news hI
    cases hi
    exact RevRest.zero fun h tk F N => fin m news h tk hI F N
  | cons v r ih =>
    intro rs hi m news hI
    cases hi with
    | @cons d t _ rs' hi' =>
      refine RevRest.succ fun it h tk hc F N => ?_
      refine wpAny_mono (step d rs' t m news it h tk hI hc F N) (fun f s₂ p => ?_) fun _ _ e => e
      have up : UnrEnd h₀ env.locals { s with heap := h, toks := tk } I it (fun m' n' => lpp ∈ n' ∧ Inv rs' m' n') s₂ → UnrEnd h₀ env.locals { s with heap := h, toks := tk } I it (fun m' n' => lpp ∈ n' ∧ RevRest prog w A E h₀ env x body Q s I lpp r m' n') s₂ := by
        rintro ⟨h', tk', m', news', e, F', N', ho, hm, hI'⟩
        exact ⟨h', tk', m', news', e, F', N', ho, hm, ih _ hi' _ _ hI'⟩
      cases f with
      | ret v => exact p
      | brk => exact p
      | next => exact up p
      | cont => exact up p

theorem my_forRev {ax I : Addr} {lo : Obj} {vs : List Value} {ns : List Int} {n : Nat} {m₀ : Str → Option Value} {news : List (Addr × Obj)} (Inv : (Str → Option Value) → List Int → (Str → Option Value) → List (Addr × Obj) → Prop)
    (hh : A.handled = none) (F : Fr h₀ env.locals s.heap m₀) (N : News h₀ env.locals s.heap ((I, revObj ax ((vs.length : Int) - 1)) :: news)) (hof : ∀ p ∈ news, p.1 ≠ I) (hm : (ax, lo) ∈ news) (hc : lo.cls = .type "list") (hd : lo.data = .seq vs.toArray n) (hi : IntsAre vs ns)
    (h0 : Inv m₀ ns.reverse m₀ news)
    (step : ∀ (d : Int) (rs : List Int) (t : Tok) m news (it : Obj) h tk, Inv m₀ (d :: rs) m news → it.cls = .type "list_reverseiterator" → Fr h₀ env.locals h (fun y => if y = x then some (.int d t) else m y) → News h₀ env.locals h ((I, it) :: news) →
      wpAny (model prog w) A (execs body env) (UnrPost h₀ env.locals { s with heap := h, toks := tk } I it (fun m' n' => (ax, lo) ∈ n' ∧ Inv m₀ rs m' n') Q) E { s with heap := h, toks := tk })
    (fin : ∀ m news h tk, Inv m₀ [] m news → Fr h₀ env.locals h m → News h₀ env.locals h news → Q .next { s with heap := h, toks := tk }) :
    wpAny (model prog w) A (pyIter (.ref I)) (fun it s₂ => LoopAtV prog w A h₀ env x body Q E it s₂) E s := by
  have off : ∀ (l : List (Addr × Obj)), (∀ p ∈ l, p.1 ≠ I) → OffI I (revObj ax ((vs.length : Int) - 1)) l := by
    intro l
    induction l with
    | nil => intro _; trivial
    | cons p r ih => intro h; exact ⟨.inl (h p (.head _)), ih fun q hq => h q (.tail _ hq)⟩
  exact iter_revUnr (lo := lo) (vs := vs) hh F N (off _ hof) hm hc hd (rev_ind (Inv m₀) step fin _ _ (PyProof.Rows.IntsAre.reverse hi) _ _ h0)

theorem kst_norm {m' m₀ : Str → Option Value} {ps : List (Str × Value)} {stored : List Str} (h1 : ∀ p ∈ ps, m' p.1 = some p.2) (h2 : ∀ z, (∀ p ∈ ps, z ≠ p.1) → stored.contains z = false → m' z = m₀ z) :
    m' = kstB (fun z => if stored.contains z then m' z else m₀ z) ps := by
  funext y
  refine (kstB_eq h1 fun hn => ?_).symm
  show (if stored.contains y = true then m' y else m₀ y) = m' y
  cases h3 : stored.contains y with
  | true => simp
  | false => simp only [Bool.false_eq_true, if_false]; exact (h2 y hn h3).symm
theorem same3 {m₀ u : Str → Option Value} {z a b c : Str} {va vb vc va' : Value} (ha : z ≠ a) (hv : [c, b].contains z = false) :
    (if z = a then some va else if z = b then some vb else if z = c then some vc else kstB (fun z => if [c, b].contains z then u z else m₀ z) [(a, va')] z) = m₀ z := by
  have hb : z ≠ b := fun e => by subst e; simp at hv
  have hc : z ≠ c := fun e => by subst e; simp at hv
  simp only [kstB, if_neg ha, if_neg hb, if_neg hc, hv, Bool.false_eq_true, if_false]
end

def lp (b n : Int) : List Int → Int → List Int → List Int × Int
  | [], r, qs => (qs, r)
  | d :: ds, r, qs => lp b n ds ((r * 2 ^ n.toNat + d).fmod b) (qs ++ [(r * 2 ^ n.toNat + d).fdiv b])
def lpOk (b n : Int) : List Int → Int → Bool
  | [], _ => true
  | d :: ds, r => decide (0 ≤ r) && (decide (r ≤ 60) && (decide (0 ≤ r * 2 ^ n.toNat + d) && (decide (r * 2 ^ n.toNat + d ≤ 10000) && lpOk b n ds ((r * 2 ^ n.toNat + d).fmod b))))
theorem lpOk_cons {b n d r : Int} {ds : List Int} (h : lpOk b n (d :: ds) r = true) : 0 ≤ r ∧ r ≤ 60 ∧ 0 ≤ r * 2 ^ n.toNat + d ∧ r * 2 ^ n.toNat + d ≤ 10000 ∧ lpOk b n ds ((r * 2 ^ n.toNat + d).fmod b) = true := by
  simpa only [lpOk, Bool.and_eq_true, decide_eq_true_eq] using h
theorem Tab1.mono {ps : Array Value} {t t' : List (Addr × Obj)} (h : Tab1 ps t) (hs : ∀ p ∈ t, p ∈ t') : Tab1 ps t' :=
  h.imp id fun ⟨c, oc, vs, t, a, b, r⟩ => ⟨c, oc, vs, t, a, hs _ b, r⟩
theorem Tab2.mono {ps : Array Value} {t t' : List (Addr × Obj)} (h : Tab2 ps t) (hs : ∀ p ∈ t, p ∈ t') : Tab2 ps t' :=
  h.imp id fun ⟨c, oc, vs, t, a, b, r⟩ => ⟨c, oc, vs, t, a, hs _ b, r⟩

/-- what _divmod_pos(x, b) reckons -/
def dvF (x b : Int) : List Int × Int := lp b (Builtin.Int.intBits b : Int) (digs x (Builtin.Int.intBits b : Int)).reverse 0 []
def dvOk (x b : Int) : Bool :=
  lpOk b (Builtin.Int.intBits b : Int) (digs x (Builtin.Int.intBits b : Int)).reverse 0 &&
  rdOk (Builtin.Int.intBits b : Int) (dvF x b).1.reverse (dvF x b).1.reverse.length 0 (dvF x b).1.reverse.length &&
  decide (rd (Builtin.Int.intBits b : Int) (dvF x b).1.reverse (dvF x b).1.reverse.length 0 (dvF x b).1.reverse.length = x.fdiv b) && decide ((dvF x b).2 = x.fmod b) &&
  decide ((digs x (Builtin.Int.intBits b : Int)).length = (nd x (Builtin.Int.intBits b : Int)).toNat)

def dvInv (x b : Int) (lq : Addr) (fix : List (Addr × Obj)) (m₀ : Str → Option Value) (rs : List Int) (m : Str → Option Value) (news : List (Addr × Obj)) : Prop :=
  ∃ (qs : List Int) (qv : List Value) (nq : Nat) (rr : Int) (tr : Tok) (u : Str → Option Value), m = kstB (fun z => if [Str.ofString "a_digit", Str.ofString "q_digit"].contains z then u z else m₀ z) [(Str.ofString "r", .int rr tr)] ∧
    news = (lq, listOf qv.toArray nq) :: fix ∧ IntsAre qv qs ∧ lp b (Builtin.Int.intBits b : Int) rs rr qs = dvF x b ∧ lpOk b (Builtin.Int.intBits b : Int) rs rr = true ∧ qs.length + rs.length = (digs x (Builtin.Int.intBits b : Int)).length

def DvRet (h₀ : Heap) (L : Addr) (m : Str → Option Value) (tail : List (Addr × Obj)) (s : Shared) (Q : Value → Shared → Prop) (x b : Int) : Prop :=
  ∀ (Dt : Addr) (t1 t2 : Tok) (c : Nat) (p1' p2' : Array Value) (ext : List (Addr × Obj)) (h' : Heap) (tk' : Nat), Fr h₀ L h' m →
    News h₀ L h' ((Dt, ({ cls := .type "tuple", data := .seq #[.int (x.fdiv b) t1, .int (x.fmod b) t2] c } : Obj)) :: (57, tabObj p1') :: (64, tabObj p2') :: (ext ++ tail)) → Tab1 p1' (ext ++ tail) → Tab2 p2' (ext ++ tail) →
    (∀ q ∈ ext, 57 < q.1 ∧ 64 < q.1 ∧ ∀ p ∈ tail, p.1 < q.1) → (57 < Dt ∧ 64 < Dt ∧ ∀ p ∈ tail, p.1 < Dt) → Q (.ref Dt) { s with heap := h', toks := tk' }
theorem Tab1.no {ps : Array Value} {t1 : List (Addr × Obj)} (h : Tab1 ps t1) {q : Str} {t : Tok} (hv : ps[1]? = some (.str q t)) : False := by
  rcases h with h | ⟨c', _, _, _, h, _⟩
  · rw [h] at hv; cases hv
  · rw [h] at hv; cases hv
theorem Tab2.no {ps : Array Value} {t1 : List (Addr × Obj)} (h : Tab2 ps t1) {q : Str} {t : Tok} (hv : ps[1]? = some (.str q t)) : False := by
  rcases h with h | ⟨c', _, _, _, h, _⟩
  · rw [h] at hv; cases hv
  · rw [h] at hv; cases hv
theorem Tab1.drop {ps p2 : Array Value} {ext tail t2 : List (Addr × Obj)} {a : Addr} (h : Tab1 ps (ext ++ (a, tabObj p2) :: tail)) (h2 : Tab2 p2 t2) : Tab1 ps (ext ++ tail) := by
  rcases h with h | ⟨c, oc, vs, t, e, hm, hd, hv⟩
  · exact .inl h
  · refine .inr ⟨c, oc, vs, t, e, ?_, hd, hv⟩
    rcases List.mem_append.mp hm with hm | hm
    · exact List.mem_append_left _ hm
    · rcases List.mem_cons.mp hm with hm | hm
      · exfalso
        cases hm
        cases hd
        exact h2.no hv
      · exact List.mem_append_right _ hm
theorem Tab2.drop {ps p1 : Array Value} {ext tail t1 : List (Addr × Obj)} {a b c : Addr} {x y : Array Value} {i j : Nat} (h : Tab2 ps (ext ++ (a, listOf x i) :: (b, listOf y j) :: (c, tabObj p1) :: tail)) (h1 : Tab1 p1 t1) : Tab2 ps (ext ++ tail) := by
  rcases h with h | ⟨c, oc, vs, t, e, hm, hd, hv⟩
  · exact .inl h
  · refine .inr ⟨c, oc, vs, t, e, ?_, hd, hv⟩
    rcases List.mem_append.mp hm with hm | hm
    · exact List.mem_append_left _ hm
    · rcases List.mem_cons.mp hm with hm | hm
      · cases hm; cases hd
      · rcases List.mem_cons.mp hm with hm | hm
        · cases hm; cases hd
        · rcases List.mem_cons.mp hm with hm | hm
          · exfalso
            cases hm
            cases hd
            exact h1.no hv
          · exact List.mem_append_right _ hm

theorem dvp {w : World} {p : Program} {loose : List Str} {mean : ExcName → Option Value} {mg mb : Str → Option Value}
   {x b : Int} {tx tb : Tok} {p1 p2 : Array Value} {tail : List (Addr × Obj)}
   {dp un : Nat} {gd : Option (List Code)} {cn : Str} {cs : Scope} {a : Addr} {ccd : Value} {cl : List (Str × Addr)} {outer : List Env} {A₀ : Around} {base h₀ : Heap} {L : Addr} {m : Str → Option Value} {s : Shared} {Q E : Value → Shared → Prop}
   (hB : Below A₀ base outer h₀) (hF : Fr h₀ L s.heap m) (hX : (hd.heap_39 w.params).In h₀) (hT : Top p loose mean mg mb h₀) (hk : cs.kind = .function)
   (hx : 1 ≤ x ∧ x ≤ 60) (hb : 1 ≤ b ∧ b ≤ 60) (hall : dvOk x b = true)
   (hN : News h₀ L s.heap ((57, tabObj p1) :: (64, tabObj p2) :: tail)) (hoff1 : ∀ p ∈ tail, p.1 ≠ 57) (hoff2 : ∀ p ∈ tail, p.1 ≠ 64) (htab1 : Tab1 p1 tail) (htab2 : Tab2 p2 tail) (codeHd1 : CodeHd base 61 57) (codeHd2 : CodeHd base 68 64)
   (hd : dp + 20 < recursionLimit) (hu : un + 120 < cLine)
   (hret : DvRet h₀ L m tail s Q x b) :
   wpAny (model PySem.Challenge.rw_hd0005_01.row.prog w) (ktrTop dp un gd cn cs L a ccd cl outer) (call (.ref 76) [.int x tx, .int b tb]) Q E s := by
  simp only [dvOk, Bool.and_eq_true, decide_eq_true_eq] at hall
  obtain ⟨⟨⟨⟨ok1, ok2⟩, ok3⟩, ok4⟩, ok5⟩ := hall
  have hbb : 1 ≤ (Builtin.Int.intBits b : Int) ∧ (Builtin.Int.intBits b : Int) ≤ 6 := ⟨bits_pos hb.1, by exact_mod_cast bits_le (k := 6) (by omega) (by omega)⟩
  revert hX
  k_fill
  intro hX
  refine wpAny_call ?_
  k_dflt (walk_at "mEnter")
  walk_at "mStepsP"
  refine ⟨by first | k_in | fail, ?_⟩
  rename News _ _ _ _ => N₁
  rename Fr _ _ _ _ => F₁
  k_dflt (refine' i2d ?zB F₁ ?zX ?zT rfl hx hbb N₁ ?zo (htab1.mono fun _ h => .tail _ h) codeHd1 ?zd ?zu ?zr)
  case zB => assumption
  case zX => assumption
  case zT => assumption
  case zo => exact List.forall_mem_cons.mpr ⟨fun e => absurd (show (64 : Nat) = 57 from e) (by decide), hoff1⟩
  case zd => (try simp only [depth_deeper]); omega
  case zu => (try simp only [units_deeper]); omega
  case zr =>
    intro D vs nn q1 ext h1 tk1 hi hl F₂ N₂ htab1' hD hext
    clear F₁ N₁
    dsimp only
    walk_at "mStepsP"
    rename News _ _ _ _ => N₃
    rename Fr _ _ _ _ => F₃
    rename _ < _ ∧ D < _ ∧ 57 < _ ∧ AllLt _ _ => hI9
    rename D < _ ∧ 57 < _ ∧ AllLt _ _ => hQ9
    rename_i lq hh1 hh2 I hh3
    k_dflt (refine' my_forRev (dvInv x b lq ((D, listOf vs.toArray nn) :: (57, tabObj q1) :: (ext ++ (64, tabObj p2) :: tail))) rfl F₃ N₃ ?zo ?zm ?zcl ?zdt hi ?z0 ?zs ?zf)
    case zo => k_all
    case zm => k_dflt k_mem
    case zcl => exact rfl
    case zdt => exact rfl
    case z0 => exact ⟨[], [], _, 0, _, _, kst_norm (List.forall_mem_cons.mpr ⟨rfl, fun _ h => nomatch h⟩) (fun _ _ _ => rfl), rfl, .nil, rfl, ok1, by simp⟩
    case zs =>
      rintro d rs t m' news' it h tk ⟨qs, qv, nq, rr, tr, u, rfl, rfl, hq, hlp, hok, hlen⟩ hit F₄ N₄
      obtain ⟨o1, o2, o3, o4, o5⟩ := lpOk_cons hok
      clear F₃ N₃
      walk_at "mStepsP"
      refine ⟨by first | k_in | fail, ?_⟩
      k_dflt (refine' div2 ?zB F₄ ?zX ?zT rfl N₄ ⟨o3, o4⟩ hb hbb ?zd ?zu ?zr)
      case zB => assumption
      case zX => assumption
      case zT => assumption
      case zd => (try simp only [depth_deeper]); omega
      case zu => (try simp only [units_deeper]); omega
      case zr =>
        intro Dt t1 t2 ct h2 tk2 F₅ N₅ hDt
        clear F₄ N₄
        replace hDt := allLt_of hDt
        simp only [AllLt, and_true] at hDt
        obtain ⟨hQ1, hQ2, hQ3⟩ := hQ9
        have hle := nd_bounds (bits_pos hx.1) (by exact_mod_cast bits_le (k := 6) (by omega) (by omega)) hbb
        have hsz : qv.toArray.size ≤ sizeLine := by
          rw [sizeLine_eq, List.size_toArray, hq.length]; unfold nd at hl; omega
        dsimp only
        walk_at "mStepsP"
        rename News _ _ _ _ => N₆
        rename Fr _ _ _ _ => F₆
        simp only [List.push_toArray] at N₆
        rw [lp] at hlp
        refine ⟨_, _, _, _, rfl, F₆, fun q hq => N₆ q (.tail _ hq), ?_, .tail _ (.head _), _, _, _, _, _, _, kst_norm (List.forall_mem_cons.mpr ⟨rfl, fun _ h => nomatch h⟩) (fun z h2 h3 => same3 (h2 _ (.head _)) h3), rfl, IntsAre.append hq (.cons _ _ .nil), hlp, o5, ?_⟩
        · obtain ⟨i1, i2, i3, i4⟩ := hI9
          k_all
        · rw [← hlen, List.length_append, List.length_cons, List.length_cons, List.length_nil]; omega
    case zf =>
      rintro m' news' h tk ⟨qs, qv, nq, rr, tr, u, rfl, rfl, hq, hlp, hok, hlen⟩ F₄ N₄
      clear F₃ N₃
      dsimp only
      walk_at "mStepsP"
      dsimp only
      k_dflt (refine' kl_reverse (its := qv.toArray) (l := qv.reverse) F₄ N₄ (by simp) (Upd.head ?zoff) ?zsz ?_)
      case zoff =>
        obtain ⟨hQ1, hQ2, hQ3⟩ := hQ9
        k_all
      case zsz => simp only [List.length_nil, Nat.add_zero] at hlen; rw [sizeLine_eq]; simp only [List.toList_toArray]; rw [hq.length]; have := nd_bounds (bits_pos hx.1) (by exact_mod_cast bits_le (k := 6) (by omega) (by omega)) hbb; unfold nd at hl; omega
      intro h5 F₅ N₅
      clear F₄ N₄
      walk_at "mStepsP"
      refine ⟨by first | k_in | fail, ?_⟩
      obtain ⟨hQ1, hQ2, hQ3⟩ := hQ9
      have e1 : (qs, rr) = dvF x b := hlp
      have e2 : qs = (dvF x b).1 := congrArg Prod.fst e1
      have e3 : rr = (dvF x b).2 := congrArg Prod.snd e1
      rw [← e2] at ok2 ok3
      rw [← e3] at ok4
      have hle := nd_bounds (bits_pos hx.1) (by exact_mod_cast bits_le (k := 6) (by omega) (by omega)) hbb
      have hlen2 : 1 ≤ qs.reverse.length ∧ qs.reverse.length ≤ 6 := by
        rw [List.length_reverse]; simp only [List.length_nil, Nat.add_zero] at hlen; unfold nd at hl; omega
      have h64lq := ltN (allLt_mem hQ3 (64, tabObj p2) (List.mem_append_right _ (.head _)))
      have h64D := ltN (allLt_mem hD.2 (64, tabObj p2) (.head _))
      have N₆ : News _ _ h5 ((64, tabObj p2) :: (lq, listOf qv.reverse.toArray nq) :: (D, listOf vs.toArray nn) :: (57, tabObj q1) :: (ext ++ tail)) := fun q hq => N₅ q (by
        rcases List.mem_cons.mp hq with rfl | hq
        · exact .tail _ (.tail _ (.tail _ (List.mem_append_right _ (.head _))))
        · rcases List.mem_cons.mp hq with rfl | hq
          · exact .head _
          · rcases List.mem_cons.mp hq with rfl | hq
            · exact .tail _ (.head _)
            · rcases List.mem_cons.mp hq with rfl | hq
              · exact .tail _ (.tail _ (.head _))
              · rcases List.mem_append.mp hq with hq | hq
                · exact .tail _ (.tail _ (.tail _ (List.mem_append_left _ hq)))
                · exact .tail _ (.tail _ (.tail _ (List.mem_append_right _ (.tail _ hq)))))
      k_dflt (refine' d2i ?zB F₅ ?zX ?zT rfl N₆ ?zo (htab2.mono fun p hp => .tail _ (.tail _ (.tail _ (List.mem_append_right _ hp)))) codeHd2 (.head _) (PyProof.Rows.IntsAre.reverse hq) hlen2 hbb ok2 ?zd ?zu ?zr)
      case zB => assumption
      case zX => assumption
      case zT => assumption
      case zo =>
        intro q hq
        refine neN ?_
        rcases List.mem_cons.mp hq with rfl | hq
        · exact Nat.ne_of_gt h64lq
        · rcases List.mem_cons.mp hq with rfl | hq
          · exact Nat.ne_of_gt h64D
          · rcases List.mem_cons.mp hq with rfl | hq
            · exact fun e => absurd (show (57 : Nat) = 64 from e) (by decide)
            · rcases List.mem_append.mp hq with hq | hq
              · exact Nat.ne_of_gt (allLt_mem (hext q hq).2 (64, tabObj p2) (.head _))
              · exact hoff2 q hq
      case zd => (try simp only [depth_deeper]); omega
      case zu => (try simp only [units_deeper]); omega
      case zr =>
        intro tq q2 ext2 h6 tk6 F₇ N₇ htab2' hext2
        clear F₅ N₅ N₆
        dsimp only
        walk_at "mStepsP"
        rename News h₀ L _ _ => kN9
        rename Fr h₀ L _ _ => kF9
        rename 64 < _ ∧ AllLt _ (ext2 ++ _) => l9
        rw [ok3, ok4] at kN9
        unfold DvRet at hret
        refine hret _ tq tr 0 q1 q2 (ext2 ++ ext) _ _ kF9 (fun q hq => kN9 q ?_) ?_ ?_ ?_ ?_
        · rcases List.mem_cons.mp hq with rfl | hq
          · exact .head _
          · rcases List.mem_cons.mp hq with rfl | hq
            · exact .tail _ (.tail _ (List.mem_append_right _ (.tail _ (.tail _ (.head _)))))
            · rcases List.mem_cons.mp hq with rfl | hq
              · exact .tail _ (.head _)
              · rw [List.append_assoc] at hq
                rcases List.mem_append.mp hq with hq | hq
                · exact .tail _ (.tail _ (List.mem_append_left _ hq))
                · exact .tail _ (.tail _ (List.mem_append_right _ (.tail _ (.tail _ (.tail _ hq)))))
        · rw [List.append_assoc]
          exact (htab1'.drop htab2).mono fun p hp => List.mem_append_right _ hp
        · rw [List.append_assoc]
          exact htab2'.drop htab1'
        · intro q hq
          rcases List.mem_append.mp hq with hq | hq
          · have h := allLt_mem (hext2 q hq).2
            exact ⟨h (57, tabObj q1) (.tail _ (.tail _ (.head _))), (hext2 q hq).1, fun p hp => h p (.tail _ (.tail _ (.tail _ (List.mem_append_right _ hp))))⟩
          · have h := allLt_mem (hext q hq).2
            exact ⟨(hext q hq).1, h (64, tabObj p2) (.head _), fun p hp => h p (.tail _ hp)⟩
        · have h := allLt_mem l9.2
          exact ⟨h (57, tabObj q1) (List.mem_append_right _ (.tail _ (.tail _ (.head _)))), l9.1, fun p hp => h p (List.mem_append_right _ (.tail _ (.tail _ (.tail _ (List.mem_append_right _ hp)))))⟩

theorem dvAll1 : ∀ x : Fin 30, ∀ j : Fin 30, 2 * j.val ≤ x.val → dvOk ((x.val : Int) + 1) (2 * (j.val : Int) + 1) = true := by decide +kernel
theorem dvAll2 : ∀ x : Fin 16, ∀ j : Fin 30, 2 * j.val ≤ x.val + 30 → dvOk ((x.val : Int) + 31) (2 * (j.val : Int) + 1) = true := by decide +kernel
theorem dvAll3 : ∀ x : Fin 14, ∀ j : Fin 30, 2 * j.val ≤ x.val + 46 → dvOk ((x.val : Int) + 47) (2 * (j.val : Int) + 1) = true := by decide +kernel
theorem dv_ok {x b : Int} (hx : 1 ≤ x ∧ x ≤ 60) (hb : 1 ≤ b ∧ b ≤ x ∧ b % 2 = 1) : dvOk x b = true := by
  obtain ⟨j, hj⟩ := Int.eq_ofNat_of_zero_le (show 0 ≤ b / 2 by omega)
  rw [show b = 2 * (j : Int) + 1 by omega]
  by_cases h1 : x ≤ 30
  · obtain ⟨i, hi⟩ := Int.eq_ofNat_of_zero_le (show 0 ≤ x - 1 by omega)
    rw [show x = (i : Int) + 1 by omega]
    exact dvAll1 ⟨i, by omega⟩ ⟨j, by omega⟩ (by show 2 * j ≤ i; omega)
  · by_cases h2 : x ≤ 46
    · obtain ⟨i, hi⟩ := Int.eq_ofNat_of_zero_le (show 0 ≤ x - 31 by omega)
      rw [show x = (i : Int) + 31 by omega]
      exact dvAll2 ⟨i, by omega⟩ ⟨j, by omega⟩ (by show 2 * j ≤ i + 30; omega)
    · obtain ⟨i, hi⟩ := Int.eq_ofNat_of_zero_le (show 0 ≤ x - 47 by omega)
      rw [show x = (i : Int) + 47 by omega]
      exact dvAll3 ⟨i, by omega⟩ ⟨j, by omega⟩ (by show 2 * j ≤ i + 46; omega)

theorem idv {w : World} {p : Program} {loose : List Str} {mean : ExcName → Option Value} {mg mb : Str → Option Value}
   {x b : Int} {tx tb : Tok} {p1 p2 : Array Value} {tail : List (Addr × Obj)}
   {dp un : Nat} {gd : Option (List Code)} {cn : Str} {cs : Scope} {a : Addr} {ccd : Value} {cl : List (Str × Addr)} {outer : List Env} {A₀ : Around} {base h₀ : Heap} {L : Addr} {m : Str → Option Value} {s : Shared} {Q E : Value → Shared → Prop}
   (hB : Below A₀ base outer h₀) (hF : Fr h₀ L s.heap m) (hX : (hd.heap_39 w.params).In h₀) (hT : Top p loose mean mg mb h₀) (hk : cs.kind = .function)
   (hx : 1 ≤ x ∧ x ≤ 60) (hb : 1 ≤ b ∧ b ≤ x ∧ b % 2 = 1)
   (hN : News h₀ L s.heap ((57, tabObj p1) :: (64, tabObj p2) :: tail)) (hoff1 : ∀ p ∈ tail, p.1 ≠ 57) (hoff2 : ∀ p ∈ tail, p.1 ≠ 64) (htab1 : Tab1 p1 tail) (htab2 : Tab2 p2 tail) (codeHd1 : CodeHd base 61 57) (codeHd2 : CodeHd base 68 64)
   (hd : dp + 24 < recursionLimit) (hu : un + 130 < cLine)
   (hret : DvRet h₀ L m tail s Q x b) :
   wpAny (model PySem.Challenge.rw_hd0005_01.row.prog w) (ktrTop dp un gd cn cs L a ccd cl outer) (call (.ref 83) [.int x tx, .int b tb]) Q E s := by
  revert hX
  k_fill
  intro hX
  refine wpAny_call ?_
  k_dflt (walk_at "mEnter")
  have hb0 : b ≠ 0 := by omega
  walk_at "mStepsP"
  · exfalso; omega
  · refine ⟨by first | k_in | fail, ?_⟩
    rename News _ _ _ _ => N₁
    rename Fr _ _ _ _ => F₁
    k_dflt (refine' dvp ?zB F₁ ?zX ?zT rfl hx ⟨hb.1, by omega⟩ (dv_ok hx hb) N₁ hoff1 hoff2 htab1 htab2 codeHd1 codeHd2 ?zd ?zu ?zr)
    case zB => assumption
    case zX => assumption
    case zT => assumption
    case zd => (try simp only [depth_deeper]); omega
    case zu => (try simp only [units_deeper]); omega
    case zr =>
      intro Dt t1 t2 c q1 q2 ext h1 tk1 F₂ N₂ r1 r2 r3 r4
      clear F₁ N₁
      unfold DvRet at hret
      walk_at "mStepsP"
      rename News h₀ L _ _ => kN9
      rename Fr h₀ L _ _ => kF9
      exact hret _ _ _ _ _ _ _ _ _ kF9 kN9 r1 r2 r3 r4

section
open PyProof.V PySem.Spec
variable {prog : Program} {w : World} {A : Around} {E : Value → Shared → Prop} {s : Shared} {env : Env} {h₀ : Heap} {x : Str} {body : List Stmt} {Q : Flow → Shared → Prop}

theorem krs_ind {I : Addr} {a c : Int} {n : Nat} (Inv : Nat → (Str → Option Value) → List (Addr × Obj) → Prop)
    (step : ∀ i, i < n → ∀ m news (it : Obj) t h tk, Inv i m news → it = krsIt (a + ((i + 1 : Nat) : Int) * c) ((n : Int) - ((i + 1 : Nat) : Int)) c → Fr h₀ env.locals h (fun y => if y = x then some (.int (a + (i : Int) * c) t) else m y) → News h₀ env.locals h ((I, it) :: news) →
      wpAny (model prog w) A (execs body env) (UnrPost h₀ env.locals { s with heap := h, toks := tk } I it (Inv (i + 1)) Q) E { s with heap := h, toks := tk })
    (fin : ∀ m news h tk, Inv n m news → Fr h₀ env.locals h m → News h₀ env.locals h news → Q .next { s with heap := h, toks := tk }) :
    ∀ k i, k + i = n → ∀ m news, Inv i m news → KrsRest prog w A E h₀ env x body Q s I a c n k i m news := by
  intro k
  induction k with
  | zero =>
    intro i hi m news hI
    obtain rfl : i = n := by omega
    exact KrsRest.zero fun h tk F N => fin m news h tk hI F N
  | succ k ih =>
    intro i hi m news hI
    refine KrsRest.succ rfl fun t h tk F N => ?_
    refine wpAny_mono (step i (by omega) m news _ t h tk hI rfl F N) (fun f s₂ p => ?_) fun _ _ e => e
    have up : ∀ {it : Obj}, UnrEnd h₀ env.locals { s with heap := h, toks := tk } I it (Inv (i + 1)) s₂ → UnrEnd h₀ env.locals { s with heap := h, toks := tk } I it (KrsRest prog w A E h₀ env x body Q s I a c n k (i + 1)) s₂ := by
      rintro it ⟨h', tk', m', news', e, F', N', ho, hI'⟩
      exact ⟨h', tk', m', news', e, F', N', ho, ih _ (by omega) _ _ hI'⟩
    cases f with
    | ret v => exact p
    | brk => exact p
    | next => exact up p
    | cont => exact up p

theorem my_forStep {r : Addr} {a b c : Int} {t₀ u₀ v₀ : Tok} {m₀ : Str → Option Value} {news : List (Addr × Obj)} (n : Nat) (Inv : (Str → Option Value) → Nat → (Str → Option Value) → List (Addr × Obj) → Prop)
    (hh : A.handled = none) (hr : IsRange s.heap r a b c t₀ u₀ v₀) (F : Fr h₀ env.locals s.heap m₀) (N : News h₀ env.locals s.heap news) (hsmall : Builtin.Range.small a b c = true) (hn : Builtin.Range.rangeSize a b c = (n : Int))
    (h0 : Inv m₀ 0 m₀ news)
    (step : ∀ (I : Addr), (∀ p ∈ news, p.1 < I) → ∀ i, i < n → ∀ m news (it : Obj) t h tk, Inv m₀ i m news → it = krsIt (a + ((i + 1 : Nat) : Int) * c) ((n : Int) - ((i + 1 : Nat) : Int)) c → Fr h₀ env.locals h (fun y => if y = x then some (.int (a + (i : Int) * c) t) else m y) → News h₀ env.locals h ((I, it) :: news) →
      wpAny (model prog w) A (execs body env) (UnrPost h₀ env.locals { s with heap := h, toks := tk } I it (Inv m₀ (i + 1)) Q) E { s with heap := h, toks := tk })
    (fin : ∀ m news h tk, Inv m₀ n m news → Fr h₀ env.locals h m → News h₀ env.locals h news → Q .next { s with heap := h, toks := tk }) :
    wpAny (model prog w) A (pyIter (.ref r)) (fun it s₂ => LoopAtV prog w A h₀ env x body Q E it s₂) E s :=
  krs_iter hh hr hsmall hn F N fun I hI => krs_ind (Inv m₀) (step I hI) fin n 0 rfl _ _ h0
end

theorem my_while {prog : Program} {w : World} {A : Around} {E : Value → Shared → Prop} {Q : Flow → Shared → Prop} {s : Shared} {env : Env} {h₀ : Heap} {L : Addr} {σ : Type} {test : Expr} {body : List Stmt} {pos : Pos} {m₀ : Str → Option Value} {news : List (Addr × Obj)}
    (ps : σ → List (Str × Value)) (stored : List Str) (P : σ → Prop) (μ : σ → Nat)
    (F : Fr h₀ L s.heap m₀) (N : News h₀ L s.heap news) (hk : ∃ c₀, (∀ p ∈ ps c₀, m₀ p.1 = some p.2) ∧ P c₀)
    (turn : ∀ (c : σ) (u : Str → Option Value) h tk, P c → Fr h₀ L h (kstB (fun z => if stored.contains z then u z else m₀ z) (ps c)) → News h₀ L h news →
      wpAny (model prog w) A (isTrue test env (eval test env)) (fun b s₂ =>
        if b = true then wpAny (model prog w) A (execs body env) (KswPost h₀ L s (fun _ => news) ps (fun _ => True) stored m₀ P μ Q c) E s₂ else Q .next s₂) E { s with heap := h, toks := tk })
    (hE : PassesOwn (model prog w) A env E := by passes_own) :
    wpAny (model prog w) A (exec (.While test body [] pos) env) Q E s :=
  let ⟨c₀, hk, hp⟩ := hk
  ksw_while (fun _ => news) ps (fun _ => True) stored P μ c₀ F N trivial hk hp (fun c u h tk _ h2 h3 h4 => turn c u h tk h2 h3 h4) hE

/-- the number of items that are at most x -/
def rk (ns : List Int) (x : Int) : Int := (ns.countP (· ≤ x) : Nat)

theorem bs_hi {ns : List Int} {x mid : Int} (hs : ∀ (i j : Nat) u v, i ≤ j → ns[i]? = some u → ns[j]? = some v → u ≤ v) (h0 : 0 ≤ mid) (h1 : mid < ns.length) (hx : x < ns.getD mid.toNat 0) :
    ∀ i : Nat, mid ≤ (i:Int) → ∀ v, ns[i]? = some v → x < v := fun i hi v hv => by
  have hlt : mid.toNat < ns.length := by omega
  have e : ns[mid.toNat]? = some (ns.getD mid.toNat 0) := by rw [List.getD_eq_getElem?_getD, List.getElem?_eq_getElem hlt]; rfl
  have := hs mid.toNat i _ v (by omega) e hv
  omega
theorem bs_lo {ns : List Int} {x mid : Int} (hs : ∀ (i j : Nat) u v, i ≤ j → ns[i]? = some u → ns[j]? = some v → u ≤ v) (h0 : 0 ≤ mid) (h1 : mid < ns.length) (hx : ¬ x < ns.getD mid.toNat 0) :
    ∀ i : Nat, (i:Int) < mid + 1 → ∀ v, ns[i]? = some v → v ≤ x := fun i hi v hv => by
  have hlt : mid.toNat < ns.length := by omega
  have e : ns[mid.toNat]? = some (ns.getD mid.toNat 0) := by rw [List.getD_eq_getElem?_getD, List.getElem?_eq_getElem hlt]; rfl
  have := hs i mid.toNat v _ (by omega) hv e
  omega
theorem bs_end {x : Int} : ∀ {ns : List Int} {lo : Int}, (∀ i : Nat, (i:Int) < lo → ∀ v, ns[i]? = some v → v ≤ x) → (∀ i : Nat, lo ≤ (i:Int) → ∀ v, ns[i]? = some v → x < v) → 0 ≤ lo → lo ≤ ns.length → rk ns x = lo
  | [], lo, _, _, h0, h1 => by simp [rk] at *; omega
  | a :: ns, lo, h1, h2, h0, h3 => by
    by_cases hl : lo = 0
    · subst hl
      have ih := bs_end (x := x) (ns := ns) (lo := 0) (fun i hi => by omega) (fun i hi v hv => h2 (i+1) (by omega) v (by simpa using hv)) (by omega) (by omega)
      have ha := h2 0 (by omega) a (by simp)
      have : ¬ a ≤ x := by omega
      simp only [rk, List.countP_cons, this, decide_false, Bool.false_eq_true, if_false, Nat.add_zero] at ih ⊢
      exact ih
    · have ih := bs_end (x := x) (ns := ns) (lo := lo - 1) (fun i hi v hv => h1 (i+1) (by omega) v (by simpa using hv)) (fun i hi v hv => h2 (i+1) (by omega) v (by simpa using hv)) (by omega) (by simp only [List.length_cons] at h3; omega)
      have ha := h1 0 (by omega) a (by simp)
      simp only [rk, List.countP_cons, ha, decide_true, if_true] at ih ⊢
      omega

theorem same2 {rest : Str → Option Value} {z x y : Str} {v v' a' b' : Value} {a b : Str} {vs : List Str} {u : Str → Option Value} (ha : z ≠ a) (hb : z ≠ b) (hv : vs.contains z = false) (hx : x ∈ a :: b :: vs) (hy : y ∈ a :: b :: vs) :
    (if z = x then some v else if z = y then some v' else kstB (fun z => if vs.contains z then u z else rest z) [(a, a'), (b, b')] z) = rest z := by
  have h1 : ∀ x ∈ a :: b :: vs, z ≠ x := fun x hx e => by
    subst e
    rcases List.mem_cons.mp hx with e | hx
    · exact ha e
    · rcases List.mem_cons.mp hx with e | hx
      · exact hb e
      · rw [List.contains_iff_mem.mpr hx] at hv; cases hv
  simp only [kstB, if_neg (h1 x hx), if_neg (h1 y hy), if_neg ha, if_neg hb, hv, Bool.false_eq_true, if_false]

theorem br {w : World} {p : Program} {loose : List Str} {mean : ExcName → Option Value} {mg mb : Str → Option Value}
   {T : Addr} {vs : List Value} {ns : List Int} {nn : Nat} {x : Int} {tx : Tok} {r : Int} {news : List (Addr × Obj)}
   {dp un : Nat} {gd : Option (List Code)} {cn : Str} {cs : Scope} {a : Addr} {ccd : Value} {cl : List (Str × Addr)} {outer : List Env} {A₀ : Around} {base h₀ : Heap} {L : Addr} {m : Str → Option Value} {s : Shared} {Q E : Value → Shared → Prop}
   (hB : Below A₀ base outer h₀) (hF : Fr h₀ L s.heap m) (hX : (hd.heap_39 w.params).In h₀) (hT : Top p loose mean mg mb h₀) (hk : cs.kind = .function)
   (hN : News h₀ L s.heap news) (hns : IntsAre vs ns) (hlen : ns.length = 10) (hs : ∀ (i j : Nat) u v, i ≤ j → ns[i]? = some u → ns[j]? = some v → u ≤ v) (hr : rk ns x = r)
   (hm : (T, listOf vs.toArray nn) ∈ news) (hd : dp + 1 < recursionLimit) (hu : un + 8 < cLine)
   (hret : ∀ (t : Tok) (h' : Heap) (tk' : Nat), Fr h₀ L h' m → News h₀ L h' news → Q (.int r t) { s with heap := h', toks := tk' }) :
   wpAny (model PySem.Challenge.rw_hd0005_01.row.prog w) (ktrTop dp un gd cn cs L a ccd cl outer) (call (.ref 23) [.ref T, .int x tx]) Q E s := by
  revert hX
  k_fill
  intro hX
  refine wpAny_call ?_
  k_dflt (walk_at "mEnter")
  walk_at "mSteps"
  rename Fr _ _ _ _ => F₁
  rename News _ _ _ _ => N₁
  refine my_while (σ := Int × Tok × Int × Tok) (fun c => [(Str.ofString "lo", .int c.1 c.2.1), (Str.ofString "hi", .int c.2.2.1 c.2.2.2)]) [Str.ofString "mid"]
    (fun c => 0 ≤ c.1 ∧ c.1 ≤ c.2.2.1 ∧ c.2.2.1 ≤ 10 ∧ (∀ i : Nat, (i:Int) < c.1 → ∀ v, ns[i]? = some v → v ≤ x) ∧ (∀ i : Nat, c.2.2.1 ≤ (i:Int) → ∀ v, ns[i]? = some v → x < v))
    (fun c => (c.2.2.1 - c.1).toNat) F₁ N₁ ⟨(0, _, ns.length, _), List.forall_mem_cons.mpr ⟨rfl, List.forall_mem_cons.mpr ⟨rfl, fun _ h => nomatch h⟩⟩, by dsimp only; omega, by dsimp only; omega, by dsimp only; omega, fun i hi => by dsimp only at hi; omega, fun i hi v hv => ?_⟩ ?_
  · have := (List.getElem?_eq_some_iff.mp hv).1
    dsimp only at *; omega
  · rintro ⟨lo, tlo, hi, thi⟩ u h tk ⟨h1, h2, h3, h4, h5⟩ F₂ N₂
    clear F₁ N₁
    dsimp only at h1 h2 h3 h4 h5 F₂
    walk_at "mSteps"
    all_goals (try dsimp only [KswPost])
    · obtain ⟨m1, m2, m3⟩ : 0 ≤ (lo + hi).fdiv 2 ∧ (lo + hi).fdiv 2 < hi ∧ lo ≤ (lo + hi).fdiv 2 := by rw [Int.fdiv_eq_ediv_of_nonneg _ (by decide)]; omega
      have m4 : (lo + hi).fdiv 2 < ns.length := by omega
      refine ksw_end (lo, _, (lo + hi).fdiv 2, _) (by assumption) (by assumption) (fun _ h => h) trivial (List.forall_mem_cons.mpr ⟨rfl, List.forall_mem_cons.mpr ⟨rfl, fun _ h => nomatch h⟩⟩) (fun z h2 h3 => same2 (h2 _ (.head _)) (h2 _ (.tail _ (.head _))) h3 (.tail _ (.head _)) (.tail _ (.tail _ (.head _)))) ⟨h1, m3, Int.le_of_lt (Int.lt_of_lt_of_le m2 h3), h4, bs_hi hs m1 m4 (by assumption)⟩ (by dsimp only; omega)
    · obtain ⟨m1, m2, m3⟩ : 0 ≤ (lo + hi).fdiv 2 ∧ (lo + hi).fdiv 2 < hi ∧ lo ≤ (lo + hi).fdiv 2 := by rw [Int.fdiv_eq_ediv_of_nonneg _ (by decide)]; omega
      have m4 : (lo + hi).fdiv 2 < ns.length := by omega
      refine ksw_end ((lo + hi).fdiv 2 + 1, _, hi, _) (by assumption) (by assumption) (fun _ h => h) trivial (List.forall_mem_cons.mpr ⟨rfl, List.forall_mem_cons.mpr ⟨rfl, fun _ h => nomatch h⟩⟩) (fun z h2 h3 => same2 (h2 _ (.head _)) (h2 _ (.tail _ (.head _))) h3 (.head _) (.tail _ (.tail _ (.head _)))) ⟨Int.le_trans m1 (Int.le_of_lt (Int.lt_succ _)), Int.add_one_le_of_lt m2, h3, bs_lo hs m1 m4 (by assumption), h5⟩ (by dsimp only; omega)
    · have e : lo = hi := by omega
      subst e
      obtain rfl : lo = r := (bs_end h4 h5 h1 (by omega)).symm.trans hr
      exact hret _ _ _ (by assumption) (by assumption)

theorem rt {w : World} {p : Program} {loose : List Str} {mean : ExcName → Option Value} {mg mb : Str → Option Value}
   {T : Addr} {vs : List Value} {ns : List Int} {nn : Nat} {x : Int} {tx : Tok} {r : Int} {news : List (Addr × Obj)}
   {dp un : Nat} {gd : Option (List Code)} {cn : Str} {cs : Scope} {a : Addr} {ccd : Value} {cl : List (Str × Addr)} {outer : List Env} {A₀ : Around} {base h₀ : Heap} {L : Addr} {m : Str → Option Value} {s : Shared} {Q E : Value → Shared → Prop}
   (hB : Below A₀ base outer h₀) (hF : Fr h₀ L s.heap m) (hX : (hd.heap_39 w.params).In h₀) (hT : Top p loose mean mg mb h₀) (hk : cs.kind = .function)
   (hN : News h₀ L s.heap news) (hns : IntsAre vs ns) (hlen : ns.length = 10) (hs : ∀ (i j : Nat) u v, i ≤ j → ns[i]? = some u → ns[j]? = some v → u ≤ v) (hr : rk ns x - 1 = r)
   (hm : (T, listOf vs.toArray nn) ∈ news) (hd : dp + 6 < recursionLimit) (hu : un + 20 < cLine)
   (hret : ∀ (t : Tok) (h' : Heap) (tk' : Nat), Fr h₀ L h' m → News h₀ L h' news → Q (.int r t) { s with heap := h', toks := tk' }) :
   wpAny (model PySem.Challenge.rw_hd0005_01.row.prog w) (ktrTop dp un gd cn cs L a ccd cl outer) (call (.ref 90) [.ref T, .int x tx]) Q E s := by
  revert hX
  k_fill
  intro hX
  refine wpAny_call ?_
  k_dflt (walk_at "mEnter")
  walk_at "mStepsP"
  refine ⟨by first | k_in | fail, ?_⟩
  rename News _ _ _ _ => N₁
  rename Fr _ _ _ _ => F₁
  k_dflt (refine' br ?zB F₁ ?zX ?zT rfl N₁ hns hlen hs rfl hm ?zd ?zu ?zr)
  case zB => assumption
  case zX => assumption
  case zT => assumption
  case zd => (try simp only [depth_deeper]); omega
  case zu => (try simp only [units_deeper]); omega
  case zr =>
    intro t1 h1 tk1 F₂ N₂
    clear F₁ N₁
    dsimp only
    walk_at "mStepsP"
    rename News h₀ L _ _ => kN9
    rename Fr h₀ L _ _ => kF9
    subst hr
    exact hret _ _ _ kF9 kN9

theorem same1 {rest : Str → Option Value} {z x y : Str} {v v' a' : Value} {a : Str} {vs : List Str} {u : Str → Option Value} (ha : z ≠ a) (hv : vs.contains z = false) (hx : x ∈ a :: vs) (hy : y ∈ a :: vs) :
    (if z = x then some v else if z = y then some v' else kstB (fun z => if vs.contains z then u z else rest z) [(a, a')] z) = rest z := by
  have h1 : ∀ x ∈ a :: vs, z ≠ x := fun x hx e => by
    subst e
    rcases List.mem_cons.mp hx with e | hx
    · exact ha e
    · rw [List.contains_iff_mem.mpr hx] at hv; cases hv
  simp only [kstB, if_neg (h1 x hx), if_neg (h1 y hy), if_neg ha, hv, Bool.false_eq_true, if_false]

theorem bl {w : World} {p : Program} {loose : List Str} {mean : ExcName → Option Value} {mg mb : Str → Option Value}
   {T : Addr} {vs : List Value} {ns : List Int} {nn : Nat} {x : Int} {tx tlo : Tok} {news : List (Addr × Obj)}
   {dp un : Nat} {gd : Option (List Code)} {cn : Str} {cs : Scope} {a : Addr} {ccd : Value} {cl : List (Str × Addr)} {outer : List Env} {A₀ : Around} {base h₀ : Heap} {L : Addr} {m : Str → Option Value} {s : Shared} {Q E : Value → Shared → Prop}
   (hB : Below A₀ base outer h₀) (hF : Fr h₀ L s.heap m) (hX : (hd.heap_39 w.params).In h₀) (hT : Top p loose mean mg mb h₀) (hk : cs.kind = .function)
   (hN : News h₀ L s.heap news) (hns : IntsAre vs ns) (hlen : ns.length ≤ 10) (hall : ∀ v ∈ ns, x ≤ v)
   (hm : (T, listOf vs.toArray nn) ∈ news) (hd : dp + 1 < recursionLimit) (hu : un + 8 < cLine)
   (hret : ∀ (t : Tok) (h' : Heap) (tk' : Nat), Fr h₀ L h' m → News h₀ L h' news → Q (.int 0 t) { s with heap := h', toks := tk' }) :
   wpAny (model PySem.Challenge.rw_hd0005_01.row.prog w) (ktrTop dp un gd cn cs L a ccd cl outer) (call (.ref 41) [.ref T, .int x tx, .int 0 tlo, .none]) Q E s := by
  revert hX
  k_fill
  intro hX
  refine wpAny_call ?_
  k_dflt (walk_at "mEnter")
  walk_at "mSteps"
  rename Fr _ _ _ _ => F₁
  rename News _ _ _ _ => N₁
  refine my_while (σ := Int × Tok) (fun c => [(Str.ofString "hi", .int c.1 c.2)]) [Str.ofString "mid"]
    (fun c => 0 ≤ c.1 ∧ c.1 ≤ ns.length) (fun c => c.1.toNat) F₁ N₁ ⟨(ns.length, _), List.forall_mem_cons.mpr ⟨rfl, fun _ h => nomatch h⟩, by dsimp only; omega, by dsimp only; omega⟩ ?_
  rintro ⟨hi, thi⟩ u h tk ⟨h1, h2⟩ F₂ N₂
  clear F₁ N₁
  dsimp only at h1 h2 F₂
  walk_at "mSteps"
  all_goals (try dsimp only [KswPost])
  · exfalso
    obtain ⟨m1, m2⟩ : 0 ≤ (0 + hi).fdiv 2 ∧ (0 + hi).fdiv 2 < hi := by rw [Int.fdiv_eq_ediv_of_nonneg _ (by decide)]; omega
    have m4 : ((0 + hi).fdiv 2).toNat < ns.length := by omega
    have e : ns.getD ((0 + hi).fdiv 2).toNat 0 = ns[((0 + hi).fdiv 2).toNat] := by rw [List.getD_eq_getElem?_getD, List.getElem?_eq_getElem m4]; rfl
    have := hall _ (List.getElem_mem m4)
    omega
  · obtain ⟨m1, m2⟩ : 0 ≤ (0 + hi).fdiv 2 ∧ (0 + hi).fdiv 2 < hi := by rw [Int.fdiv_eq_ediv_of_nonneg _ (by decide)]; omega
    refine ksw_end ((0 + hi).fdiv 2, _) (by assumption) (by assumption) (fun _ h => h) trivial (List.forall_mem_cons.mpr ⟨rfl, fun _ h => nomatch h⟩) (fun z h2 h3 => same1 (h2 _ (.head _)) h3 (.head _) (.tail _ (.head _))) ⟨m1, Int.le_of_lt (Int.lt_of_lt_of_le m2 h2)⟩ (by dsimp only; omega)
  · exact hret _ _ _ (by assumption) (by assumption)

theorem il {w : World} {p : Program} {loose : List Str} {mean : ExcName → Option Value} {mg mb : Str → Option Value}
   {T : Addr} {vs : List Value} {ns : List Int} {nn : Nat} {x : Int} {tx : Tok} {news news' : List (Addr × Obj)}
   {dp un : Nat} {gd : Option (List Code)} {cn : Str} {cs : Scope} {a : Addr} {ccd : Value} {cl : List (Str × Addr)} {outer : List Env} {A₀ : Around} {base h₀ : Heap} {L : Addr} {m : Str → Option Value} {s : Shared} {Q E : Value → Shared → Prop}
   (hB : Below A₀ base outer h₀) (hF : Fr h₀ L s.heap m) (hX : (hd.heap_39 w.params).In h₀) (hT : Top p loose mean mg mb h₀) (hk : cs.kind = .function)
   (hN : News h₀ L s.heap news) (hns : IntsAre vs ns) (hlen : ns.length ≤ 10) (hall : ∀ v ∈ ns, x ≤ v)
   (hm : (T, listOf vs.toArray nn) ∈ news) (hup : Upd T (listOf vs.toArray nn) (listOf (Value.int x tx :: vs).toArray (nn + 1)) news news') (hd : dp + 6 < recursionLimit) (hu : un + 20 < cLine)
   (hret : ∀ (h' : Heap) (tk' : Nat), Fr h₀ L h' m → News h₀ L h' news' → Q .none { s with heap := h', toks := tk' }) :
   wpAny (model PySem.Challenge.rw_hd0005_01.row.prog w) (ktrTop dp un gd cn cs L a ccd cl outer) (call (.ref 32) [.ref T, .int x tx]) Q E s := by
  revert hX
  k_fill
  intro hX
  refine wpAny_call ?_
  k_dflt (walk_at "mEnter")
  walk_at "mStepsP"
  refine ⟨by first | k_in | fail, ?_⟩
  rename News _ _ _ _ => N₁
  rename Fr _ _ _ _ => F₁
  k_dflt (refine' bl ?zB F₁ ?zX ?zT rfl N₁ hns hlen hall hm ?zd ?zu ?zr)
  case zB => assumption
  case zX => assumption
  case zT => assumption
  case zd => (try simp only [depth_deeper]); omega
  case zu => (try simp only [units_deeper]); omega
  case zr =>
    intro t1 h1 tk1 F₂ N₂
    clear F₁ N₁
    dsimp only
    walk_at "mStepsP"
    rename News _ _ _ _ => N₃
    rename Fr _ _ _ _ => F₃
    refine kl_insert F₃ N₃ rfl (l := Value.int x tx :: vs) rfl hup ?_ ?_
    · rw [← IntsAre.length hns] at hlen
      simp only [List.toList_toArray] at *
      exact Nat.le_trans hlen (by decide)
    · intro h4 F₄ N₄
      clear F₃ N₃
      walk_at "mStepsP"
      rename News h₀ L _ _ => kN9
      rename Fr h₀ L _ _ => kF9
      exact hret _ _ kF9 kN9

section
open PySem.Spec PyProof.Rows.LCg
variable {prog : Program} {w : World} {A : Around} {E : Value → Shared → Prop} {R : Result → Shared → Prop} {s : Shared} {h₀ : Heap} {L : Addr} {m : Str → Option Value} {env : Env}

/-- no raise comes out of here -/
def NoE : Value → Shared → Prop := fun _ _ => False

theorem turn1 (elt target iter : Expr) (ifs : List Expr) (g0 : Comprehension) (scope : Scope) (pos : Pos) (it acc : Value) (env : Env) :
    compTurn (.ListComp elt [g0, ⟨target, iter, ifs, 0⟩] scope pos) 1 it acc env = (do
      standAt iter.pos
      match ← pyNext it with
      | none => pure (.done .next)
      | some v =>
        letOwnedTupleGo target it v
        assign target env v
        let mut ok := true
        for c in ifs do
          if ok then ok ← isTrue c env (eval c env)
        if ok then
          (do let _ ← call (.builtin "list.append") [acc, ← eval elt env])
        again (.compLoop (.ListComp elt [g0, ⟨target, iter, ifs, 0⟩] scope pos) 1 it acc env)) := by rfl

theorem turn0 (elt target iter : Expr) (t1 i1 : Expr) (f1 : List Expr) (scope : Scope) (pos : Pos) (it acc : Value) (env : Env) :
    compTurn (.ListComp elt [⟨target, iter, [], 0⟩, ⟨t1, i1, f1, 0⟩] scope pos) 0 it acc env = (do
      standAt iter.pos
      match ← pyNext it with
      | none => pure (.done .next)
      | some v =>
        letOwnedTupleGo target it v
        assign target env v
        let x ← eval i1 env
        standAt i1.pos
        let x ← foldedSetIterable i1 env x
        let _ ← runOwn (.compStart (.ListComp elt [⟨target, iter, [], 0⟩, ⟨t1, i1, f1, 0⟩] scope pos) 1 (← holding [x] (pyIter x)) acc env) env
        again (.compLoop (.ListComp elt [⟨target, iter, [], 0⟩, ⟨t1, i1, f1, 0⟩] scope pos) 0 it acc env)) := by rfl

theorem noted_no {m : Sem α} {Q : α → Shared → Prop} {f : Value → Sem Unit} {M : Model} {s : Shared} (h : wpAny M A m Q NoE s) : wpAny M A (m.onRaise f) Q E s :=
  wpAny_onRaise (wpAny_mono h (fun _ _ q => q) fun _ _ hx => hx.elim)

theorem loop_last {elt target iter : Expr} {ifs : List Expr} {gens : List Comprehension} {d : Nat} {scope : Scope} {pos : Pos} {it acc : Value} (I : Nat → Shared → Prop)
    (hT : compTurn (.ListComp elt gens scope pos) d it acc env = (do
      standAt iter.pos
      match ← pyNext it with
      | none => pure (.done .next)
      | some v =>
        letOwnedTupleGo target it v
        assign target env v
        let mut ok := true
        for c in ifs do
          if ok then ok ← isTrue c env (eval c env)
        if ok then
          (do let _ ← call (.builtin "list.append") [acc, ← eval elt env])
        again (.compLoop (.ListComp elt gens scope pos) d it acc env)))
    (turn : ∀ n s, I n s → wpAny (model prog w) A (pyNext it) (fun r s₁ => match r with
      | none => R (.ok .next) s₁
      | some v => wpAny (model prog w) A (letOwnedTupleGo target it v) (fun _ s₁' => wpAny (model prog w) A (assign target env v) (fun _ s₂ =>
          wpAny (model prog w) A (forIn ifs true fun c r => if r = true then do let ok ← isTrue c env (eval c env); pure (ForInStep.yield ok) else pure (ForInStep.yield r)) (fun ok s₃ =>
            if ok = true then wpAny (model prog w) A (eval elt env) (fun x s₄ =>
              wpAny (model prog w) A (call (.builtin "list.append") [acc, x]) (fun _ s₅ => ∃ m, m < n ∧ I m s₅) NoE s₄) NoE s₃
            else ∃ m, m < n ∧ I m s₃) NoE s₂) NoE s₁') NoE s₁) NoE s)
    (n : Nat) (h : I n s) :
    codeAny (model prog w) A (.compLoop (.ListComp elt gens scope pos) d it acc env) R s := by
  refine codeAny_loop rfl I (fun n s hI => ?_) n h
  show wpAny _ A ((compTurn (.ListComp elt gens scope pos) d it acc env).onRaise (fun x => do noteFrame x env; theTreesLotGoes x)) _ _ s
  refine noted_no ?_
  rw [hT]
  refine wpAny_bind (wpAny_standAt (wpAny_bind (wpAny_mono (turn n s hI) (fun r s₁ h₁ => ?_) fun _ _ h' => h')))
  cases r with
  | none => exact wpAny_pure h₁
  | some v =>
    refine wpAny_bind (wpAny_mono h₁ (fun _ s₁' h₁' => ?_) fun _ _ h' => h')
    refine wpAny_bind (wpAny_mono h₁' (fun _ s₂ h₂ => wpAny_bind (wpAny_mono h₂ (fun ok s₃ h₃ => ?_) fun _ _ h' => h')) fun _ _ h' => h')
    cases ok with
    | true =>
      simp only [if_true] at h₃ ⊢
      exact wpAny_bind (wpAny_bind (wpAny_mono h₃ (fun x s₄ h₄ => wpAny_bind (wpAny_mono h₄ (fun _ s₅ h₅ => wpAny_pure (wpAny_pure ⟨rfl, h₅⟩)) fun _ _ h' => h')) fun _ _ h' => h'))
    | false =>
      simp only [Bool.false_eq_true, if_false] at h₃ ⊢
      exact wpAny_bind (wpAny_pure (wpAny_pure ⟨rfl, h₃⟩))

theorem loop_two {elt target iter t1 i1 : Expr} {f1 : List Expr} {scope : Scope} {pos : Pos} {it acc : Value} (I : Nat → Shared → Prop)
    (hs : ∀ x, foldedSetIterable i1 env x = pure x)
    (turn : ∀ n s, I n s → wpAny (model prog w) A (pyNext it) (fun r s₁ => match r with
      | none => R (.ok .next) s₁
      | some v => wpAny (model prog w) A (letOwnedTupleGo target it v) (fun _ s₁' => wpAny (model prog w) A (assign target env v) (fun _ s₂ =>
          wpAny (model prog w) A (eval i1 env) (fun x s₃ => wpAny (model prog w) A (pyIter x) (fun it1 s₄ =>
            codeAny (model prog w) (A.mark none) (.compStart (.ListComp elt [⟨target, iter, [], 0⟩, ⟨t1, i1, f1, 0⟩] scope pos) 1 it1 acc env) (fun r s₅ => match r with | .ok _ => ∃ m, m < n ∧ I m s₅ | .error _ => False) s₄) NoE s₃) NoE s₂) NoE s₁') NoE s₁) NoE s)
    (n : Nat) (h : I n s) :
    codeAny (model prog w) A (.compLoop (.ListComp elt [⟨target, iter, [], 0⟩, ⟨t1, i1, f1, 0⟩] scope pos) 0 it acc env) R s := by
  refine codeAny_loop rfl I (fun n s hI => ?_) n h
  show wpAny _ A ((compTurn (.ListComp elt [⟨target, iter, [], 0⟩, ⟨t1, i1, f1, 0⟩] scope pos) 0 it acc env).onRaise (fun x => do noteFrame x env; theTreesLotGoes x)) _ _ s
  refine noted_no ?_
  rw [turn0]
  refine wpAny_bind (wpAny_standAt (wpAny_bind (wpAny_mono (turn n s hI) (fun r s₁ h₁ => ?_) fun _ _ h' => h')))
  cases r with
  | none => exact wpAny_pure h₁
  | some v =>
    refine wpAny_bind (wpAny_mono h₁ (fun _ s₁' h₁' => ?_) fun _ _ h' => h')
    refine wpAny_bind (wpAny_mono h₁' (fun _ s₂ h₂ => wpAny_bind (wpAny_mono h₂ (fun x s₃ h₃ => ?_) fun _ _ h' => h')) fun _ _ h' => h')
    refine wpAny_bind (wpAny_standAt (wpAny_bind (wpAny_of_eq (hs x) (wpAny_bind (wpAny_holding (wpAny_mono h₃ (fun it1 s₄ h₄ => ?_) fun _ _ h' => h'))))))
    refine wpAny_bind (wpAny_runOwn (h := none) (codeAny_mono h₄ fun r s₅ h₅ => ?_))
    cases r with
    | ok f => exact wpAny_pure ⟨rfl, h₅⟩
    | error x => exact h₅.elim

theorem start_list {elt : Expr} {gens : List Comprehension} {d : Nat} {g : Comprehension} {scope : Scope} {pos : Pos} {it acc : Value} (hg : gens[d]? = some g) (ha : g.is_async = 0)
    (h0 : codeAny (model prog w) A (.compLoop (.ListComp elt gens scope pos) d it acc env) R s)
    (h : wpAny (model prog w) A (pyIter it) (fun it' s' => it' = it ∧ s' = s) NoE s) :
    codeAny (model prog w) A (.compStart (.ListComp elt gens scope pos) d it acc env) R s := by
  refine codeAny_of_tree ?_
  show wpAny _ _ ((compStart (.ListComp elt gens scope pos) d it acc env).onRaise (fun x => do noteFrame x env; standAt theWindowsPlace)) _ _ s
  refine noted_no ?_
  unfold compStart
  have hc : (clausesOf (.ListComp elt gens scope pos))[d]? = some g := hg
  rw [hc]
  have ha' : (g.is_async != 0) = false := by simp [ha]
  simp only [Option.elim, ha', Bool.false_eq_true, if_false]
  show wpAny _ _ (ask >>= _) _ _ s
  refine wpAny_bind (wpAny_askSetting (wpAny_ite ?_))
  split
  · exact wpAny_pure (And.intro rfl h0)
  · exact wpAny_bind (wpAny_rule (wpAny_bind (wpAny_standAt (wpAny_bind (wpAny_mono h (fun it' s' h' => by obtain ⟨rfl, rfl⟩ := h'; exact wpAny_pure (And.intro rfl h0)) fun _ _ x => x)))))

/-- a walked source, its iterator in the ledger -/
structure Src (prog : Program) (w : World) (h₀ : Heap) (L : Addr) (m : Str → Option Value) (I : Addr) (n : Nat) (P : Nat → Value → Prop) (ItP : Nat → Obj → Prop) (S : List (Addr × Obj) → Prop) : Prop where
  item : ∀ (A : Around) i oI rest s Q (E : Value → Shared → Prop), A.handled = none → i < n → ItP i oI → Fr h₀ L s.heap m → News h₀ L s.heap ((I, oI) :: rest) → (∀ p ∈ rest, p.1 ≠ I) → S rest →
    (∀ v h' tk oI', P i v → ItP (i + 1) oI' → Fr h₀ L h' m → News h₀ L h' ((I, oI') :: rest) → Q (some v) { s with heap := h', toks := tk }) → wpAny (model prog w) A (pyNext (.ref I)) Q E s
  done : ∀ (A : Around) oI rest s Q (E : Value → Shared → Prop), A.handled = none → ItP n oI → Fr h₀ L s.heap m → News h₀ L s.heap ((I, oI) :: rest) → (∀ p ∈ rest, p.1 ≠ I) → S rest →
    (∀ h' tk, Fr h₀ L h' m → News h₀ L h' rest → Q none { s with heap := h', toks := tk }) → wpAny (model prog w) A (pyNext (.ref I)) Q E s
  self : ∀ (A : Around) i oI rest s (E : Value → Shared → Prop), ItP i oI → News h₀ L s.heap ((I, oI) :: rest) → wpAny (model prog w) A (pyIter (.ref I)) (fun it' s' => it' = .ref I ∧ s' = s) E s

theorem Src.range {I : Addr} (a c : Int) (n : Nat) : Src prog w h₀ L m I n (fun i v => ∃ t, v = .int (a + (i : Nat) * c) t) (fun i o => o = krsIt (a + (i : Nat) * c) ((n : Int) - (i : Nat)) c) (fun _ => True) where
  item := by
    rintro A i oI rest s Q E hh hi rfl F N off - h
    have z := N _ List.mem_cons_self
    refine wpAny_pyNext_range_item z.1 (by omega) fun h' hit' hs' => h _ h' _ _ ⟨_, rfl⟩ rfl (F.change hs' z.2.1 z.2.2) fun p hp => ?_
    rcases List.mem_cons.mp hp with rfl | hp
    · refine ⟨?_, z.2⟩
      have e1 : a + ((i + 1 : Nat) : Int) * c = a + (i : Int) * c + c := by push_cast; rw [Int.add_mul, Int.one_mul, Int.add_assoc]
      have e2 : (n : Int) - ((i + 1 : Nat) : Int) = (n : Int) - (i : Int) - 1 := by push_cast; omega
      show h'.get? I = some (krsIt (a + ((i + 1 : Nat) : Int) * c) ((n : Int) - ((i + 1 : Nat) : Int)) c)
      rw [e1, e2]; exact hit'
    · exact ⟨hs'.extBut _ _ (off p hp) (N p (.tail _ hp)).1, (N p (.tail _ hp)).2⟩
  done := by
    rintro A oI rest s Q E hh rfl F N off - h
    have z := N _ List.mem_cons_self
    refine wpAny_pyNext_range_end hh z.1 (by omega) fun h' he' => h h' s.toks (fr_but F (I := I) (fun b o hb e => he' b o (by simpa using hb) e) (Ne.symm z.2.1) z.2.2) (news_but (fun p hp => N p (.tail _ hp)) (I := I) (fun b o hb e => he' b o (by simpa using hb) e) off)
  self := by
    rintro A i oI rest s E rfl N
    exact wpAny_pyIter_rangeiter (N _ List.mem_cons_self).1 ⟨rfl, rfl⟩

theorem Src.list {I ax : Addr} {its : Array Value} (hne : ax ≠ I) : Src prog w h₀ L m I its.size (fun i v => its[i]? = some v) (fun i o => o.cls = .type "list_iterator" ∧ o.data = .fields #[.ref ax, .int (i : Nat) 0])
    (fun news => ∃ o, (ax, o) ∈ news ∧ o.cls = .type "list" ∧ ∃ k, o.data = .seq its k) where
  item := by
    rintro A i oI rest s Q E hh hi ⟨hc, hd⟩ F N off ⟨o, ho, hS⟩ h
    have z := N _ List.mem_cons_self
    refine wpAny_pyNext_list_item (x := its[i]) ⟨_, z.1, hc, hd⟩ ⟨o, (N _ (.tail _ ho)).1, hS⟩ (by simp [hi]) fun h' ⟨oI', hit', hc', hd'⟩ hs' => h _ h' s.toks oI' (by simp [hi]) ⟨hc', hd'⟩ (F.change hs' z.2.1 z.2.2) fun p hp => ?_
    rcases List.mem_cons.mp hp with rfl | hp
    · exact ⟨hit', z.2⟩
    · exact ⟨hs'.extBut _ _ (off p hp) (N p (.tail _ hp)).1, (N p (.tail _ hp)).2⟩
  done := by
    rintro A oI rest s Q E hh ⟨hc, hd⟩ F N off ⟨o, ho, hS⟩ h
    have z := N _ List.mem_cons_self
    refine wpAny_pyNext_list_end hh ⟨_, z.1, hc, hd⟩ ⟨o, (N _ (.tail _ ho)).1, hS⟩ (by simp) fun h' he' => h h' s.toks (fr_but F (I := I) (fun b o hb e => he' b o (by simpa using hb) e) (Ne.symm z.2.1) z.2.2) (news_but (fun p hp => N p (.tail _ hp)) (I := I) (fun b o hb e => he' b o (by simpa using hb) e) off)
  self := by
    rintro A i oI rest s E ⟨hc, hd⟩ N
    exact wpAny_pyIter_listiter ⟨_, (N _ List.mem_cons_self).1, hc, hd⟩ ⟨rfl, rfl⟩

/-- storing a name of the comprehension's own frame -/
theorem own_store {C : Addr} {oC : Obj} {x : Str} {px : Pos} {v : Value} {m₂ : Str → Option Value} {rest : List (Addr × Obj)} {scope : Scope} {cl : List (Str × Addr)} {Q : Unit → Shared → Prop}
    (hkind : scope.kind = .function) (hx : scope.names.lookup x = some .local) (F : Fr h₀ L s.heap m) (N : News h₀ L s.heap ((C, oC) :: rest)) (hC : NsObj oC m₂) (off : ∀ p ∈ rest, p.1 ≠ C)
    (h : ∀ h' tk oC', NsObj oC' (fun y => if y = x then some v else m₂ y) → Fr h₀ L h' m → News h₀ L h' ((C, oC') :: rest) → Q () { s with heap := h', toks := tk }) :
    wpAny (model prog w) A (assign (.Name x px) (compEnvC scope cl C env) v) Q E s := by
  have z := N _ List.mem_cons_self
  refine wpAny_assign_Name (wpAny_storeName_local (lookup_relabel_local hx) (hC.ns z.1) (fun h₃ hn₃ hs₃ => ?_) (by simp [compEnvC, relabel, hkind]))
  obtain ⟨oC', heC, hoC⟩ := ns_obj hn₃
  refine h _ _ oC' hoC (F.change hs₃ z.2.1 z.2.2) fun p hp => ?_
  rcases List.mem_cons.mp hp with rfl | hp
  · exact ⟨heC, z.2⟩
  · exact ⟨hs₃.extBut _ _ (off p hp) (N p (.tail _ hp)).1, (N p (.tail _ hp)).2⟩

/-- the target takes the item -/
def AsgOk (prog : Program) (w : World) (h₀ : Heap) (L : Addr) (m : Str → Option Value) (env : Env) (target : Expr) (scope : Scope) (cl : List (Str × Addr)) (I : Addr) (P : Nat → Value → Prop) (ItP : Nat → Obj → Prop) (T : List (Addr × Obj) → Prop) (G : Nat → Value → (Str → Option Value) → (Str → Option Value) → Prop) : Prop :=
  ∀ (A : Around) i v oI C oC m₂ rest (s : Shared) (Q : Unit → Shared → Prop), A.handled = none → P i v → ItP (i + 1) oI → T rest → Fr h₀ L s.heap m → News h₀ L s.heap ((I, oI) :: (C, oC) :: rest) → (∀ p ∈ rest, p.1 ≠ C) → I ≠ C → NsObj oC m₂ →
    (∀ h' tk oC' m₃, NsObj oC' m₃ → G i v m₂ m₃ → Fr h₀ L h' m → News h₀ L h' ((I, oI) :: (C, oC') :: rest) → Q () { s with heap := h', toks := tk }) →
    wpAny (model prog w) A (letOwnedTupleGo target (.ref I) v) (fun _ s₁ => wpAny (model prog w) A (assign target (compEnvC scope cl C env) v) Q NoE s₁) NoE s

def Set1 (x : Str) (_ : Nat) (v : Value) (m₂ m₃ : Str → Option Value) : Prop := m₃ = fun y => if y = x then some v else m₂ y

theorem news_swap {p q : Addr × Obj} {r : List (Addr × Obj)} {h : Heap} (N : News h₀ L h (p :: q :: r)) : News h₀ L h (q :: p :: r) := fun z hz => N z (by
  rcases List.mem_cons.mp hz with rfl | hz
  · exact .tail _ (.head _)
  · rcases List.mem_cons.mp hz with rfl | hz
    · exact .head _
    · exact .tail _ (.tail _ hz))

theorem AsgOk.name {x : Str} {px : Pos} {scope : Scope} {cl : List (Str × Addr)} {I : Addr} {P : Nat → Value → Prop} {ItP : Nat → Obj → Prop} {T : List (Addr × Obj) → Prop} (hkind : scope.kind = .function) (hx : scope.names.lookup x = some .local) :
    AsgOk prog w h₀ L m env (.Name x px) scope cl I P ItP T (Set1 x) := by
  intro A i v oI C oC m₂ rest s Q hh hP hI hT F N off hIC hC h
  refine wpAny_pure ?_
  exact own_store hkind hx F (news_swap N) hC (fun p hp => by
    rcases List.mem_cons.mp hp with rfl | hp
    · exact hIC
    · exact off p hp) fun h' tk oC' hC' F' N' => h h' tk oC' _ hC' rfl F' (news_swap N')

def Set2 (U : Nat → Value → Value → Prop) (x y : Str) (i : Nat) (_ : Value) (m₂ m₃ : Str → Option Value) : Prop := ∃ v₁ v₂, U i v₁ v₂ ∧ m₃ = fun z => if z = y then some v₂ else if z = x then some v₁ else m₂ z
def PairIn (U : Nat → Value → Value → Prop) (its : Array Value) (rest : List (Addr × Obj)) : Prop := ∀ i v, its[i]? = some v → ∃ t ot v₁ v₂ nt, v = .ref t ∧ (t, ot) ∈ rest ∧ ot.cls = .type "tuple" ∧ ot.data = .seq #[v₁, v₂] nt ∧ U i v₁ v₂

theorem AsgOk.pair {U : Nat → Value → Value → Prop} {ax : Addr} {its : Array Value} {x y : Str} {px py tp : Pos} {tk} {scope : Scope} {cl : List (Str × Addr)} {I : Addr} (hkind : scope.kind = .function) (hx : scope.names.lookup x = some .local) (hy : scope.names.lookup y = some .local) :
    AsgOk prog w h₀ L m env (.Tuple [.Name x px, .Name y py] tk tp) scope cl I (fun i v => its[i]? = some v) (fun i o => o.cls = .type "list_iterator" ∧ o.data = .fields #[.ref ax, .int (i : Nat) 0]) (PairIn U its) (Set2 U x y) := by
  intro A i v oI C oC m₂ rest s Q hh hP hI hT F N off hIC hC h
  obtain ⟨t, ot, v₁, v₂, nt, rfl, hmt, hct, hdt, hU⟩ := hT i v hP
  refine wpAny_letOwnedTupleGo_listiter ⟨_, (N _ (.head _)).1, hI.1, hI.2⟩ ?_
  refine assign_Tuple_tuple hh ⟨ot, (N _ (.tail _ (.tail _ hmt))).1, hct, nt, hdt⟩ rfl rfl fun h₅ he => ?_
  have he' : ∀ b o, s.heap.get? b = some o → h₅.get? b = some o := fun b o e => he b o (Nat.ne_of_lt (Heap.lt_size e)) e
  have N₁ : News h₀ L h₅ ((I, oI) :: (C, oC) :: rest) := fun p hp => ⟨he' _ _ (N p hp).1, (N p hp).2⟩
  have offI : ∀ p ∈ (I, oI) :: rest, p.1 ≠ C := fun p hp => by
    rcases List.mem_cons.mp hp with rfl | hp
    · exact hIC
    · exact off p hp
  refine assignInOrder_cons (own_store hkind hx (F.keeps he') (news_swap N₁) hC offI fun h₆ tk₆ oC₆ hC₆ F₆ N₆ => ?_)
  refine assignInOrder_cons (own_store hkind hy F₆ N₆ hC₆ offI fun h₇ tk₇ oC₇ hC₇ F₇ N₇ => ?_)
  exact assignInOrder_nil (h h₇ tk₇ oC₇ _ hC₇ ⟨v₁, v₂, hU, rfl⟩ F₇ (news_swap N₇))

theorem loop1 {elt target iter : Expr} {ifs : List Expr} {gens : List Comprehension} {d : Nat} {scope : Scope} {pos : Pos} {cl : List (Str × Addr)} {I C D : Addr} {n : Nat} {P : Nat → Value → Prop} {ItP : Nat → Obj → Prop} {S T : List (Addr × Obj) → Prop} {G : Nat → Value → (Str → Option Value) → (Str → Option Value) → Prop}
    (Inv : Nat → List Value → (Str → Option Value) → List (Addr × Obj) → Prop) {ys₀ : List Value} {m₂ : Str → Option Value} {rest₀ : List (Addr × Obj)} {oI oC : Obj}
    (Sr : Src prog w h₀ L m I n P ItP S) (asg : AsgOk prog w h₀ L m env target scope cl I P ItP T G) (hh : A.handled = none)
    (hT : ∀ it acc env, compTurn (.ListComp elt gens scope pos) d it acc env = (do
      standAt iter.pos
      match ← pyNext it with
      | none => pure (.done .next)
      | some v =>
        letOwnedTupleGo target it v
        assign target env v
        let mut ok := true
        for c in ifs do
          if ok then ok ← isTrue c env (eval c env)
        if ok then
          (do let _ ← call (.builtin "list.append") [acc, ← eval elt env])
        again (.compLoop (.ListComp elt gens scope pos) d it acc env)))
    (hsz : ∀ i ys m₂ rest, Inv i ys m₂ rest → ys.length ≤ sizeLine) (hS : ∀ i ys m₂ rest, Inv i ys m₂ rest → S rest ∧ T rest) (hSm : ∀ p r, S r → S (p :: r)) (hTm : ∀ p r, T r → T (p :: r))
    (turn : ∀ i v ys m₂ m₃ rest oI oC h tk (E' : Value → Shared → Prop), i < n → P i v → ItP (i + 1) oI → Inv i ys m₂ rest → G i v m₂ m₃ → NsObj oC m₃ → Fr h₀ L h m → News h₀ L h ((I, oI) :: (C, oC) :: (D, lst ys) :: rest) → Off3 I C D rest → ((@Ne Nat I C) ∧ (@Ne Nat I D) ∧ (@Ne Nat C D)) →
      wpAny (model prog w) A (forIn ifs true fun c r => if r = true then do let ok ← isTrue c (compEnvC scope cl C env) (eval c (compEnvC scope cl C env)); pure (ForInStep.yield ok) else pure (ForInStep.yield r)) (fun ok s₃ =>
        if ok = true then wpAny (model prog w) A (eval elt (compEnvC scope cl C env)) (CompEnd h₀ L m { s with heap := h, toks := tk } I oI C oC D (lst ys) (fun _ => True) (fun y rest' => Inv (i + 1) (ys ++ [y]) m₃ rest')) E' s₃
        else CompEnd h₀ L m { s with heap := h, toks := tk } I oI C oC D (lst ys) (fun _ => True) (fun _ rest' => Inv (i + 1) ys m₃ rest') Value.none s₃) E' { s with heap := h, toks := tk })
    (fin : ∀ ys m₂ rest oC h tk, Inv n ys m₂ rest → NsObj oC m₂ → Fr h₀ L h m → News h₀ L h ((C, oC) :: (D, lst ys) :: rest) → Off3 I C D rest → R (.ok .next) { s with heap := h, toks := tk })
    (hI : ItP 0 oI) (hC : NsObj oC m₂) (F : Fr h₀ L s.heap m) (N : News h₀ L s.heap ((I, oI) :: (C, oC) :: (D, lst ys₀) :: rest₀)) (off : Off3 I C D rest₀) (hne : (@Ne Nat I C) ∧ (@Ne Nat I D) ∧ (@Ne Nat C D)) (h0 : Inv 0 ys₀ m₂ rest₀) :
    codeAny (model prog w) A (.compLoop (.ListComp elt gens scope pos) d (.ref I) (.ref D) (compEnvC scope cl C env)) R s := by
  have offI : ∀ {oC : Obj} {ys : List Value} {rest : List (Addr × Obj)}, Off3 I C D rest → ∀ p ∈ (C, oC) :: (D, lst ys) :: rest, p.1 ≠ I := fun off p hp => by
    rcases List.mem_cons.mp hp with rfl | hp
    · exact Ne.symm hne.1
    · rcases List.mem_cons.mp hp with rfl | hp
      · exact Ne.symm hne.2.1
      · exact (off.mem p hp).1
  have offC : ∀ {ys : List Value} {rest : List (Addr × Obj)}, Off3 I C D rest → ∀ p ∈ (D, lst ys) :: rest, p.1 ≠ C := fun off p hp => by
    rcases List.mem_cons.mp hp with rfl | hp
    · exact Ne.symm hne.2.2
    · exact (off.mem p hp).2.1
  refine loop_last (I := fun k s' => ∃ h' tk i ys m₂ rest oI oC, s' = { s with heap := h', toks := tk } ∧ i ≤ n ∧ k = n + 1 - i ∧ ItP i oI ∧ NsObj oC m₂ ∧ Fr h₀ L h' m ∧ News h₀ L h' ((I, oI) :: (C, oC) :: (D, lst ys) :: rest) ∧ Off3 I C D rest ∧ Inv i ys m₂ rest)
    (hT _ _ _) ?_ (n + 1) ⟨s.heap, s.toks, 0, ys₀, m₂, rest₀, oI, oC, rfl, Nat.zero_le _, rfl, hI, hC, F, N, off, h0⟩
  rintro k s' ⟨h', tk, i, ys, m₂, rest, oI, oC, rfl, hi, rfl, hI, hC, F, N, off, hInv⟩
  by_cases hlt : i < n
  · refine Sr.item A i oI _ _ _ _ hh hlt hI F N (offI off) (hSm _ _ (hSm _ _ (hS _ _ _ _ hInv).1)) fun v h₁ tk₁ oI₁ hP hI₁ F₁ N₁ => ?_
    refine asg A i v oI₁ C oC m₂ _ _ _ hh hP hI₁ (hTm _ _ (hS _ _ _ _ hInv).2) F₁ N₁ (offC off) hne.1 hC fun h₂ tk₂ oC₂ m₃ hC₂ hG F₂ N₂ => ?_
    refine wpAny_mono (turn i v ys m₂ m₃ rest oI₁ oC₂ h₂ tk₂ NoE hlt hP hI₁ hInv hG hC₂ F₂ N₂ off hne) (fun ok s₃ h₃ => ?_) fun _ _ e => e
    cases ok with
    | true =>
      simp only [if_true] at h₃ ⊢
      refine wpAny_mono h₃ (fun y s₄ h₄ => ?_) fun _ _ e => e
      obtain ⟨h₄, tk₄, news₄, rfl, F₄, N₄, off₄, -, R₄⟩ := h₄
      have zD := (N₄ (D, lst ys) (.tail _ (.tail _ (.head _))))
      refine append_at (hsz := by show ys.toArray.size ≤ sizeLine; rw [List.size_toArray]; exact hsz _ _ _ _ hInv) zD.1 fun h₅ hs₅ hD₅ => ?_
      refine ⟨n + 1 - (i + 1), by omega, h₅, tk₄, i + 1, ys ++ [y], m₃, news₄, oI₁, oC₂, rfl, hlt, rfl, hI₁, hC₂, F₄.change hs₅ zD.2.1 zD.2.2, fun p hp => ?_, off₄, R₄⟩
      rcases List.mem_cons.mp hp with rfl | hp
      · exact ⟨hs₅.extBut _ _ hne.2.1 (N₄ _ (.head _)).1, (N₄ _ (.head _)).2⟩
      · rcases List.mem_cons.mp hp with rfl | hp
        · exact ⟨hs₅.extBut _ _ hne.2.2 (N₄ _ (.tail _ (.head _))).1, (N₄ _ (.tail _ (.head _))).2⟩
        · rcases List.mem_cons.mp hp with rfl | hp
          · exact ⟨hD₅.trans (congrArg some (lst_snoc ys y)), zD.2⟩
          · have z := N₄ p (.tail _ (.tail _ (.tail _ hp)))
            exact ⟨hs₅.extBut _ _ (off₄.mem p hp).2.2 z.1, z.2⟩
    | false =>
      simp only [Bool.false_eq_true, if_false] at h₃ ⊢
      obtain ⟨h₄, tk₄, news₄, rfl, F₄, N₄, off₄, -, R₄⟩ := h₃
      exact ⟨n + 1 - (i + 1), by omega, h₄, tk₄, i + 1, ys, m₃, news₄, oI₁, oC₂, rfl, hlt, rfl, hI₁, hC₂, F₄, N₄, off₄, R₄⟩
  · obtain rfl : i = n := Nat.le_antisymm hi (Nat.not_lt.mp hlt)
    refine Sr.done A oI _ _ _ _ hh hI F N (offI off) (hSm _ _ (hSm _ _ (hS _ _ _ _ hInv).1)) fun h₁ tk₁ F₁ N₁ => ?_
    exact fin ys m₂ rest oC h₁ tk₁ hInv hC F₁ N₁ off

def CompOk (h₀ : Heap) (L : Addr) (m : Str → Option Value) (s : Shared) (Fin : List Value → List (Addr × Obj) → Prop) (C D : Addr) (r : Result) (s' : Shared) : Prop :=
  match r with
  | .ok _ => ∃ oC m₂ ys rest h tk, s' = { s with heap := h, toks := tk } ∧ NsObj oC m₂ ∧ Fr h₀ L h m ∧ News h₀ L h ((C, oC) :: (D, lst ys) :: rest) ∧ (∀ p ∈ rest, p.1 ≠ C ∧ p.1 ≠ D) ∧ Fin ys rest
  | .error _ => False

/-- the block of a comprehension, from the two objects that it opens with -/
def CompRun (prog : Program) (w : World) (A : Around) (h₀ : Heap) (L : Addr) (m : Str → Option Value) (env : Env) (e : Expr) (scope : Scope) (cl : List (Str × Addr)) (it : Value) (s : Shared) (news : List (Addr × Obj)) (Fin : List Value → List (Addr × Obj) → Prop) : Prop :=
  ∀ C D oC m₂ h tk, NsObj oC m₂ → Fr h₀ L h m → News h₀ L h ((C, oC) :: (D, lst []) :: news) → (∀ p ∈ news, p.1 < C ∧ p.1 < D) → (@Ne Nat C D) →
    codeAny (model prog w) A (.compStart e 0 it (.ref D) (compEnvC scope cl C env)) (CompOk h₀ L m s Fin C D) { s with heap := h, toks := tk }

theorem comp_alloc {e : Expr} {it : Value} {scope : Scope} {cl : List (Str × Addr)} {news : List (Addr × Obj)} {RR : Value → Addr → Result → Shared → Prop} (hcell : ∀ y ∈ scope.names, y.2 ≠ .cell) (hkind : scope.kind = .function) (F : Fr h₀ L s.heap m) (N : News h₀ L s.heap news)
    (h : ∀ C D oC m₂ h tk, NsObj oC m₂ → Fr h₀ L h m → News h₀ L h ((C, oC) :: (D, lst []) :: news) → (∀ p ∈ news, p.1 < C ∧ p.1 < D) → (@Ne Nat C D) →
      codeAny (model prog w) A (.compStart e 0 it (.ref D) (compEnvC scope cl C env)) (RR (.ref D) C) { s with heap := h, toks := tk }) :
    wpAny (model prog w) A (newList []) (fun acc s₃ => wpAny (model prog w) A (newFunctionEnv scope env.globals cl [] env.qual none .none (some env)) (fun cenv s₄ =>
      codeAny (model prog w) A (.compStart e 0 it acc { cenv with scope := relabel scope env }) (RR acc cenv.locals) s₄) E s₃) E s := by
  refine wpAny_newObj_type (wpAny_newFunctionEnv hcell (by intro y hy; simp at hy) (fun h₁ hns₁ hsb₁ => ?_) hkind)
  dsimp only at hns₁ hsb₁ ⊢
  generalize hH2 : s.heap.push { cls := .type "list", dict := none, data := .seq ([] : List Value).toArray } = H2 at hns₁ hsb₁ ⊢
  have hC : H2.objs.size = s.heap.objs.size + 1 := by rw [← hH2, Heap.size_push]
  have hDC : s.heap.objs.size ≠ H2.objs.size := by rw [hC]; exact Nat.ne_of_lt (Nat.lt_succ_self _)
  have below : ∀ b, b < s.heap.objs.size → b ≠ H2.objs.size ∧ b ≠ s.heap.objs.size := fun b hb => ⟨by rw [hC]; exact Nat.ne_of_lt (Nat.lt_succ_of_lt hb), Nat.ne_of_lt hb⟩
  have old : ∀ b o, s.heap.get? b = some o → h₁.get? b = some o := fun b o e => hsb₁.extBut b o (below b (Heap.lt_size e)).1 (Heap.get?_push_of_some _ (hH2 ▸ Heap.get?_push_of_some _ e))
  have hacc : h₁.get? s.heap.objs.size = some (lst []) := hsb₁.extBut _ _ hDC (Heap.get?_push_of_some _ (hH2 ▸ Heap.get?_push_size _ rfl))
  have fresh : ∀ a, s.heap.objs.size ≤ a → s.heap.get? a = none := fun a ha => by
    cases e : s.heap.get? a with
    | none => rfl
    | some o' => exact absurd (Heap.lt_size e) (Nat.not_lt.mpr ha)
  have fresh₀ : ∀ a, s.heap.objs.size ≤ a → h₀.get? a = none := fun a ha => by
    cases e : h₀.get? a with
    | none => rfl
    | some o' => have := F.keep a o' e; rw [fresh a ha] at this; cases this
  have hD₀ : h₀.get? s.heap.objs.size = none := fresh₀ _ (Nat.le_refl _)
  have hC₀ : h₀.get? H2.objs.size = none := fresh₀ _ (by rw [hC]; exact Nat.le_succ _)
  have hLlt : L < s.heap.objs.size := F.ns.lt
  have hDL : s.heap.objs.size ≠ L := Ne.symm (below L hLlt).2
  have hCL : H2.objs.size ≠ L := Ne.symm (below L hLlt).1
  obtain ⟨oC, heC, hoC⟩ := ns_obj hns₁
  refine h H2.objs.size s.heap.objs.size oC _ h₁ _ hoC (F.keeps old) (fun p hp => ?_) (fun p hp => ?_) (Ne.symm hDC)
  · rcases List.mem_cons.mp hp with rfl | hp
    · exact ⟨heC, hCL, hC₀⟩
    · rcases List.mem_cons.mp hp with rfl | hp
      · exact ⟨hacc, hDL, hD₀⟩
      · exact ⟨old _ _ (N p hp).1, (N p hp).2⟩
  · have := Heap.lt_size (N p hp).1
    exact ⟨by rw [hC]; exact Nat.lt_succ_of_lt this, this⟩

theorem my_ListComp {elt : Expr} {g : Comprehension} {gs : List Comprehension} {scope : Scope} {cl : List (Str × Addr)} {pos : Pos} {Q : Value → Shared → Prop} (F₀ : Fr h₀ L s.heap m) (ha : g.is_async = 0)
    (hclos : closureFor scope env = pure cl) (hcell : ∀ y ∈ scope.names, y.2 ≠ .cell) (hkind : scope.kind = .function)
    (hnames : ∀ y ∈ scope.names, y.2 = .local → scope.names.lookup y.1 = some .local)
    (h : wpAny (model prog w) A (eval g.iter env) (fun xv s₁ => wpAny (model prog w) A (pyIter xv) (fun it s₂ => ∃ news, Fr h₀ L s₂.heap m ∧ News h₀ L s₂.heap news ∧
      CompRun prog w A h₀ L m env (.ListComp elt (g :: gs) scope pos) scope cl it s₂ news (FinE h₀ L m s₂ Q)) E s₁) E s)
    (hs : ∀ x, foldedSetIterable g.iter env x = pure x := by intro _; rfl) :
    wpAny (model prog w) A (eval (.ListComp elt (g :: gs) scope pos) env) Q E s := by
  obtain ⟨target, iter, ifs, as⟩ := g
  obtain rfl : as = 0 := ha
  rw [eval_ListComp]
  refine wpAny_comprehension_free (use := none) rfl hs hclos hkind hnames (wpAny_mono h (fun xv s₁ h₁ => wpAny_mono h₁ (fun it s₂ h₂ => ?_) fun _ _ e => e) fun _ _ e => e)
  obtain ⟨news, F, N, run⟩ := h₂
  refine comp_alloc (RR := fun acc C => compPost (model prog w) A E none Q acc C) hcell hkind F N fun C D oC m₂ h tk hC F₁ N₁ lt ne => ?_
  refine codeAny_mono (run C D oC m₂ h tk hC F₁ N₁ lt ne) fun r s' hr => ?_
  cases r with
  | error x => exact hr.elim
  | ok f =>
    obtain ⟨oC', m₃, ys, rest, h', tk', rfl, hC', F', N', off, fin⟩ := hr
    have zC := N' _ (.head _)
    refine ⟨m₃, hC'.ns zC.1, fun h'' hs'' => fin D h'' tk' (F'.change hs'' zC.2.1 zC.2.2) (fun p hp => ?_) ?_⟩
    · refine ⟨hs''.extBut _ _ ?_ (N' p (.tail _ hp)).1, (N' p (.tail _ hp)).2⟩
      rcases List.mem_cons.mp hp with rfl | hp
      · exact Ne.symm ne
      · exact (off p hp).1
    · have : ∀ l : List (Addr × Obj), (∀ p ∈ l, p.1 ≠ C ∧ p.1 ≠ D) → Off1 D l := by
        intro l
        induction l with
        | nil => intro _; trivial
        | cons p r ih => intro h; exact ⟨(h p (.head _)).2, ih fun q hq => h q (.tail _ hq)⟩
      exact this _ off

theorem my_Assign_ListComp {elt : Expr} {g : Comprehension} {gs : List Comprehension} {y : Str} {py : Pos} {scope : Scope} {cl : List (Str × Addr)} {pos spos : Pos} {Q : Flow → Shared → Prop} (F₀ : Fr h₀ L s.heap m) (ha : g.is_async = 0) (hLe : env.locals = L)
    (hsw : swapsWith (.ListComp elt (g :: gs) scope pos) (some (.Name y py)) spos.line env = pure true)
    (hclos : closureFor scope env = pure cl) (hcell : ∀ y ∈ scope.names, y.2 ≠ .cell) (hkind : scope.kind = .function)
    (hnames : ∀ y ∈ scope.names, y.2 = .local → scope.names.lookup y.1 = some .local)
    (hy : env.kindOf y = some .local) (hp : (env.scope.kind == .class || (env.scope.kind == .module && env.locals != env.globals)) = false)
    (h : wpAny (model prog w) A (eval g.iter env) (fun xv s₁ => wpAny (model prog w) A (pyIter xv) (fun it s₂ => ∃ news, Fr h₀ L s₂.heap m ∧ News h₀ L s₂.heap news ∧
      CompRun prog w A h₀ L m env (.ListComp elt (g :: gs) scope pos) scope cl it s₂ news (FinA h₀ L m s₂ y Q)) E s₁) E s)
    (hs : ∀ x, foldedSetIterable g.iter env x = pure x := by intro _; rfl) :
    wpAny (model prog w) A (exec (.Assign [.Name y py] (.ListComp elt (g :: gs) scope pos) spos) env) Q E s := by
  obtain ⟨target, iter, ifs, as⟩ := g
  obtain rfl : as = 0 := ha
  subst hLe
  rw [exec_Assign_Name_used _ _ _ _ hsw]
  refine wpAny_bind (wpAny_standAt (wpAny_bind ?_))
  show wpAny _ A (do let _ ← comprehension (.ListComp elt (⟨target, iter, ifs, 0⟩ :: gs) scope pos) scope env _ (newList []) false (eval iter env) (some (assign (.Name y py) env))) _ _ s
  refine wpAny_bind (wpAny_mono (wpAny_comprehension_free (use := some (assign (.Name y py) env)) (Q := fun _ s' => Q .next s') rfl hs hclos hkind hnames
    (wpAny_mono h (fun xv s₁ h₁ => wpAny_mono h₁ (fun it s₂ h₂ => ?_) fun _ _ e => e) fun _ _ e => e)) (fun _ s' hq => wpAny_pure (wpAny_pure hq)) fun _ _ e => e)
  obtain ⟨news, F, N, run⟩ := h₂
  refine comp_alloc (RR := fun acc C => compPost (model prog w) A E (some (assign (.Name y py) env)) (fun _ s' => Q .next s') acc C) hcell hkind F N fun C D oC m₂ h tk hC F₁ N₁ lt ne => ?_
  refine codeAny_mono (run C D oC m₂ h tk hC F₁ N₁ lt ne) fun r s' hr => ?_
  cases r with
  | error x => exact hr.elim
  | ok f =>
    obtain ⟨oC', m₃, ys, rest, h', tk', rfl, hC', F', N', off, fin⟩ := hr
    have zC := N' _ (.head _)
    show wpAny _ A (assign (.Name y py) env (.ref D)) _ _ _
    refine wpAny_assign_Name (wpAny_storeName_local hy F'.ns (fun h₂ hn₂ hs₂ => ?_) hp)
    have hL₀ : h₀.get? env.locals = none := Heap.get?_none_of_le F'.above
    have F₂ : Fr h₀ env.locals h₂ (fun z => if z = y then some (.ref D) else m z) := ⟨hn₂, fun b o e => hs₂.extBut b o (fun q => by rw [q, hL₀] at e; cases e) (F'.keep b o e), F'.above⟩
    refine ⟨m₃, (hC'.ns zC.1).sameBut hs₂ zC.2.1, fun h'' hs'' => fin D h'' _ (F₂.change hs'' zC.2.1 zC.2.2) (fun p hp => ?_) ?_⟩
    · have z : h₂.get? p.1 = some p.2 := hs₂.extBut _ _ (N' p (.tail _ hp)).2.1 (N' p (.tail _ hp)).1
      refine ⟨hs''.extBut _ _ ?_ z, (N' p (.tail _ hp)).2⟩
      rcases List.mem_cons.mp hp with rfl | hp
      · exact Ne.symm ne
      · exact (off p hp).1
    · have : ∀ l : List (Addr × Obj), (∀ p ∈ l, p.1 ≠ C ∧ p.1 ≠ D) → Off1 D l := by
        intro l
        induction l with
        | nil => intro _; trivial
        | cons p r ih => intro h; exact ⟨(h p (.head _)).2, ih fun q hq => h q (.tail _ hq)⟩
      exact this _ off

theorem off3_of_lt {I C D : Addr} {oI : Obj} {rest : List (Addr × Obj)} (off : ∀ p ∈ rest, p.1 ≠ I) (lt : ∀ p ∈ (I, oI) :: rest, p.1 < C ∧ p.1 < D) : Off3 I C D rest :=
  Off3.of fun p hp => ⟨off p hp, Nat.ne_of_lt (lt p (.tail _ hp)).1, Nat.ne_of_lt (lt p (.tail _ hp)).2⟩

theorem news_in {p q r : Addr × Obj} {l : List (Addr × Obj)} {h : Heap} (N : News h₀ L h (q :: r :: p :: l)) : News h₀ L h (p :: q :: r :: l) := fun z hz => N z (by
  rcases List.mem_cons.mp hz with rfl | hz
  · exact .tail _ (.tail _ (.head _))
  · rcases List.mem_cons.mp hz with rfl | hz
    · exact .head _
    · rcases List.mem_cons.mp hz with rfl | hz
      · exact .tail _ (.head _)
      · exact .tail _ (.tail _ (.tail _ hz)))

theorem run1 {elt target iter : Expr} {ifs : List Expr} {scope : Scope} {pos : Pos} {cl : List (Str × Addr)} {I : Addr} {n : Nat} {P : Nat → Value → Prop} {ItP : Nat → Obj → Prop} {S T : List (Addr × Obj) → Prop} {G : Nat → Value → (Str → Option Value) → (Str → Option Value) → Prop}
    (Inv : Nat → List Value → (Str → Option Value) → List (Addr × Obj) → Prop) {rest₀ : List (Addr × Obj)} {oI : Obj} {Fin : List Value → List (Addr × Obj) → Prop}
    (Sr : Src prog w h₀ L m I n P ItP S) (asg : AsgOk prog w h₀ L m env target scope cl I P ItP T G) (hh : A.handled = none)
    (hsz : ∀ i ys m₂ rest, Inv i ys m₂ rest → ys.length ≤ sizeLine) (hS : ∀ i ys m₂ rest, Inv i ys m₂ rest → S rest ∧ T rest) (hSm : ∀ p r, S r → S (p :: r)) (hTm : ∀ p r, T r → T (p :: r))
    (turn : ∀ C D i v ys m₂ m₃ rest oI oC h tk (E' : Value → Shared → Prop), i < n → P i v → ItP (i + 1) oI → Inv i ys m₂ rest → G i v m₂ m₃ → NsObj oC m₃ → Fr h₀ L h m → News h₀ L h ((I, oI) :: (C, oC) :: (D, lst ys) :: rest) → Off3 I C D rest → ((@Ne Nat I C) ∧ (@Ne Nat I D) ∧ (@Ne Nat C D)) →
      wpAny (model prog w) A (forIn ifs true fun c r => if r = true then do let ok ← isTrue c (compEnvC scope cl C env) (eval c (compEnvC scope cl C env)); pure (ForInStep.yield ok) else pure (ForInStep.yield r)) (fun ok s₃ =>
        if ok = true then wpAny (model prog w) A (eval elt (compEnvC scope cl C env)) (CompEnd h₀ L m { s with heap := h, toks := tk } I oI C oC D (lst ys) (fun _ => True) (fun y rest' => Inv (i + 1) (ys ++ [y]) m₃ rest')) E' s₃
        else CompEnd h₀ L m { s with heap := h, toks := tk } I oI C oC D (lst ys) (fun _ => True) (fun _ rest' => Inv (i + 1) ys m₃ rest') Value.none s₃) E' { s with heap := h, toks := tk })
    (hI : ItP 0 oI) (off : ∀ p ∈ rest₀, p.1 ≠ I) (h0 : ∀ m₂, Inv 0 [] m₂ rest₀) (fin : ∀ ys m₂ rest, Inv n ys m₂ rest → Fin ys rest) :
    CompRun prog w A h₀ L m env (.ListComp elt [⟨target, iter, ifs, 0⟩] scope pos) scope cl (.ref I) s ((I, oI) :: rest₀) Fin := by
  intro C D oC m₂ h tk hC F N lt ne
  have N' := news_in N
  have hIC : (@Ne Nat I C) := Nat.ne_of_lt (lt _ (.head _)).1
  have hID : (@Ne Nat I D) := Nat.ne_of_lt (lt _ (.head _)).2
  refine start_list (g := ⟨target, iter, ifs, 0⟩) rfl rfl ?_ (Sr.self A 0 oI _ _ _ hI N')
  refine loop1 (s := { s with heap := h, toks := tk }) Inv Sr asg hh (fun it acc env => compTurn_list elt target iter ifs scope pos it acc env) hsz hS hSm hTm (turn C D) ?_ hI hC F N' (off3_of_lt off lt) ⟨hIC, hID, ne⟩ (h0 m₂)
  intro ys m₃ rest oC' h' tk' hInv hC' F' N'' off'
  exact ⟨oC', m₃, ys, rest, h', tk', rfl, hC', F', N'', fun p hp => ⟨(off'.mem p hp).2.1, (off'.mem p hp).2.2⟩, fin _ _ _ hInv⟩

/-- what an outer turn leaves -/
def OutEnd (h₀ : Heap) (L : Addr) (m : Str → Option Value) (s : Shared) (I : Addr) (oI : Obj) (C D : Addr) (Nx : List Value → (Str → Option Value) → List (Addr × Obj) → Prop) (r : Result) (s' : Shared) : Prop :=
  match r with
  | .ok _ => ∃ h tk oC m₂ ys rest, s' = { s with heap := h, toks := tk } ∧ NsObj oC m₂ ∧ Fr h₀ L h m ∧ News h₀ L h ((I, oI) :: (C, oC) :: (D, lst ys) :: rest) ∧ Off3 I C D rest ∧ Nx ys m₂ rest
  | .error _ => False

theorem run2 {elt target iter t1 i1 : Expr} {f1 : List Expr} {scope : Scope} {pos : Pos} {cl : List (Str × Addr)} {I : Addr} {n : Nat} {P : Nat → Value → Prop} {ItP : Nat → Obj → Prop} {S T : List (Addr × Obj) → Prop} {G : Nat → Value → (Str → Option Value) → (Str → Option Value) → Prop}
    (Inv : Nat → List Value → (Str → Option Value) → List (Addr × Obj) → Prop) {rest₀ : List (Addr × Obj)} {oI : Obj} {Fin : List Value → List (Addr × Obj) → Prop}
    (Sr : Src prog w h₀ L m I n P ItP S) (asg : AsgOk prog w h₀ L m env target scope cl I P ItP T G) (hh : A.handled = none)
    (hS : ∀ i ys m₂ rest, Inv i ys m₂ rest → S rest ∧ T rest) (hSm : ∀ p r, S r → S (p :: r)) (hTm : ∀ p r, T r → T (p :: r))
    (hs : ∀ C x, foldedSetIterable i1 (compEnvC scope cl C env) x = pure x)
    (turn : ∀ C D i v ys m₂ m₃ rest oI oC h tk, i < n → P i v → ItP (i + 1) oI → Inv i ys m₂ rest → G i v m₂ m₃ → NsObj oC m₃ → Fr h₀ L h m → News h₀ L h ((I, oI) :: (C, oC) :: (D, lst ys) :: rest) → Off3 I C D rest → ((@Ne Nat I C) ∧ (@Ne Nat I D) ∧ (@Ne Nat C D)) →
      wpAny (model prog w) A (eval i1 (compEnvC scope cl C env)) (fun x s₃ => wpAny (model prog w) A (pyIter x) (fun it1 s₄ =>
        codeAny (model prog w) (A.mark none) (.compStart (.ListComp elt [⟨target, iter, [], 0⟩, ⟨t1, i1, f1, 0⟩] scope pos) 1 it1 (.ref D) (compEnvC scope cl C env)) (OutEnd h₀ L m s I oI C D (Inv (i + 1))) s₄) NoE s₃) NoE { s with heap := h, toks := tk })
    (hI : ItP 0 oI) (off : ∀ p ∈ rest₀, p.1 ≠ I) (h0 : ∀ m₂, Inv 0 [] m₂ rest₀) (fin : ∀ ys m₂ rest, Inv n ys m₂ rest → Fin ys rest) :
    CompRun prog w A h₀ L m env (.ListComp elt [⟨target, iter, [], 0⟩, ⟨t1, i1, f1, 0⟩] scope pos) scope cl (.ref I) s ((I, oI) :: rest₀) Fin := by
  intro C D oC m₂ h tk hC F N lt ne
  have N' := news_in N
  have hne : (@Ne Nat I C) ∧ (@Ne Nat I D) ∧ (@Ne Nat C D) := ⟨Nat.ne_of_lt (lt _ (.head _)).1, Nat.ne_of_lt (lt _ (.head _)).2, ne⟩
  have offI : ∀ {oC : Obj} {ys : List Value} {rest : List (Addr × Obj)}, Off3 I C D rest → ∀ p ∈ (C, oC) :: (D, lst ys) :: rest, p.1 ≠ I := fun off p hp => by
    rcases List.mem_cons.mp hp with rfl | hp
    · exact Ne.symm hne.1
    · rcases List.mem_cons.mp hp with rfl | hp
      · exact Ne.symm hne.2.1
      · exact (off.mem p hp).1
  have offC : ∀ {ys : List Value} {rest : List (Addr × Obj)}, Off3 I C D rest → ∀ p ∈ (D, lst ys) :: rest, p.1 ≠ C := fun off p hp => by
    rcases List.mem_cons.mp hp with rfl | hp
    · exact Ne.symm hne.2.2
    · exact (off.mem p hp).2.1
  refine start_list (g := ⟨target, iter, [], 0⟩) rfl rfl ?_ (Sr.self A 0 oI _ _ _ hI N')
  refine loop_two (I := fun k s' => ∃ h' tk i ys m₂ rest oI oC, s' = { s with heap := h', toks := tk } ∧ i ≤ n ∧ k = n + 1 - i ∧ ItP i oI ∧ NsObj oC m₂ ∧ Fr h₀ L h' m ∧ News h₀ L h' ((I, oI) :: (C, oC) :: (D, lst ys) :: rest) ∧ Off3 I C D rest ∧ Inv i ys m₂ rest)
    (hs C) ?_ (n + 1) ⟨h, tk, 0, [], m₂, rest₀, oI, oC, rfl, Nat.zero_le _, rfl, hI, hC, F, N', off3_of_lt off lt, h0 m₂⟩
  rintro k s' ⟨h', tk, i, ys, m₂, rest, oI, oC, rfl, hi, rfl, hI, hC, F, N, off, hInv⟩
  by_cases hlt : i < n
  · refine Sr.item A i oI _ _ _ _ hh hlt hI F N (offI off) (hSm _ _ (hSm _ _ (hS _ _ _ _ hInv).1)) fun v h₁ tk₁ oI₁ hP hI₁ F₁ N₁ => ?_
    refine asg A i v oI₁ C oC m₂ _ _ _ hh hP hI₁ (hTm _ _ (hS _ _ _ _ hInv).2) F₁ N₁ (offC off) hne.1 hC fun h₂ tk₂ oC₂ m₃ hC₂ hG F₂ N₂ => ?_
    refine wpAny_mono (turn C D i v ys m₂ m₃ rest oI₁ oC₂ h₂ tk₂ hlt hP hI₁ hInv hG hC₂ F₂ N₂ off hne) (fun x s₃ h₃ => wpAny_mono h₃ (fun it1 s₄ h₄ => codeAny_mono h₄ fun r s₅ h₅ => ?_) fun _ _ e => e) fun _ _ e => e
    cases r with
    | error x => exact h₅
    | ok f =>
      obtain ⟨h₄, tk₄, oC₄, m₄, ys₄, rest₄, rfl, hC₄, F₄, N₄, off₄, R₄⟩ := h₅
      exact ⟨n + 1 - (i + 1), by omega, h₄, tk₄, i + 1, ys₄, m₄, rest₄, oI₁, oC₄, rfl, hlt, rfl, hI₁, hC₄, F₄, N₄, off₄, R₄⟩
  · obtain rfl : i = n := Nat.le_antisymm hi (Nat.not_lt.mp hlt)
    refine Sr.done A oI _ _ _ _ hh hI F N (offI off) (hSm _ _ (hSm _ _ (hS _ _ _ _ hInv).1)) fun h₁ tk₁ F₁ N₁ => ?_
    exact ⟨oC, m₂, ys, rest, h₁, tk₁, rfl, hC, F₁, N₁, fun p hp => ⟨(off.mem p hp).2.1, (off.mem p hp).2.2⟩, fin _ _ _ hInv⟩
end

def pin (n : Int) (p : Int × Int) : Bool := decide (p.1 * p.1 + p.2 * p.2 ≤ n)
def row (x : Int) (k : Nat) : List (Int × Int) := (List.range k).map fun (j : Nat) => (x, 0 - 8 + (j : Int) * 1)
def ptsI (n x : Int) (k : Nat) : List (Int × Int) := (row x k).filter (pin n)
def ptsO (n : Int) (k : Nat) : List (Int × Int) := ((List.range k).map fun (i : Nat) => ptsI n (0 - 8 + (i : Int) * 1) 17).flatten
def pts (n : Int) : List (Int × Int) := ptsO n 17
theorem ptsI_succ (n x : Int) (k : Nat) : ptsI n x (k + 1) = ptsI n x k ++ if pin n (x, 0 - 8 + (k : Int) * 1) then [(x, 0 - 8 + (k : Int) * 1)] else [] := by
  unfold ptsI row
  rw [List.range_succ, List.map_append, List.filter_append]
  congr 1
  cases h : pin n (x, 0 - 8 + (k : Int) * 1) <;> simp only [List.map, List.filter, h, Bool.false_eq_true, if_false, if_true]
theorem ptsO_succ (n : Int) (k : Nat) : ptsO n (k + 1) = ptsO n k ++ ptsI n (0 - 8 + (k : Int) * 1) 17 := by
  unfold ptsO
  rw [List.range_succ, List.map_append, List.flatten_append]
  simp
theorem ptsI_len (n x : Int) (k : Nat) : (ptsI n x k).length ≤ k := by
  unfold ptsI row
  refine Nat.le_trans (List.length_filter_le ..) ?_
  simp
theorem ptsO_len (n : Int) (k : Nat) : (ptsO n k).length ≤ 17 * k := by
  induction k with
  | zero => simp [ptsO]
  | succ k ih =>
    rw [ptsO_succ, List.length_append]
    have := ptsI_len n (0 - 8 + (k : Int) * 1) 17
    omega

abbrev pobj (x : Int) (tx : Tok) (y : Int) (ty : Tok) : Obj := { cls := .type "tuple", data := .seq #[.int x tx, .int y ty] 0 }
/-- the listed values are tuples of the given numbers, in the ledger -/
def PtsAre (ys : List Value) (rest : List (Addr × Obj)) (ps : List (Int × Int)) : Prop :=
  ys.length = ps.length ∧ ∀ (i : Nat) x y, ps[i]? = some (x, y) → ∃ t tx ty, ys[i]? = some (.ref t) ∧ (t, pobj x tx y ty) ∈ rest
theorem PtsAre.nil {rest : List (Addr × Obj)} : PtsAre [] rest [] := ⟨rfl, fun i x y h => by simp at h⟩
theorem PtsAre.mono {ys : List Value} {r r' : List (Addr × Obj)} {ps : List (Int × Int)} (h : PtsAre ys r ps) (k : ∀ p ∈ r, p ∈ r') : PtsAre ys r' ps :=
  ⟨h.1, fun i x y e => let ⟨t, tx, ty, a, b⟩ := h.2 i x y e; ⟨t, tx, ty, a, k _ b⟩⟩
theorem PtsAre.snoc {ys : List Value} {r : List (Addr × Obj)} {ps : List (Int × Int)} {x y : Int} {tx ty : Tok} {t : Addr} (h : PtsAre ys r ps) (hm : (t, pobj x tx y ty) ∈ r) : PtsAre (ys ++ [.ref t]) r (ps ++ [(x, y)]) := by
  refine ⟨by simp [h.1], fun i a b e => ?_⟩
  by_cases hi : i < ps.length
  · rw [List.getElem?_append_left hi] at e
    obtain ⟨t', tx', ty', h1, h2⟩ := h.2 i a b e
    exact ⟨t', tx', ty', by rw [List.getElem?_append_left (by rw [h.1]; exact hi)]; exact h1, h2⟩
  · rw [List.getElem?_append_right (by omega)] at e
    obtain ⟨rfl, rfl⟩ : x = a ∧ y = b := by
      cases hj : i - ps.length with
      | zero => rw [hj] at e; simpa using e
      | succ k => rw [hj] at e; simp at e
    have : i = ps.length := by
      cases hj : i - ps.length with
      | zero => omega
      | succ k => rw [hj] at e; simp at e
    subst this
    exact ⟨t, tx, ty, by rw [← h.1]; simp, hm⟩

/-- new tuples ahead of the old ledger -/
def Tups (news rest : List (Addr × Obj)) : Prop := ∃ tups, rest = tups ++ news ∧ ∀ q ∈ tups, ∀ p ∈ news, p.1 < q.1
theorem Tups.refl {news : List (Addr × Obj)} : Tups news news := ⟨[], rfl, fun _ h => nomatch h⟩
theorem Tups.cons {news rest : List (Addr × Obj)} {q : Addr × Obj} (h : Tups news rest) (hq : ∀ p ∈ news, p.1 < q.1) : Tups news (q :: rest) := by
  obtain ⟨tups, rfl, h⟩ := h
  exact ⟨q :: tups, rfl, fun z hz => by
    rcases List.mem_cons.mp hz with rfl | hz
    · exact hq
    · exact h z hz⟩
theorem Tups.step {news rest : List (Addr × Obj)} {q : Addr × Obj} (h : Tups (q :: news) rest) (hq : ∀ p ∈ news, p.1 < q.1) : Tups news rest := by
  obtain ⟨tups, rfl, h⟩ := h
  refine ⟨tups ++ [q], by simp, fun z hz p hp => ?_⟩
  rcases List.mem_append.mp hz with hz | hz
  · exact h z hz p (.tail _ hp)
  · rw [List.mem_singleton.mp hz]; exact hq p hp
theorem Tups.sub {news rest : List (Addr × Obj)} (h : Tups news rest) : ∀ p ∈ news, p ∈ rest := by
  obtain ⟨tups, rfl, h⟩ := h
  exact fun p hp => List.mem_append_right _ hp

section
open PySem.Spec PyProof.Rows.LCg
variable {prog : Program} {w : World} {A : Around} {E : Value → Shared → Prop} {s : Shared} {h₀ : Heap} {L : Addr} {m : Str → Option Value} {news : List (Addr × Obj)}
theorem pi_range {r : Addr} {a b c : Int} {t u v : Tok} {n : Nat} {Q : Value → Shared → Prop} (hr : IsRange s.heap r a b c t u v) (hsm : Builtin.Range.small a b c = true) (hn : Builtin.Range.rangeSize a b c = (n : Int)) (F : Fr h₀ L s.heap m) (N : News h₀ L s.heap news)
    (h : ∀ I h', (∀ p ∈ news, p.1 < I) → Fr h₀ L h' m → News h₀ L h' ((I, krsIt (a + ((0 : Nat) : Int) * c) ((n : Int) - ((0 : Nat) : Int)) c) :: news) → Q (.ref I) { s with heap := h' }) : wpAny (model prog w) A (pyIter (.ref r)) Q E s := by
  refine wpAny_pyIter_range hr hsm (h _ _ (fun p hp => Heap.lt_size (N p hp).1) (F.push _) fun p hp => ?_)
  rcases List.mem_cons.mp hp with rfl | hp
  · refine ⟨?_, Ne.symm (Nat.ne_of_lt F.ns.lt), next_is_new F⟩
    have e : (a + ((0 : Nat) : Int) * c) = a := by simp
    have e' : ((n : Int) - ((0 : Nat) : Int)) = (n : Int) := by simp
    rw [e, e', ← hn]
    exact Heap.get?_push_size _ rfl
  · exact ⟨Heap.get?_push_of_some _ (N p hp).1, (N p hp).2⟩
theorem pi_list {ax : Addr} {its : Array Value} {k : Nat} {Q : Value → Shared → Prop} (hm : (ax, ({ cls := .type "list", data := .seq its k } : Obj)) ∈ news) (F : Fr h₀ L s.heap m) (N : News h₀ L s.heap news)
    (h : ∀ I h' oI, (∀ p ∈ news, p.1 < I) → (oI.cls = .type "list_iterator" ∧ oI.data = .fields #[.ref ax, .int ((0 : Nat) : Int) 0]) → Fr h₀ L h' m → News h₀ L h' ((I, oI) :: news) → Q (.ref I) { s with heap := h' }) : wpAny (model prog w) A (pyIter (.ref ax)) Q E s := by
  refine wpAny_pyIter_list ⟨_, (N _ hm).1, rfl, _, rfl⟩ (h _ _ { cls := .type "list_iterator", data := .fields #[.ref ax, .int 0 0] } (fun p hp => Heap.lt_size (N p hp).1) ⟨rfl, rfl⟩ (F.push _) fun p hp => ?_)
  rcases List.mem_cons.mp hp with rfl | hp
  · exact ⟨Heap.get?_push_size _ rfl, Ne.symm (Nat.ne_of_lt F.ns.lt), next_is_new F⟩
  · exact ⟨Heap.get?_push_of_some _ (N p hp).1, (N p hp).2⟩
end

theorem lps {w : World} {p : Program} {loose : List Str} {mean : ExcName → Option Value} {mg mb : Str → Option Value}
   {n : Int} {tn : Tok} {news : List (Addr × Obj)}
   {dp un : Nat} {gd : Option (List Code)} {cn : Str} {cs : Scope} {a : Addr} {ccd : Value} {cl : List (Str × Addr)} {outer : List Env} {A₀ : Around} {base h₀ : Heap} {L : Addr} {m : Str → Option Value} {s : Shared} {Q E : Value → Shared → Prop}
   (hB : Below A₀ base outer h₀) (hF : Fr h₀ L s.heap m) (hX : (hd.heap_39 w.params).In h₀) (hT : Top p loose mean mg mb h₀) (hk : cs.kind = .function)
   (hN : News h₀ L s.heap news) (hn0 : 0 ≤ n) (hn : n ≤ 60) (hd : dp + 6 < recursionLimit) (hu : un + 20 < cLine)
   (hret : ∀ (P : Addr) (vs : List Value) (nn : Nat) (rest : List (Addr × Obj)) (h' : Heap) (tk' : Nat), PtsAre vs rest (pts n) → Tups news rest → LCg.Off1 P rest → Fr h₀ L h' m → News h₀ L h' ((P, listOf vs.toArray nn) :: rest) → Q (.ref P) { s with heap := h', toks := tk' }) :
   wpAny (model PySem.Challenge.rw_hd0005_01.row.prog w) (ktrTop dp un gd cn cs L a ccd cl outer) (call (.ref 95) [.int n tn]) Q E s := by
  revert hX
  k_fill
  intro hX
  refine wpAny_call ?_
  k_dflt (walk_at "mEnterC")
  walk_at "mStepsP"
  rename Fr _ _ _ _ => F₁
  rename News _ _ _ _ => N₁
  k_dflt (refine my_ListComp F₁ rfl (by with_unfolding_all rfl) (by decide) rfl (by decide) ?_)
  dsimp only
  walk_at "mStepsP"
  rename Fr _ _ _ _ => F₁
  rename News _ _ _ _ => N₁
  rename IsRange _ _ _ _ _ _ _ _ => R₁
  rename_i L1 _ _ _ _ _ _ _ l1 cd1 _ _ _ _ _ _ _ _
  refine pi_range (n := 17) R₁ rfl rfl F₁ N₁ fun I h₁ lI F₂ N₂ => ?_
  refine ⟨_, F₂, N₂, ?_⟩
  refine run2 (fun i ys _ rest => Tups ((L1 + 1, cd1) :: news) rest ∧ PtsAre ys rest (ptsO n i)) (Src.range _ 1 17) (T := fun _ => True) (AsgOk.name rfl rfl) rfl (fun _ _ _ _ _ => ⟨trivial, trivial⟩) (fun _ _ _ => trivial) (fun _ _ _ => trivial) (fun _ _ => rfl) ?_ rfl (fun p hp => Nat.ne_of_lt (lI p hp)) (fun _ => ⟨Tups.refl, PtsAre.nil⟩) ?_
  · intro C D i v ys m₂ m₃ rest oI oC h₂ tk₂ hi hP hIt hInv hG hC F₃ N₃ off ne
    obtain ⟨tv, rfl⟩ := hP
    obtain ⟨hT1, hPs⟩ := hInv
    obtain rfl := hG
    walk_at "mStepsP"
    rename Fr _ _ _ _ => F₄
    rename News _ _ _ _ => N₄
    rename IsRange _ _ _ _ _ _ _ _ => R₄
    refine pi_range (n := 17) R₄ rfl rfl F₄ N₄ fun J h₄ lJ F₅ N₅ => ?_
    clear F₄
    refine start_list (g := ⟨_, _, _, 0⟩) rfl rfl ?_ ?_
    · refine loop1 (fun j ys m₂ rest' => ∃ r, rest' = (I, oI) :: r ∧ Tups ((L1 + 1, cd1) :: news) r ∧ PtsAre ys r (ptsO n i ++ ptsI n (0 - 8 + (i : Int) * 1) j) ∧ m₂ (Str.ofString "x") = some (.int (0 - 8 + (i : Int) * 1) tv) ∧ LCg.Off3 I C D r ∧ j ≤ 17) (ys₀ := ys) (rest₀ := (I, oI) :: rest) (oI := krsIt (0 - 8 + ((0 : Nat) : Int) * 1) (((17 : Nat) : Int) - ((0 : Nat) : Int)) 1) (Src.range (0 - 8) 1 17) (T := fun _ => True) (AsgOk.name rfl rfl) rfl
        (fun it acc env => turn1 _ _ _ _ _ _ _ it acc env) ?_ (fun _ _ _ _ _ => ⟨trivial, trivial⟩) (fun _ _ _ => trivial) (fun _ _ _ => trivial) ?_ ?_ rfl hC F₅ ?_ ?_ ?_ ?_
      · rintro j ys m₂ _ ⟨r, rfl, -, hP, -, -, hj⟩
        have := ptsO_len n i
        have := ptsI_len n (0 - 8 + (i : Int) * 1) j
        rw [hP.1, List.length_append]
        rw [PySem.sizeLine_eq]
        omega
      · intro j v ys m₂ m₃ rest' oI' oC h tk E' hj hP _ hInv hG hC F₆ N₆ off' ne'
        obtain ⟨tw, rfl⟩ := hP
        obtain ⟨r, rfl, hT2, hP2, hx2, off2, hj17⟩ := hInv
        have hy3 : m₃ (Str.ofString "y") = some (Value.int (0 - 8 + (j : Int) * 1) tw) := by rw [hG]; rfl
        have hx3 : m₃ (Str.ofString "x") = some (Value.int (0 - 8 + (i : Int) * 1) tv) := by rw [hG]; exact hx2
        have hcd := hT2.sub _ (.head _)
        clear hG
        refine wpAny_tests_one ?_
        walk_at "mStepsP"
        · rename News _ _ _ _ => N₇
          rename Fr _ _ _ _ => F₇
          rename _ ∧ _ ∧ _ ∧ _ ∧ AllLt _ _ => lt7
          rename _ ≤ n => hle
          rename_i D7 h7
          refine LCg.CompEnd.intro F₇ N₇ ((I, oI) :: (D7, pobj (0 - 8 + (i : Int) * 1) tv (0 - 8 + (j : Int) * 1) tw) :: r) (fun p hp => ?_) (LCg.Off3.of fun p hp => ?_) trivial ⟨_, rfl, ?_, ?_, hx3, LCg.Off3.of fun p hp => ?_, hj⟩
          · rcases List.mem_cons.mp hp with rfl | hp
            · exact .tail _ (.head _)
            · rcases List.mem_cons.mp hp with rfl | hp
              · exact .tail _ (.tail _ (.head _))
              · rcases List.mem_cons.mp hp with rfl | hp
                · exact .tail _ (.tail _ (.tail _ (.head _)))
                · rcases List.mem_cons.mp hp with rfl | hp
                  · exact .tail _ (.tail _ (.tail _ (.tail _ (.head _))))
                  · rcases List.mem_cons.mp hp with rfl | hp
                    · exact .head _
                    · exact .tail _ (.tail _ (.tail _ (.tail _ (.tail _ hp))))
          · rcases List.mem_cons.mp hp with rfl | hp
            · exact off'.mem _ (.head _)
            · rcases List.mem_cons.mp hp with rfl | hp
              · exact ⟨Nat.ne_of_gt lt7.1, Nat.ne_of_gt lt7.2.1, Nat.ne_of_gt lt7.2.2.1⟩
              · exact off'.mem _ (.tail _ hp)
          · exact hT2.cons fun p hp => allLt_mem lt7.2.2.2.2 _ (hT2.sub p hp)
          · rw [ptsI_succ, show pin n (0 - 8 + (i : Int) * 1, 0 - 8 + (j : Int) * 1) = true from decide_eq_true hle, if_pos rfl, ← List.append_assoc]
            exact (hP2.mono fun p hp => .tail _ hp).snoc (.head _)
          · rcases List.mem_cons.mp hp with rfl | hp
            · exact ⟨Nat.ne_of_gt lt7.2.2.2.1, Nat.ne_of_gt lt7.2.1, Nat.ne_of_gt lt7.2.2.1⟩
            · exact off2.mem p hp
        · rename News _ _ _ _ => N₇
          rename Fr _ _ _ _ => F₇
          rename ¬ _ ≤ n => hle
          refine LCg.CompEnd.intro F₇ N₇ ((I, oI) :: r) (fun p hp => ?_) off' trivial ⟨r, rfl, hT2, ?_, hx3, off2, hj⟩
          · exact hp
          · rw [ptsI_succ, show pin n (0 - 8 + (i : Int) * 1, 0 - 8 + (j : Int) * 1) = false from decide_eq_false hle, if_neg Bool.false_ne_true, List.append_nil]
            exact hP2
      · rintro ys m₃ _ oC' h tk ⟨r, rfl, hT2, hP2, -, off2, -⟩ hC' F₆ N₆ off'
        exact ⟨h, tk, oC', m₃, ys, r, rfl, hC', F₆, fun p hp => N₆ p (by
          rcases List.mem_cons.mp hp with rfl | hp
          · exact .tail _ (.tail _ (.head _))
          · rcases List.mem_cons.mp hp with rfl | hp
            · exact .head _
            · rcases List.mem_cons.mp hp with rfl | hp
              · exact .tail _ (.head _)
              · exact .tail _ (.tail _ (.tail _ hp))), off2, hT2, by rw [ptsO_succ]; exact hP2⟩
      · exact fun p hp => N₅ p (by
          rcases List.mem_cons.mp hp with rfl | hp
          · exact .head _
          · rcases List.mem_cons.mp hp with rfl | hp
            · exact .tail _ (.tail _ (.head _))
            · rcases List.mem_cons.mp hp with rfl | hp
              · exact .tail _ (.tail _ (.tail _ (.head _)))
              · rcases List.mem_cons.mp hp with rfl | hp
                · exact .tail _ (.head _)
                · exact .tail _ (.tail _ (.tail _ (.tail _ hp))))
      · exact LCg.Off3.of fun p hp => by
          rcases List.mem_cons.mp hp with rfl | hp
          · exact ⟨Nat.ne_of_lt (lJ _ (.head _)), ne.1, ne.2.1⟩
          · exact ⟨Nat.ne_of_lt (lJ _ (.tail _ (.tail _ (.tail _ hp)))), (off.mem p hp).2.1, (off.mem p hp).2.2⟩
      · exact ⟨Nat.ne_of_gt (lJ _ (.tail _ (.head _))), Nat.ne_of_gt (lJ _ (.tail _ (.tail _ (.head _)))), ne.2.2⟩
      · exact ⟨_, rfl, hT1, by simpa [ptsI, row] using hPs, by simp, off, Nat.zero_le _⟩
    · exact wpAny_pyIter_rangeiter (N₅ _ (.head _)).1 ⟨rfl, rfl⟩
  · rintro ys m₂ rest ⟨hT1, hP1⟩ P hh tkk F₆ N₆ o1
    dsimp only
    walk_at "mStepsP"
    rename News h₀ L _ _ => kN9
    rename Fr h₀ L _ _ => kF9
    exact hret P ys _ rest _ _ hP1 (hT1.step fun p hp => Nat.lt_succ_of_lt (l1 p hp)) o1 kF9 kN9

def sqs : Nat → List Int
  | 0 => []
  | i + 1 => ((9 + (i : Int) * (0 - 1)) * (9 + (i : Int) * (0 - 1))) :: sqs i
theorem sqs_len (i : Nat) : (sqs i).length = i := by
  induction i with
  | zero => rfl
  | succ i ih => simp [sqs, ih]
theorem sqs_le : ∀ i, i < 10 → ∀ v ∈ sqs i, ((9 + (i : Int) * (0 - 1)) * (9 + (i : Int) * (0 - 1))) ≤ v := by decide +kernel
theorem set_self {m : Str → Option Value} {x : Str} : m = fun z => if z = x then m x else m z := by
  funext z
  split
  · rename_i h; rw [h]
  · rfl
theorem set_again {m : Str → Option Value} {x : Str} {u v : Option Value} : (fun z => if z = x then v else if z = x then u else m z) = fun z => if z = x then v else m z := by
  funext z
  split <;> rfl

theorem mem_rot {l1 l2 : List (Addr × Obj)} {p : Addr × Obj} (h : p ∈ l1 ++ l2) : p ∈ l2 ++ l1 := by
  rcases List.mem_append.mp h with h | h
  · exact List.mem_append_right _ h
  · exact List.mem_append_left _ h
def wd (k : Int) : Int := rk (sqs 10) k - 1
theorem wd_all : ∀ k : Fin 61, 0 ≤ wd k.val ∧ wd k.val ≤ 7 ∧ wd k.val * wd k.val ≤ k.val ∧ (k.val : Int) < (wd k.val + 1) * (wd k.val + 1) := by decide +kernel
theorem wd_ok {k : Int} (h0 : 0 ≤ k) (h1 : k ≤ 60) : 0 ≤ wd k ∧ wd k ≤ 7 ∧ wd k * wd k ≤ k ∧ k < (wd k + 1) * (wd k + 1) := by
  obtain ⟨i, rfl⟩ := Int.eq_ofNat_of_zero_le h0
  exact wd_all ⟨i, by omega⟩
theorem sqs_sorted : ∀ i j : Fin 10, i ≤ j → (sqs 10)[i.val]?.getD 0 ≤ (sqs 10)[j.val]?.getD 0 := by decide +kernel
theorem sqs_srt (i j : Nat) (u v : Int) (h : i ≤ j) (hi : (sqs 10)[i]? = some u) (hj : (sqs 10)[j]? = some v) : u ≤ v := by
  have h1 := (List.getElem?_eq_some_iff.mp hj).1
  rw [sqs_len] at h1
  have := sqs_sorted ⟨i, by omega⟩ ⟨j, h1⟩ h
  dsimp only at this
  rw [hi, hj] at this
  exact this
theorem rg_sym : ∀ k : Fin 8, Builtin.Range.small (0 - (k.val : Int)) ((k.val : Int) + 1) 1 = true ∧ Builtin.Range.rangeSize (0 - (k.val : Int)) ((k.val : Int) + 1) 1 = ((2 * k.val + 1 : Nat) : Int) := by decide +kernel
theorem sq_sym : ∀ k : Fin 8, ∀ i : Fin 15, i.val < 2 * k.val + 1 → (0 - (k.val : Int) + (i.val : Int) * 1) * (0 - (k.val : Int) + (i.val : Int) * 1) ≤ (k.val : Int) * (k.val : Int) ∧ 0 ≤ (0 - (k.val : Int) + (i.val : Int) * 1) * (0 - (k.val : Int) + (i.val : Int) * 1) := by decide +kernel
def rowsL (n wn : Int) (k : Nat) : List Int := (List.range k).map fun (i : Nat) => 2 * wd (n - (0 - wn + (i : Int) * 1) * (0 - wn + (i : Int) * 1)) + 1
theorem rowsL_succ (n wn : Int) (k : Nat) : rowsL n wn (k + 1) = rowsL n wn k ++ [2 * wd (n - (0 - wn + (k : Int) * 1) * (0 - wn + (k : Int) * 1)) + 1] := by
  unfold rowsL
  rw [List.range_succ, List.map_append]
  rfl
theorem rowsL_len (n wn : Int) (k : Nat) : (rowsL n wn k).length = k := by simp [rowsL]
theorem rows_all : ∀ k : Fin 61, (rowsL k.val (wd k.val) (2 * (wd k.val).toNat + 1)).sum = ((pts k.val).length : Int) := by decide +kernel
theorem rows_ok {k : Int} (h0 : 0 ≤ k) (h1 : k ≤ 60) : (rowsL k (wd k) (2 * (wd k).toNat + 1)).sum = ((pts k).length : Int) := by
  obtain ⟨i, rfl⟩ := Int.eq_ofNat_of_zero_le h0
  exact rows_all ⟨i, by omega⟩
/-- no function table's record -/
def NoTab (o : Obj) : Prop := ∀ vs q t, o.data = .fields vs → vs[1]? = some (.str q t) → False
theorem NoTab.krs (x l c : Int) : NoTab (krsIt x l c) := fun vs q t h e => by cases h; cases e
theorem NoTab.lst (ys : List Value) : NoTab (LCg.lst ys) := fun vs q t h _ => by cases h
theorem NoTab.ns {o : Obj} {m : Str → Option Value} (h : LCg.NsObj o m) : NoTab o := fun vs q t e _ => by obtain ⟨es, ep, hd, _⟩ := h; rw [hd] at e; cases e
theorem Tab1.dropL {ps : Array Value} {ext mid tail : List (Addr × Obj)} (h : Tab1 ps (ext ++ (mid ++ tail))) (hm : ∀ p ∈ mid, NoTab p.2) : Tab1 ps (ext ++ tail) := by
  rcases h with h | ⟨c, oc, vs, t, e, hc, hd, hv⟩
  · exact .inl h
  · refine .inr ⟨c, oc, vs, t, e, ?_, hd, hv⟩
    rcases List.mem_append.mp hc with hc | hc
    · exact List.mem_append_left _ hc
    · rcases List.mem_append.mp hc with hc | hc
      · exact (hm _ hc vs _ t hd hv).elim
      · exact List.mem_append_right _ hc
theorem Tab2.dropL {ps : Array Value} {ext mid tail : List (Addr × Obj)} (h : Tab2 ps (ext ++ (mid ++ tail))) (hm : ∀ p ∈ mid, NoTab p.2) : Tab2 ps (ext ++ tail) := by
  rcases h with h | ⟨c, oc, vs, t, e, hc, hd, hv⟩
  · exact .inl h
  · refine .inr ⟨c, oc, vs, t, e, ?_, hd, hv⟩
    rcases List.mem_append.mp hc with hc | hc
    · exact List.mem_append_left _ hc
    · rcases List.mem_append.mp hc with hc | hc
      · exact (hm _ hc vs _ t hd hv).elim
      · exact List.mem_append_right _ hc
def TabSt (BASE TL : List (Addr × Obj)) (p1 p2 : Array Value) : Prop := (∀ p ∈ BASE, p ∈ TL) ∧ Tab1 p1 TL ∧ Tab2 p2 TL ∧ (∀ p ∈ TL, p.1 ≠ 57) ∧ (∀ p ∈ TL, p.1 ≠ 64)
theorem TabSt.ext {BASE TL ext mid : List (Addr × Obj)} {p1 p2 q1 q2 : Array Value} (h : TabSt BASE TL p1 p2) (r1 : Tab1 q1 (ext ++ (mid ++ TL))) (r2 : Tab2 q2 (ext ++ (mid ++ TL))) (hm : ∀ p ∈ mid, NoTab p.2) (r3 : ∀ q ∈ ext, 57 < q.1 ∧ 64 < q.1 ∧ ∀ p ∈ mid ++ TL, p.1 < q.1) : TabSt BASE (ext ++ TL) q1 q2 :=
  ⟨fun p hp => List.mem_append_right _ (h.1 p hp), r1.dropL hm, r2.dropL hm, fun p hp => by
    rcases List.mem_append.mp hp with hp | hp
    · exact Nat.ne_of_gt (r3 p hp).1
    · exact h.2.2.2.1 p hp, fun p hp => by
    rcases List.mem_append.mp hp with hp | hp
    · exact Nat.ne_of_gt (r3 p hp).2.1
    · exact h.2.2.2.2 p hp⟩

section
open PyProof.V PySem.Spec
variable {prog : Program} {w : World} {A : Around} {E : Value → Shared → Prop} {s : Shared} {env : Env} {h₀ : Heap} {x : Str} {body : List Stmt} {Q : Flow → Shared → Prop}
theorem my_forStepI {r : Addr} {a b c : Int} {t₀ u₀ v₀ : Tok} {m₀ : Str → Option Value} {news : List (Addr × Obj)} (n : Nat) (Inv : Addr → (Str → Option Value) → Nat → (Str → Option Value) → List (Addr × Obj) → Prop)
    (hh : A.handled = none) (hr : IsRange s.heap r a b c t₀ u₀ v₀) (F : Fr h₀ env.locals s.heap m₀) (N : News h₀ env.locals s.heap news) (hsmall : Builtin.Range.small a b c = true) (hn : Builtin.Range.rangeSize a b c = (n : Int))
    (h0 : ∀ I : Addr, (∀ p ∈ news, p.1 < I) → Inv I m₀ 0 m₀ news)
    (step : ∀ (I : Addr), (∀ p ∈ news, p.1 < I) → ∀ i, i < n → ∀ m news (it : Obj) t h tk, Inv I m₀ i m news → it = krsIt (a + ((i + 1 : Nat) : Int) * c) ((n : Int) - ((i + 1 : Nat) : Int)) c → Fr h₀ env.locals h (fun y => if y = x then some (.int (a + (i : Int) * c) t) else m y) → News h₀ env.locals h ((I, it) :: news) →
      wpAny (model prog w) A (execs body env) (UnrPost h₀ env.locals { s with heap := h, toks := tk } I it (Inv I m₀ (i + 1)) Q) E { s with heap := h, toks := tk })
    (fin : ∀ I m news h tk, Inv I m₀ n m news → Fr h₀ env.locals h m → News h₀ env.locals h news → Q .next { s with heap := h, toks := tk }) :
    wpAny (model prog w) A (pyIter (.ref r)) (fun it s₂ => LoopAtV prog w A h₀ env x body Q E it s₂) E s :=
  krs_iter hh hr hsmall hn F N fun I hI => krs_ind (Inv I m₀) (step I hI) (fin I) n 0 rfl _ _ (h0 I hI)
end
theorem rg_odd : ∀ k : Fin 61, Builtin.Range.small 1 ((k.val : Int) + 1) 2 = true ∧ Builtin.Range.rangeSize 1 ((k.val : Int) + 1) 2 = (((k.val + 1) / 2 : Nat) : Int) := by decide +kernel
def tl (n : Int) : Nat → Int
  | 0 => 1
  | i + 1 => tl n i + 4 * (2 - (1 + (i : Int) * 2).fmod 4) * (n.fdiv (1 + (i : Int) * 2))
theorem told_all : ∀ k : Fin 61, tl k.val ((k.val + 1) / 2) = ((pts k.val).length : Int) := by decide +kernel
theorem two_first {m : Str → Option Value} {a b : Str} {v : Option Value} (h : m a = v) : m = fun z => if z = a then v else if z = b then m b else m z := by
  funext z
  split
  · rename_i e; rw [e, h]
  · split
    · rename_i e; rw [e]
    · rfl
theorem two_again {m : Str → Option Value} {a b : Str} {v v' u u' : Option Value} (hab : b ≠ a) : (fun z => if z = a then v else if z = b then u else if z = a then v' else if z = b then u' else m z) = fun z => if z = a then v else if z = b then u else m z := by
  funext z
  by_cases h1 : z = a <;> by_cases h2 : z = b <;> simp [h1, h2]
def qtr (l : List (Int × Int)) : Nat := (l.filter fun p => decide (p.1 > 0) && decide (p.2 ≥ 0)).length
abbrev Ut (ps : List (Int × Int)) (i : Nat) (a b : Value) : Prop := ∃ x y tx ty, ps[i]? = some (x, y) ∧ a = .int x tx ∧ b = .int y ty
theorem PtsAre.pairIn {ys : List Value} {r : List (Addr × Obj)} {ps : List (Int × Int)} (h : PtsAre ys r ps) : PairIn (Ut ps) ys.toArray r := by
  intro i v hv
  have hv' : ys[i]? = some v := by simpa using hv
  have hlt := (List.getElem?_eq_some_iff.mp hv').1
  rw [h.1] at hlt
  obtain ⟨t, tx, ty, h1, h2⟩ := h.2 i (ps[i]).1 (ps[i]).2 (by rw [List.getElem?_eq_getElem hlt])
  rw [h1] at hv'
  exact ⟨t, _, _, _, 0, (Option.some.inj hv').symm, h2, rfl, rfl, _, _, _, _, by rw [List.getElem?_eq_getElem hlt], rfl, rfl⟩
theorem PairIn.mono {U : Nat → Value → Value → Prop} {its : Array Value} {r r' : List (Addr × Obj)} (h : PairIn U its r) (k : ∀ p ∈ r, p ∈ r') : PairIn U its r' := fun i v e =>
  let ⟨t, ot, v₁, v₂, nt, a, b, c⟩ := h i v e
  ⟨t, ot, v₁, v₂, nt, a, k _ b, c⟩
theorem take_one {α : Type} {l : List α} {i : Nat} {a : α} (h : l[i]? = some a) : l.take (i + 1) = l.take i ++ [a] := by
  rw [List.take_add_one, h]; rfl
theorem qtr_len (l : List (Int × Int)) (i : Nat) : qtr (l.take i) ≤ i := by
  unfold qtr
  refine Nat.le_trans (List.length_filter_le ..) ?_
  rw [List.length_take]; omega
theorem qtr_add (l : List (Int × Int)) (x y : Int) : qtr (l ++ [(x, y)]) = qtr l + if x > 0 ∧ y ≥ 0 then 1 else 0 := by
  unfold qtr
  rw [List.filter_append, List.length_append]
  congr 1
  by_cases h1 : x > 0 <;> by_cases h2 : y ≥ 0 <;> simp [List.filter, h1, h2]
theorem qtr_all : ∀ k : Fin 61, ((pts k.val).length : Int) = 1 + 4 * (qtr (pts k.val) : Int) := by decide +kernel
theorem no_pobj {t lq a b c : Addr} {x y : Int} {tx ty : Tok} {vs : Array Value} {n : Nat} {op oq ob : Obj} {u v z : Option Value} (h1 : op.data = .cell u) (h2 : oq.data = .cell v) (h3 : ob.data = .cell z)
    (h : (t, pobj x tx y ty) ∈ [(lq, listOf vs n), (a, op), (b, oq), (c, ob), (64, tabObj #[]), (57, tabObj #[])]) : False := by
  simp only [List.mem_cons, Prod.mk.injEq, List.not_mem_nil, or_false] at h
  rcases h with ⟨-, h⟩ | ⟨-, h⟩ | ⟨-, h⟩ | ⟨-, h⟩ | ⟨-, h⟩ | ⟨-, h⟩
  · exact absurd (congrArg Obj.cls h) (by simp)
  · rw [← h] at h1; cases h1
  · rw [← h] at h2; cases h2
  · rw [← h] at h3; cases h3
  · exact absurd (congrArg Obj.data h) (by intro q; cases q)
  · exact absurd (congrArg Obj.data h) (by intro q; cases q)
theorem PtsAre.get {ys : List Value} {r : List (Addr × Obj)} {ps : List (Int × Int)} (h : PtsAre ys r ps) {i : Nat} {v : Value} (hv : ys.toArray[i]? = some v) :
    ∃ t x tx y ty, v = .ref t ∧ (t, ({ cls := .type "tuple", data := .seq #[.int x tx, .int y ty] 0 } : Obj)) ∈ r ∧ ps[i]? = some (x, y) := by
  have hv' : ys[i]? = some v := by simpa using hv
  have hlt := (List.getElem?_eq_some_iff.mp hv').1
  rw [h.1] at hlt
  obtain ⟨t, tx, ty, h1, h2⟩ := h.2 i (ps[i]).1 (ps[i]).2 (by rw [List.getElem?_eq_getElem hlt])
  rw [h1] at hv'
  exact ⟨t, _, tx, _, ty, (Option.some.inj hv').symm, h2, by rw [List.getElem?_eq_getElem hlt]⟩
def dts (ps : List (Int × Int)) : List Dat := ps.map fun p => .tuple [.int p.1, .int p.2]
theorem PtsAre.dat : ∀ {ys : List Value} {r : List (Addr × Obj)} {ps : List (Int × Int)}, PtsAre ys r ps → DatAll r ys (dts ps)
  | [], r, [], _ => .nil
  | [], r, p :: ps, h => by have := h.1; simp at this
  | v :: ys, r, [], h => by have := h.1; simp at this
  | v :: ys, r, (x, y) :: ps, h => by
    obtain ⟨t, tx, ty, h1, h2⟩ := h.2 0 x y rfl
    have h1' : v = .ref t := by simpa using h1
    subst h1'
    refine .cons (.tuple (vs := [.int x tx, .int y ty]) h2 (.cons (.int _ _) (.cons (.int _ _) .nil))) (PtsAre.dat ⟨?_, fun i a b e => ?_⟩)
    · have := h.1; simpa using this
    · obtain ⟨t', tx', ty', e1, e2⟩ := h.2 (i + 1) a b (by simpa using e)
      exact ⟨t', tx', ty', by simpa using e1, e2⟩
theorem dts_ok (ps : List (Int × Int)) : ∀ d ∈ dts ps, kqdOk 8 d = true := by
  intro d hd
  obtain ⟨p, _, rfl⟩ := List.mem_map.mp hd
  rfl
theorem mem_row {x y a : Int} {k : Nat} : (x, y) ∈ row a k ↔ x = a ∧ ∃ j : Nat, j < k ∧ y = 0 - 8 + (j : Int) * 1 := by
  unfold row
  rw [List.mem_map]
  constructor
  · rintro ⟨j, hj, e⟩
    cases e
    exact ⟨rfl, j, List.mem_range.mp hj, rfl⟩
  · rintro ⟨rfl, j, hj, rfl⟩
    exact ⟨j, List.mem_range.mpr hj, rfl⟩
theorem mem_ptsI {n x y a : Int} {k : Nat} : (x, y) ∈ ptsI n a k ↔ (x = a ∧ ∃ j : Nat, j < k ∧ y = 0 - 8 + (j : Int) * 1) ∧ x * x + y * y ≤ n := by
  unfold ptsI
  rw [List.mem_filter, mem_row]
  exact and_congr_right fun _ => decide_eq_true_iff
theorem mem_ptsO {n x y : Int} {k : Nat} : (x, y) ∈ ptsO n k ↔ (∃ i : Nat, i < k ∧ x = 0 - 8 + (i : Int) * 1) ∧ (∃ j : Nat, j < 17 ∧ y = 0 - 8 + (j : Int) * 1) ∧ x * x + y * y ≤ n := by
  unfold ptsO
  rw [List.mem_flatten]
  constructor
  · rintro ⟨l, hl, hm⟩
    obtain ⟨i, hi, rfl⟩ := List.mem_map.mp hl
    obtain ⟨⟨e, hy⟩, h⟩ := mem_ptsI.mp hm
    exact ⟨⟨i, List.mem_range.mp hi, e⟩, hy, h⟩
  · rintro ⟨⟨i, hi, e⟩, hy, h⟩
    exact ⟨_, List.mem_map.mpr ⟨i, List.mem_range.mpr hi, rfl⟩, mem_ptsI.mpr ⟨⟨e, hy⟩, h⟩⟩
theorem pts_turn {n x y : Int} (h : (x, y) ∈ pts n) : (0 - y, x) ∈ pts n := by
  unfold pts at *
  rw [mem_ptsO] at *
  obtain ⟨⟨i, hi, rfl⟩, ⟨j, hj, rfl⟩, h⟩ := h
  refine ⟨⟨16 - j, by omega, by omega⟩, ⟨i, hi, rfl⟩, ?_⟩
  rw [Int.zero_sub, Int.neg_mul_neg, Int.add_comm]
  exact h
theorem pts_bound {n x y : Int} {i : Nat} (h : (pts n)[i]? = some (x, y)) : -8 ≤ x ∧ x ≤ 8 ∧ -8 ≤ y ∧ y ≤ 8 := by
  have h := List.mem_of_getElem? h
  unfold pts at h
  rw [mem_ptsO] at h
  obtain ⟨⟨i, hi, rfl⟩, ⟨j, hj, rfl⟩, -⟩ := h
  omega
theorem dts_turn {n x y : Int} {i : Nat} (h : (pts n)[i]? = some (x, y)) : Dat.tuple [.int (0 - y), .int x] ∈ dts (pts n) :=
  List.mem_map.mpr ⟨(0 - y, x), pts_turn (List.mem_of_getElem? h), rfl⟩
def onc (n : Int) (l : List (Int × Int)) : Nat := (l.filter fun p => decide (p.1 ^ 2 + p.2 ^ 2 = n)).length
theorem onc_le (n : Int) (l : List (Int × Int)) : onc n l ≤ l.length := List.length_filter_le ..
theorem onc_len (n : Int) (l : List (Int × Int)) (i : Nat) : onc n (l.take i) ≤ i := by
  unfold onc
  refine Nat.le_trans (List.length_filter_le ..) ?_
  rw [List.length_take]; omega
theorem onc_add (n : Int) (l : List (Int × Int)) (x y : Int) : onc n (l ++ [(x, y)]) = onc n l + if x ^ 2 + y ^ 2 = n then 1 else 0 := by
  unfold onc
  rw [List.filter_append, List.length_append]
  congr 1
  by_cases h1 : x ^ 2 + y ^ 2 = n <;> simp [List.filter, h1]
def dvc (n a : Int) : Nat → Nat
  | 0 => 0
  | i + 1 => dvc n a i + if n.fmod (a + (i : Int) * 4) = 0 then 1 else 0
theorem dvc_len (n a : Int) (i : Nat) : dvc n a i ≤ i := by
  induction i with
  | zero => exact Nat.le_refl _
  | succ i ih => unfold dvc; split <;> omega
theorem rg_one : ∀ k : Fin 61, Builtin.Range.small 1 ((k.val : Int) + 1) 4 = true ∧ Builtin.Range.rangeSize 1 ((k.val : Int) + 1) 4 = (((k.val + 3) / 4 : Nat) : Int) := by decide +kernel
theorem rg_three : ∀ k : Fin 61, Builtin.Range.small 3 ((k.val : Int) + 1) 4 = true ∧ Builtin.Range.rangeSize 3 ((k.val : Int) + 1) 4 = (((k.val + 1) / 4 : Nat) : Int) := by decide +kernel
theorem on_all : ∀ k : Fin 61, (onc k.val (pts k.val) : Int) = if (k.val : Int) > 0 then 4 * ((dvc k.val 1 ((k.val + 3) / 4) : Int) - (dvc k.val 3 ((k.val + 1) / 4) : Int)) else 1 := by decide +kernel
theorem off1_mem {D : Addr} : ∀ {l : List (Addr × Obj)}, LCg.Off1 D l → ∀ p ∈ l, p.1 ≠ D
  | [], _, _, h => nomatch h
  | _ :: _, x, p, h => by
    rcases List.mem_cons.mp h with rfl | h
    · exact x.1
    · exact off1_mem x.2 p h


local macro_rules | `(tactic| walk_at "mStepL") => `(tactic| ((fail_if_success (with_reducible show wpAny _ _ (eval (PySem.Expr.ListComp _ _ _ _) _) _ _ _)); (fail_if_success (with_reducible show wpAny _ _ (exec (PySem.Stmt.Assign _ (PySem.Expr.ListComp _ _ _ _) _) _) _ _ _)); (fail_if_success (with_reducible show wpAny _ _ (call (Value.builtin "len") _) _ _ _)); walk_at "mStepP"))
local macro_rules | `(tactic| walk_at "mStepsL") => `(tactic| repeat' (first | (k_unfold; (try dsimp only)) | walk_at "mStepL" | (dsimp only; walk_at "mStepL")))
local macro_rules | `(tactic| walk_at "mStepN") => `(tactic| ((fail_if_success (with_reducible show wpAny _ _ (compareOp _ _ _) _ _ _)); walk_at "mStepP"))
local macro_rules | `(tactic| walk_at "mStepsN") => `(tactic| repeat' (first | (k_unfold; (try dsimp only)) | walk_at "mStepN" | (dsimp only; walk_at "mStepN")))
theorem thePost (ns : List Int) : PySem.Challenge.rw_hd0005_01.row.claim.post [ofPy (PyData.list (List.map PyData.int ns))] (.bool true) [ofPy (PyData.list (List.map PyData.int ns))] = true := by
  wrow_post

theorem theLaw : PySem.Challenge.rw_hd0005_01.Holds := hd (by
  k_go0
  all_goals try k_fold
  walk_at "mStepsP"
  rename Fr _ _ _ _ => F₁
  rename News _ _ _ _ => N₁
  rename IsRange _ _ _ _ _ _ _ _ => R₁
  rename 64 < _ ∧ 57 < _ => lt0
  rename _ < _ ∧ _ < _ ∧ _ < _ ∧ 64 < _ ∧ 57 < _ => ltq
  rename _ < _ ∧ _ < _ ∧ _ < _ ∧ _ < _ ∧ 64 < _ ∧ 57 < _ => ltt
  rename IntsAre _ _ => hScript
  rename_i w0 s₀ s₁ mg mb G Y fa o pm cd doc ho hcd hg X V T B TE TW nsc hs0 hla hL0 hr0 hl20 wA1 wA2 wa wv wA3 hL4 ra w1 r0 hr5 hc1 hc2 hDd hh1 tkk1 op c1 c2 lp l2 l3 X0 hX' hT' hB' cH64 h7 tk7 t7 lq h1 Dt h2 h3 h4 ob hob h5 oq F5 N5 hoq h6 tk6 t6 u6 v6 k6
  obtain ⟨n, hn⟩ : ∃ n, nsc.sum.fmod 61 = n := ⟨_, rfl⟩
  have hn0 : 0 ≤ n := by rw [← hn]; exact Int.fmod_nonneg_of_pos _ (by decide)
  have hn60 : n ≤ 60 := by have := Int.fmod_lt_of_pos nsc.sum (show (0 : Int) < 61 by decide); omega
  have N₂ : News _ _ h6 ((lq, listOf #[] 0) :: (s₁.heap.objs.size + 1 + 1 + 1, op) :: (s₁.heap.objs.size + 1 + 1, oq) :: (s₁.heap.objs.size + 1, ob) :: (64, tabObj #[]) :: [(57, tabObj #[])]) := fun p hp => N₁ p (.tail _ hp)
  clear N₁ N5 F5
  rw [hn] at hob
  k_dflt (refine my_forStep 10 (fun m₀ i m news => ∃ (vs : List Value) (nn : Nat) (u : Option Value), news = (lq, listOf vs.toArray nn) :: (s₁.heap.objs.size + 1 + 1 + 1, op) :: (s₁.heap.objs.size + 1 + 1, oq) :: (s₁.heap.objs.size + 1, ob) :: (64, tabObj #[]) :: [(57, tabObj #[])] ∧ IntsAre vs (sqs i) ∧ m = fun z => if z = Str.ofString "root" then u else m₀ z) rfl R₁ F₁ N₂ rfl rfl ?_ ?_ ?_)
  · exact ⟨[], 0, _, rfl, .nil, set_self⟩
  · rintro I hI i hi m news it t h tk ⟨vs, nn, u, rfl, hvs, rfl⟩ - F₃ N₃
    rw [set_again] at F₃
    walk_at "mStepsP"
    refine ⟨by first | k_in | fail, ?_⟩
    have hIq : lq < I := hI _ (.head _)
    have N₄ := news_swap N₃
    k_dflt (refine' il ?zB F₃ ?zX ?zT rfl N₄ hvs ?zl ?za (.head _) (Upd.head ?zo) ?zd ?zu ?zr)
    case zB => assumption
    case zX => assumption
    case zT => assumption
    case zl => rw [sqs_len]; omega
    case za => exact sqs_le i hi
    case zo =>
      obtain ⟨q1, q2, q3, q4, q5⟩ := ltq
      exact List.forall_mem_cons.mpr ⟨Nat.ne_of_gt hIq, List.forall_mem_cons.mpr ⟨Nat.ne_of_lt q1, List.forall_mem_cons.mpr ⟨Nat.ne_of_lt q2, List.forall_mem_cons.mpr ⟨Nat.ne_of_lt q3, List.forall_mem_cons.mpr ⟨Nat.ne_of_lt q4, List.forall_mem_cons.mpr ⟨Nat.ne_of_lt q5, fun _ h => nomatch h⟩⟩⟩⟩⟩⟩
    case zd => decide +kernel
    case zu => decide +kernel
    case zr =>
      intro h8 tk8 F₅ N₅
      clear F₃ N₃ N₄
      walk_at "mStepsP"
      refine ⟨_, _, _, _, rfl, F₅, news_swap N₅, fun p hp => Nat.ne_of_lt ?_, _, nn + 1, _, rfl, .cons _ _ hvs, rfl⟩
      rcases List.mem_cons.mp hp with rfl | hp
      · exact hIq
      · exact hI p (.tail _ hp)
  · rintro m news h tk ⟨vs, nn, u, rfl, hvs, rfl⟩ F₃ N₃
    clear F₁ N₂
    dsimp only
    walk_at "mStepsP"
    refine ⟨by first | k_in | fail, ?_⟩
    k_dflt (refine' lps ?zB F₃ ?zX ?zT rfl N₃ hn0 hn60 ?zd ?zu ?zr)
    case zB => assumption
    case zX => assumption
    case zT => assumption
    case zd => decide +kernel
    case zu => decide +kernel
    case zr =>
      intro P pv pn rest h8 tk8 hPts hTups oP F₄ N₄
      clear F₃ N₃
      obtain ⟨tups, rfl, hTl⟩ := hTups
      have hPne := off1_mem oP
      have nP1 : P ≠ lq := Ne.symm (hPne _ (List.mem_append_right _ (.head _)))
      have nP2 : P ≠ s₁.heap.objs.size + 1 + 1 + 1 := Ne.symm (hPne _ (List.mem_append_right _ (.tail _ (.head _))))
      have nP3 : P ≠ s₁.heap.objs.size + 1 + 1 := Ne.symm (hPne _ (List.mem_append_right _ (.tail _ (.tail _ (.head _)))))
      have nP4 : P ≠ s₁.heap.objs.size + 1 := Ne.symm (hPne _ (List.mem_append_right _ (.tail _ (.tail _ (.tail _ (.head _))))))
      have nP5 : P ≠ 64 := Ne.symm (hPne _ (List.mem_append_right _ (.tail _ (.tail _ (.tail _ (.tail _ (.head _)))))))
      have nP6 : P ≠ 57 := Ne.symm (hPne _ (List.mem_append_right _ (.tail _ (.tail _ (.tail _ (.tail _ (.tail _ (.head _))))))))
      have nT0 : ∀ p ∈ tups, p.1 ≠ P := fun p hp => hPne _ (List.mem_append_left _ hp)
      have nT1 : ∀ p ∈ tups, p.1 ≠ lq := fun p hp => Nat.ne_of_gt (hTl p hp _ (.head _))
      have nT2 : ∀ p ∈ tups, p.1 ≠ s₁.heap.objs.size + 1 + 1 + 1 := fun p hp => Nat.ne_of_gt (hTl p hp _ (.tail _ (.head _)))
      have nT5 : ∀ p ∈ tups, p.1 ≠ 64 := fun p hp => Nat.ne_of_gt (hTl p hp _ (.tail _ (.tail _ (.tail _ (.tail _ (.head _))))))
      have nT6 : ∀ p ∈ tups, p.1 ≠ 57 := fun p hp => Nat.ne_of_gt (hTl p hp _ (.tail _ (.tail _ (.tail _ (.tail _ (.tail _ (.head _)))))))
      have N₅ : News _ _ h8 ((P, listOf pv.toArray pn) :: (lq, listOf vs.toArray nn) :: (s₁.heap.objs.size + 1 + 1 + 1, op) :: (s₁.heap.objs.size + 1 + 1, oq) :: (s₁.heap.objs.size + 1, ob) :: (64, tabObj #[]) :: (57, tabObj #[]) :: tups) := fun p hp => N₄ p (by
        rcases List.mem_cons.mp hp with rfl | hp
        · exact .head _
        · exact .tail _ (mem_rot (l1 := [_, _, _, _, _, _]) hp))
      clear N₄
      dsimp only
      walk_at "mStepsP"
      rename Fr _ _ _ _ => F₆
      rename News _ _ _ _ => N₆
      rename_i h9 oP' hoP'
      refine ⟨by first | k_in | fail, ?_⟩
      k_dflt (refine' rt ?zB F₆ ?zX ?zT rfl N₆ hvs (sqs_len 10) sqs_srt rfl (.tail _ (.head _)) ?zd ?zu ?zr)
      case zB => assumption
      case zX => assumption
      case zT => assumption
      case zd => decide +kernel
      case zu => decide +kernel
      case zr =>
        rw [show rk (sqs 10) n - 1 = wd n from rfl]
        obtain ⟨w0', w1', w2', w3'⟩ := wd_ok hn0 hn60
        generalize hwn : wd n = wn at w0' w1' w2' w3' ⊢
        intro tw h10 tk10 F₇ N₇
        clear F₆ N₆
        dsimp only
        walk_at "mStepsL"
        rename Fr _ _ _ _ => F₈
        rename News _ _ _ _ => N₈
        obtain ⟨kw, rfl⟩ := Int.eq_ofNat_of_zero_le w0'
        have hkw : kw < 8 := by omega
        obtain ⟨rg1, rg2⟩ := rg_sym ⟨kw, hkw⟩
        dsimp only at rg1 rg2
        k_dflt (refine my_ListComp F₈ rfl (by with_unfolding_all rfl) (by decide) rfl (by decide) ?_)
        dsimp only
        walk_at "mStepsP"
        rename Fr _ _ _ _ => F₁₁
        rename News _ _ _ _ => N₁₁
        rename IsRange _ _ _ _ _ _ _ _ => R₁₁
        refine pi_range (n := 2 * kw + 1) R₁₁ rg1 rg2 F₁₁ N₁₁ fun I h12 lI F₁₂ N₁₂ => ?_
        refine ⟨_, F₁₂, N₁₂, ?_⟩
        refine run1 (fun i ys _ rest => rest = (P, listOf pv.toArray pn) :: (lq, listOf vs.toArray nn) :: (s₁.heap.objs.size + 1 + 1 + 1, oP') :: (s₁.heap.objs.size + 1 + 1, oq) :: (s₁.heap.objs.size + 1, ob) :: (64, tabObj #[]) :: (57, tabObj #[]) :: tups ∧ IntsAre ys (rowsL n kw i) ∧ i ≤ 2 * kw + 1) (Src.range (0 - (kw : Int)) 1 (2 * kw + 1)) (T := fun _ => True) (AsgOk.name rfl rfl) rfl ?_ (fun _ _ _ _ _ => ⟨trivial, trivial⟩) (fun _ _ _ => trivial) (fun _ _ _ => trivial) ?_ rfl (fun p hp => Nat.ne_of_lt (lI p hp)) (fun _ => ⟨rfl, .nil, Nat.zero_le _⟩) ?_
        · rintro i ys m₂ rest ⟨-, hys, hi⟩
          rw [IntsAre.length hys, rowsL_len, sizeLine_eq]
          omega
        · rintro C D i v ys m₂ m₃ rest oI oC h13 tk13 E' hi ⟨tx, rfl⟩ - ⟨rfl, hys, -⟩ hG hC F₁₃ N₁₃ off ne
          have hx3 : m₃ (Str.ofString "x") = some (Value.int (0 - (kw : Int) + (i : Int) * 1) tx) := by rw [hG]; rfl
          clear hG F₁₁ N₁₁ F₁₂ N₁₂
          refine wpAny_tests_nil ?_
          simp only [if_true]
          /-D-/
          walk_at "mStepsP"
          refine ⟨by first | k_in | fail, ?_⟩
          obtain ⟨sq1, sq2⟩ := sq_sym ⟨kw, hkw⟩ ⟨i, by omega⟩ hi
          dsimp only at sq1 sq2
          k_dflt (refine' rt ?zB F₁₃ ?zX ?zT rfl N₁₃ hvs (sqs_len 10) sqs_srt rfl (.tail _ (.tail _ (.tail _ (.tail _ (.head _))))) ?zd ?zu ?zr)
          case zB => assumption
          case zX => assumption
          case zT => assumption
          case zd => decide +kernel
          case zu => decide +kernel
          case zr =>
            rw [show rk (sqs 10) (n - (0 - (kw : Int) + (i : Int) * 1) * (0 - (kw : Int) + (i : Int) * 1)) - 1 = wd (n - (0 - (kw : Int) + (i : Int) * 1) * (0 - (kw : Int) + (i : Int) * 1)) from rfl]
            obtain ⟨x0, x1, x2, x3⟩ := wd_ok (k := n - (0 - (kw : Int) + (i : Int) * 1) * (0 - (kw : Int) + (i : Int) * 1)) (by omega) (by omega)
            intro tr h14 tk14 F₁₄ N₁₄
            clear F₁₃ N₁₃
            dsimp only
            walk_at "mStepsL"
            refine LCg.CompEnd.intro F₁₄ N₁₄ _ (fun p hp => hp) off trivial ⟨rfl, ?_, hi⟩
            rw [rowsL_succ]
            exact IntsAre.append hys (.cons _ _ .nil)
          /-E-/
        · rintro ys m₂ rest ⟨rfl, hys, -⟩ D h13 tk13 F₁₃ N₁₃ o1
          clear F₁₁ N₁₁ F₁₂ N₁₂
          dsimp only
          walk_at "mStepsL"
          rename Fr _ _ _ _ => F₁₅
          rename News _ _ _ _ => N₁₅
          have hpl := ptsO_len n 17
          refine kst_len (k := (pts n).length) N₁₅ (.tail _ (.head _)) hPts.1 (by show ((ptsO n 17).length : Int) < _; omega) ?_
          have hrows := rows_ok hn0 hn60
          rw [hwn, Int.toNat_natCast] at hrows
          obtain ⟨nk, rfl⟩ := Int.eq_ofNat_of_zero_le hn0
          have htold := told_all ⟨nk, by omega⟩
          obtain ⟨rg3, rg4⟩ := rg_odd ⟨nk, by omega⟩
          dsimp only at htold rg3 rg4
          generalize hpn : (pts (nk : Int)).length = np at hrows htold ⊢
          walk_at "mStepsL"
          · exact absurd hrows (by assumption)
          rename Fr _ _ _ _ => F₁₆
          rename News _ _ _ _ => N₁₆
          rename IsRange _ _ _ _ 2 _ _ _ => R₁₆
          obtain ⟨BASE, hBASE⟩ : ∃ B, B = (P, listOf pv.toArray pn) :: (s₁.heap.objs.size + 1 + 1 + 1, oP') :: (s₁.heap.objs.size + 1, ob) :: tups := ⟨_, rfl⟩
          have bP : (P, listOf pv.toArray pn) ∈ BASE := by rw [hBASE]; exact .head _
          have boP : (s₁.heap.objs.size + 1 + 1 + 1, oP') ∈ BASE := by rw [hBASE]; exact .tail _ (.head _)
          have bob : (s₁.heap.objs.size + 1, ob) ∈ BASE := by rw [hBASE]; exact .tail _ (.tail _ (.head _))
          have bPts : PtsAre pv BASE (pts (nk : Int)) := by
            refine ⟨hPts.1, fun i x y e => ?_⟩
            obtain ⟨t, tx, ty, e1, e2⟩ := hPts.2 i x y e
            refine ⟨t, tx, ty, e1, ?_⟩
            rw [hBASE]
            rcases List.mem_append.mp e2 with e2 | e2
            · exact .tail _ (.tail _ (.tail _ e2))
            · exact (no_pobj lp hoq hob e2).elim
          have bst : TabSt BASE BASE #[] #[] := by
            refine ⟨fun _ h => h, .inl rfl, .inl rfl, ?_, ?_⟩ <;> rw [hBASE]
            · exact List.forall_mem_cons.mpr ⟨nP6, List.forall_mem_cons.mpr ⟨Nat.ne_of_gt (by omega), List.forall_mem_cons.mpr ⟨Nat.ne_of_gt (by omega), nT6⟩⟩⟩
            · exact List.forall_mem_cons.mpr ⟨nP5, List.forall_mem_cons.mpr ⟨Nat.ne_of_gt (by omega), List.forall_mem_cons.mpr ⟨Nat.ne_of_gt (by omega), nT5⟩⟩⟩
          have N₁₇ : News (ghostOf s₁.heap [(68, 64), (61, 57)]) s₁.heap.objs.size _ ((57, tabObj #[]) :: (64, tabObj #[]) :: BASE) := fun p hp => N₁₆ p (by
            rw [hBASE] at hp
            rcases List.mem_cons.mp hp with rfl | hp
            · k_dflt k_mem
            · rcases List.mem_cons.mp hp with rfl | hp
              · k_dflt k_mem
              · rcases List.mem_cons.mp hp with rfl | hp
                · k_dflt k_mem
                · rcases List.mem_cons.mp hp with rfl | hp
                  · k_dflt k_mem
                  · rcases List.mem_cons.mp hp with rfl | hp
                    · k_dflt k_mem
                    · exact .tail _ (.tail _ (.tail _ (.tail _ (.tail _ (.tail _ (.tail _ (.tail _ hp))))))))
          clear N₁₆
          k_dflt (refine my_forStepI ((nk + 1) / 2) (fun I m₀ i m news => ∃ (p1 p2 : Array Value) (TL : List (Addr × Obj)) (u : Option Value) (t : Tok), news = (57, tabObj p1) :: (64, tabObj p2) :: TL ∧ TabSt BASE TL p1 p2 ∧ (∀ p ∈ TL, p.1 ≠ I) ∧ m = fun z => if z = Str.ofString "told" then some (.int (tl nk i) t) else if z = Str.ofString "number" then u else m₀ z) rfl R₁₆ F₁₆ N₁₇ rg3 rg4 ?_ ?_ ?_)
          · exact fun I hI => ⟨_, _, _, _, _, rfl, bst, fun p hp => Nat.ne_of_lt (hI p (.tail _ (.tail _ hp))), two_first rfl⟩
          · rintro I hI i hi m news it t h tk ⟨p1, p2, TL, u, tt, rfl, hst, oI, rfl⟩ hit F₁₈ N₁₈
            have cob := hst.1 _ bob
            have h57I : 57 < I := hI _ (.head _)
            have h64I : 64 < I := hI _ (.tail _ (.head _))
            dsimp only
            walk_at "mStepsP"
            refine ⟨by first | k_in | fail, ?_⟩
            have N₁₉ : News (ghostOf s₁.heap [(68, 64), (61, 57)]) s₁.heap.objs.size _ ((57, tabObj p1) :: (64, tabObj p2) :: ([(I, it)] ++ TL)) := fun p hp => N₁₈ p (by
              rcases List.mem_cons.mp hp with rfl | hp
              · exact .tail _ (.head _)
              · rcases List.mem_cons.mp hp with rfl | hp
                · exact .tail _ (.tail _ (.head _))
                · rcases List.mem_cons.mp hp with rfl | hp
                  · exact .head _
                  · exact .tail _ (.tail _ (.tail _ hp)))
            k_dflt (refine' idv ?zB F₁₈ ?zX ?zT rfl ?zx ?zb N₁₉ ?zo ?zp ?zt1 ?zt2 codeHd cH64 ?zd ?zu ?zr)
            case zB => assumption
            case zX => assumption
            case zT => assumption
            case zx => omega
            case zb => omega
            case zo => exact List.forall_mem_cons.mpr ⟨Nat.ne_of_gt h57I, hst.2.2.2.1⟩
            case zp => exact List.forall_mem_cons.mpr ⟨Nat.ne_of_gt h64I, hst.2.2.2.2⟩
            case zt1 => exact hst.2.1.mono fun _ h => .tail _ h
            case zt2 => exact hst.2.2.1.mono fun _ h => .tail _ h
            case zd => decide +kernel
            case zu => decide +kernel
            case zr =>
              intro Dt t1 t2 c q1 q2 ext h20 tk20 F₂₀ N₂₀ r1 r2 r3 r4
              clear F₁₈ N₁₈ N₁₉
              dsimp only
              /-D-/
              walk_at "mStepsP"
              rename Fr _ _ _ _ => F₂₁
              rename News _ _ _ _ => N₂₁
              refine ⟨_, _, _, (57, tabObj q1) :: (64, tabObj q2) :: (ext ++ TL), rfl, F₂₁, fun p hp => N₂₁ p ?_, ?_, q1, q2, ext ++ TL, some (.int (1 + (i : Int) * 2) t), _, rfl, hst.ext r1 r2 ?_ r3, fun p hp => ?_, two_again (a := Str.ofString "told") (b := Str.ofString "number") (by decide)⟩
              · rcases List.mem_cons.mp hp with rfl | hp
                · exact .tail _ (.tail _ (.tail _ (List.mem_append_right _ (.head _))))
                · rcases List.mem_cons.mp hp with rfl | hp
                  · exact .tail _ (.head _)
                  · rcases List.mem_cons.mp hp with rfl | hp
                    · exact .tail _ (.tail _ (.head _))
                    · rcases List.mem_append.mp hp with hp | hp
                      · exact .tail _ (.tail _ (.tail _ (List.mem_append_left _ hp)))
                      · exact .tail _ (.tail _ (.tail _ (List.mem_append_right _ (.tail _ hp))))
              · exact List.forall_mem_cons.mpr ⟨Nat.ne_of_lt h57I, List.forall_mem_cons.mpr ⟨Nat.ne_of_lt h64I, fun p hp => by
                  rcases List.mem_append.mp hp with hp | hp
                  · exact Nat.ne_of_gt ((r3 p hp).2.2 _ (.head _))
                  · exact oI p hp⟩⟩
              · rw [hit]; exact List.forall_mem_cons.mpr ⟨NoTab.krs _ _ _, fun _ h => nomatch h⟩
              · rcases List.mem_append.mp hp with hp | hp
                · exact Nat.ne_of_gt ((r3 p hp).2.2 _ (.head _))
                · exact oI p hp
              /-E-/
          · rintro I m news h tk ⟨p1, p2, TL, u, tt, rfl, hst, oI, rfl⟩ F₁₈ N₁₈
            have cob := hst.1 _ bob
            have cP := hst.1 _ bP
            have coP := hst.1 _ boP
            clear N₁₇
            dsimp only
            walk_at "mStepsL"
            refine kst_len (k := (pts (nk : Int)).length) N₁₈ (.tail _ (.tail _ cP)) hPts.1 (by show ((ptsO nk 17).length : Int) < _; omega) ?_
            rw [hpn]
            walk_at "mStepsL"
            · exact absurd htold (by assumption)
            rename Fr _ _ _ _ => F₂₂
            rename News _ _ _ _ => N₂₂
            have cPts : PtsAre pv TL (pts (nk : Int)) := bPts.mono hst.1
            have cpv : pv.length = np := hPts.1.trans hpn
            have hnp : np ≤ 289 := by rw [← hpn]; exact hpl
            k_dflt (refine my_ListComp F₂₂ rfl (by with_unfolding_all rfl) (by decide) rfl (by decide) ?_)
            dsimp only
            walk_at "mStepsP"
            refine pi_list (.tail _ (.tail _ cP)) F₂₂ N₂₂ fun I2 h23 oI2 lI2 hIt2 F₂₃ N₂₃ => ?_
            refine ⟨_, F₂₃, N₂₃, ?_⟩
            refine run1 (fun i ys _ rest => rest = (57, tabObj p1) :: (64, tabObj p2) :: TL ∧ ys.length = qtr ((pts (nk : Int)).take i) ∧ i ≤ np) (Src.list (its := pv.toArray) (ax := P) (Nat.ne_of_lt (lI2 _ (.tail _ (.tail _ cP))))) (AsgOk.pair (U := Ut (pts (nk : Int))) rfl rfl rfl) rfl ?_ ?_ ?_ ?_ ?_ hIt2 (fun p hp => Nat.ne_of_lt (lI2 p hp)) (fun _ => ⟨rfl, rfl, Nat.zero_le _⟩) ?_
            · rintro i ys m₂ rest ⟨-, hl, hi⟩
              rw [hl, sizeLine_eq]
              have := qtr_len (pts (nk : Int)) i
              omega
            · rintro i ys m₂ rest ⟨rfl, -, -⟩
              exact ⟨⟨_, .tail _ (.tail _ cP), rfl, _, rfl⟩, (cPts.mono fun _ h => .tail _ (.tail _ h)).pairIn⟩
            · rintro p r ⟨o, ho, h⟩
              exact ⟨o, .tail _ ho, h⟩
            · exact fun p r h => h.mono fun _ h => .tail _ h
            · rintro C D i v ys m₂ m₃ rest oI3 oC h24 tk24 E' hi hv - ⟨rfl, hl, -⟩ ⟨v₁, v₂, ⟨x, y, tx, ty, hxy, rfl, rfl⟩, hG⟩ hC F₂₄ N₂₄ off ne
              have hx3 : m₃ (Str.ofString "x") = some (Value.int x tx) := by rw [hG]; rfl
              have hy3 : m₃ (Str.ofString "y") = some (Value.int y ty) := by rw [hG]; rfl
              have hi' : i + 1 ≤ np := by rw [← cpv, ← List.size_toArray]; exact hi
              clear hG
              refine wpAny_tests_one ?_
              
              walk_at "mStepsP"
              · rename News _ _ _ _ => N₂₅
                rename Fr _ _ _ _ => F₂₅
                refine LCg.CompEnd.intro F₂₅ N₂₅ _ (fun p hp => hp) off trivial ⟨rfl, ?_, hi'⟩
                rw [List.length_append, hl, take_one hxy, qtr_add, if_pos (by omega)]
                rfl
              all_goals
                rename News _ _ _ _ => N₂₅
                rename Fr _ _ _ _ => F₂₅
                refine LCg.CompEnd.intro F₂₅ N₂₅ _ (fun p hp => hp) off trivial ⟨rfl, ?_, hi'⟩
                rw [hl, take_one hxy, qtr_add, if_neg (by omega)]
                rfl

              
            · rintro ys m₂ rest ⟨rfl, hl, -⟩ D h24 tk24 F₂₄ N₂₄ o1
              have hqtr := qtr_all ⟨nk, by omega⟩
              dsimp only at hqtr
              rw [show (pts (nk : Int)).take pv.toArray.size = pts (nk : Int) from List.take_of_length_le (by rw [List.size_toArray]; omega)] at hl
              rw [hpn] at hqtr
              generalize qtr (pts (nk : Int)) = qn at hl hqtr
              dsimp only
              walk_at "mStepsL"
              refine kst_len (k := qn) N₂₄ (.head _) hl (by omega) ?_
              walk_at "mStepsL"
              rename News _ _ _ _ => N₂₆
              refine kst_len (k := np) N₂₆ (.tail _ (.tail _ (.tail _ cP))) cpv (by omega) ?_
              walk_at "mStepsL"
              · exact absurd hqtr (by assumption)
              rename Fr _ _ _ _ => F₂₇
              rename News _ _ _ _ => N₂₇
              have N₂₈ : News (ghostOf s₁.heap [(68, 64), (61, 57)]) s₁.heap.objs.size _ ((57, tabObj p1) :: (64, tabObj p2) :: TL) := fun p hp => N₂₇ p (.tail _ hp)
              k_dflt (refine my_ListComp F₂₇ rfl (by with_unfolding_all rfl) (by decide) rfl (by decide) ?_)
              dsimp only
              walk_at "mStepsP"
              refine pi_list (.tail _ (.tail _ cP)) F₂₇ N₂₈ fun I3 h29 oI3 lI3 hIt3 F₂₉ N₂₉ => ?_
              refine ⟨_, F₂₉, N₂₉, ?_⟩
              refine run1 (fun i ys _ rest => rest = (57, tabObj p1) :: (64, tabObj p2) :: TL ∧ ys = []) (Src.list (its := pv.toArray) (ax := P) (Nat.ne_of_lt (lI3 _ (.tail _ (.tail _ cP))))) (T := fun _ => True) (AsgOk.name rfl rfl) rfl ?_ ?_ ?_ ?_ ?_ hIt3 (fun p hp => Nat.ne_of_lt (lI3 p hp)) (fun _ => ⟨rfl, rfl⟩) ?_
              · rintro i ys m₂ rest ⟨-, rfl⟩
                exact Nat.zero_le _
              · rintro i ys m₂ rest ⟨rfl, -⟩
                exact ⟨⟨_, .tail _ (.tail _ cP), rfl, _, rfl⟩, trivial⟩
              · rintro p r ⟨o, ho, h⟩
                exact ⟨o, .tail _ ho, h⟩
              · exact fun _ _ _ => trivial
              · rintro C D i v ys m₂ m₃ rest oI4 oC h30 tk30 E' hi hv - ⟨rfl, rfl⟩ hG hC F₃₀ N₃₀ off ne
                obtain ⟨t, x, tx, y, ty, rfl, hmt, hxy⟩ := cPts.get hv
                have hp3 : m₃ (Str.ofString "point") = some (Value.ref t) := by rw [hG]; rfl
                have hDat := cPts.dat
                have hOk := dts_ok (pts (nk : Int))
                have hturn := dts_turn hxy
                clear hG
                refine wpAny_tests_one ?_
                
                /-D-/
                walk_at "mStepsN"
                rename News _ _ _ _ => N₃₁'
                rename Fr _ _ _ _ => F₃₁'
                refine kqd_notIn N₃₁' (.tail _ (.tail _ (.tail _ (.tail _ (.tail _ (.tail _ cP)))))) rfl rfl hDat (fun p hp => .tail _ (.tail _ (.tail _ (.tail _ (.tail _ (.tail _ hp)))))) (.tuple (vs := [.int (0 - y) _, .int x tx]) (.head _) (.cons (.int _ _) (.cons (.int _ _) .nil))) (fun _ h => h) hOk rfl (by ke_room) ?_
                simp only [hturn, decide_true, Bool.not_true]
                walk_at "mStepsP"
                refine LCg.CompEnd.intro F₃₁' N₃₁' _ (fun p hp => .tail _ hp) off trivial ⟨rfl, trivial⟩
                /-E-/
                
              · rintro ys m₂ rest ⟨rfl, rfl⟩ D3 h30 tk30 F₃₀ N₃₀ o3
                have hnil : DatAll TL [] [] := .nil
                have hnil2 : ∀ d ∈ ([] : List Dat), kqdOk 8 d = true := fun _ h => nomatch h
                dsimp only
                walk_at "mStepsL"
                rename Fr _ _ _ _ => F₃₁
                rename News _ _ _ _ => N₃₁
                have N₃₂ : News (ghostOf s₁.heap [(68, 64), (61, 57)]) s₁.heap.objs.size _ ((57, tabObj p1) :: (64, tabObj p2) :: TL) := fun p hp => N₃₁ p (.tail _ (.tail _ hp))
                k_dflt (refine my_Assign_ListComp F₃₁ rfl rfl (by with_unfolding_all rfl) (by with_unfolding_all rfl) (by decide) rfl (by decide) rfl rfl ?_)
                dsimp only
                walk_at "mStepsP"
                refine pi_list (.tail _ (.tail _ cP)) F₃₁ N₃₂ fun I4 h33 oI4 lI4 hIt4 F₃₃ N₃₃ => ?_
                refine ⟨_, F₃₃, N₃₃, ?_⟩
                refine run1 (fun i ys _ rest => rest = (57, tabObj p1) :: (64, tabObj p2) :: TL ∧ ys.length = onc nk ((pts (nk : Int)).take i)) (Src.list (its := pv.toArray) (ax := P) (Nat.ne_of_lt (lI4 _ (.tail _ (.tail _ cP))))) (T := fun _ => True) (AsgOk.name rfl rfl) rfl ?_ ?_ ?_ ?_ ?_ hIt4 (fun p hp => Nat.ne_of_lt (lI4 p hp)) (fun _ => ⟨rfl, rfl⟩) ?_
                · rintro i ys m₂ rest ⟨-, hl⟩
                  rw [hl, sizeLine_eq]
                  have := onc_le nk ((pts (nk : Int)).take i)
                  rw [List.length_take] at this
                  omega
                · rintro i ys m₂ rest ⟨rfl, -⟩
                  exact ⟨⟨_, .tail _ (.tail _ cP), rfl, _, rfl⟩, trivial⟩
                · rintro p r ⟨o, ho, h⟩
                  exact ⟨o, .tail _ ho, h⟩
                · exact fun _ _ _ => trivial
                · rintro C D i v ys m₂ m₃ rest oI5 oC h34 tk34 E' hi hv - ⟨rfl, hl⟩ hG hC F₃₄ N₃₄ off ne
                  obtain ⟨t, x, tx, y, ty, rfl, hmt, hxy⟩ := cPts.get hv
                  have hp3 : m₃ (Str.ofString "point") = some (Value.ref t) := by rw [hG]; rfl
                  clear hG
                  obtain ⟨bx1, bx2, by1, by2⟩ := pts_bound hxy
                  refine wpAny_tests_one ?_
                  walk_at "mStepsP"
                  · rename News _ _ _ _ => N₃₄'
                    rename Fr _ _ _ _ => F₃₄'
                    refine LCg.CompEnd.intro F₃₄' N₃₄' _ (fun p hp => hp) off trivial ⟨rfl, ?_⟩
                    rw [List.length_append, hl, take_one hxy, onc_add, if_pos (by assumption)]
                    rfl
                  · rename News _ _ _ _ => N₃₄'
                    rename Fr _ _ _ _ => F₃₄'
                    refine LCg.CompEnd.intro F₃₄' N₃₄' _ (fun p hp => hp) off trivial ⟨rfl, ?_⟩
                    rw [hl, take_one hxy, onc_add, if_neg (by assumption)]
                    rfl

                  
                · rintro ys m₂ rest ⟨rfl, hl⟩ D4 h34 tk34 F₃₄ N₃₄ o4
                  rw [show (pts (nk : Int)).take pv.toArray.size = pts (nk : Int) from List.take_of_length_le (by rw [List.size_toArray]; omega)] at hl
                  have hon := on_all ⟨nk, by omega⟩
                  obtain ⟨rg5, rg6⟩ := rg_one ⟨nk, by omega⟩
                  obtain ⟨rg7, rg8⟩ := rg_three ⟨nk, by omega⟩
                  have hle4 := onc_le nk (pts (nk : Int))
                  dsimp only at hon rg5 rg6 rg7 rg8
                  generalize onc nk (pts (nk : Int)) = cn at hl hon hle4
                  have D4ne := off1_mem o4
                  have nD57 : (57 : Nat) ≠ D4 := D4ne _ (.head _)
                  have nD64 : (64 : Nat) ≠ D4 := D4ne _ (.tail _ (.head _))
                  have nDT : ∀ p ∈ TL, p.1 ≠ D4 := fun p hp => D4ne _ (.tail _ (.tail _ hp))
                  have N₃₅ : News (ghostOf s₁.heap [(68, 64), (61, 57)]) s₁.heap.objs.size _ ((57, tabObj p1) :: (64, tabObj p2) :: (D4, LCg.lst ys) :: TL) := fun p hp => N₃₄ p (by
                    rcases List.mem_cons.mp hp with rfl | hp
                    · exact .tail _ (.head _)
                    · rcases List.mem_cons.mp hp with rfl | hp
                      · exact .tail _ (.tail _ (.head _))
                      · rcases List.mem_cons.mp hp with rfl | hp
                        · exact .head _
                        · exact .tail _ (.tail _ (.tail _ hp)))
                  have hst4 : TabSt ((D4, LCg.lst ys) :: BASE) ((D4, LCg.lst ys) :: TL) p1 p2 := by
                    refine ⟨fun p hp => ?_, hst.2.1.mono fun _ h => .tail _ h, hst.2.2.1.mono fun _ h => .tail _ h, List.forall_mem_cons.mpr ⟨Ne.symm nD57, hst.2.2.2.1⟩, List.forall_mem_cons.mpr ⟨Ne.symm nD64, hst.2.2.2.2⟩⟩
                    rcases List.mem_cons.mp hp with rfl | hp
                    · exact .head _
                    · exact .tail _ (hst.1 p hp)
                  clear N₃₄
                  generalize hTL4 : (D4, LCg.lst ys) :: TL = TL4 at N₃₅ hst4
                  dsimp only
                  have cob4 := hst4.1 _ (.tail _ bob)
                  walk_at "mStepsL"
                  rename Fr _ _ _ _ => F₃₆
                  k_dflt (refine my_ListComp F₃₆ rfl (by with_unfolding_all rfl) (by decide) rfl (by decide) ?_)
                  dsimp only
                  walk_at "mStepsP"
                  rename Fr _ _ _ _ => F₃₇
                  rename News _ _ _ _ => N₃₇
                  rename IsRange _ _ _ _ 4 _ _ _ => R₃₇
                  refine pi_range (n := (nk + 3) / 4) R₃₇ rg5 rg6 F₃₇ N₃₇ fun I5 h38 lI5 F₃₈ N₃₈ => ?_
                  refine ⟨_, F₃₈, N₃₈, ?_⟩
                  refine run1 (fun i ys' _ rest => ys'.length = dvc nk 1 i ∧ i ≤ (nk + 3) / 4 ∧ ∃ q1 q2 TL', rest = (57, tabObj q1) :: (64, tabObj q2) :: TL' ∧ TabSt ((D4, LCg.lst ys) :: BASE) TL' q1 q2) (Src.range 1 4 ((nk + 3) / 4)) (T := fun _ => True) (AsgOk.name rfl rfl) rfl ?_ (fun _ _ _ _ _ => ⟨trivial, trivial⟩) (fun _ _ _ => trivial) (fun _ _ _ => trivial) ?_ rfl (fun p hp => Nat.ne_of_lt (lI5 p hp)) (fun _ => ⟨rfl, Nat.zero_le _, _, _, _, rfl, hst4⟩) ?_
                  · rintro i ys' m₂ rest ⟨hl', hi', -⟩
                    rw [hl', sizeLine_eq]
                    have := dvc_len nk 1 i
                    omega
                  · rintro C D i v ys' m₂ m₃ rest oI6 oC h40 tk40 E' hi ⟨tp, rfl⟩ hIt6 ⟨hl', -, r1, r2, TL6, rfl, hst6⟩ hG hC F₄₀ N₄₀ off ne
                    have hp3 : m₃ (Str.ofString "part") = some (Value.int (1 + (i : Int) * 4) tp) := by rw [hG]; rfl
                    have cob6 := hst6.1 _ (.tail _ bob)
                    obtain ⟨o57, o64, o6T⟩ : ((57 : Nat) ≠ I5 ∧ (57 : Nat) ≠ C ∧ (57 : Nat) ≠ D) ∧ ((64 : Nat) ≠ I5 ∧ (64 : Nat) ≠ C ∧ (64 : Nat) ≠ D) ∧ ∀ p ∈ TL6, p.1 ≠ I5 ∧ p.1 ≠ C ∧ p.1 ≠ D := ⟨off.mem _ (.head _), off.mem _ (.tail _ (.head _)), fun p hp => off.mem _ (.tail _ (.tail _ hp))⟩
                    clear hG
                    refine wpAny_tests_one ?_
                    /-D-/
                    walk_at "mStepsP"
                    refine ⟨by first | k_in | fail, ?_⟩
                    rename Fr _ _ _ _ => F₄₄
                    rename News _ _ _ _ => N₄₄
                    have N₄₁ : News (ghostOf s₁.heap [(68, 64), (61, 57)]) s₁.heap.objs.size _ ((57, tabObj r1) :: (64, tabObj r2) :: ([(I5, oI6), (C, oC), (D, LCg.lst ys')] ++ TL6)) := fun p hp => N₄₄ p (by
                      rcases List.mem_cons.mp hp with rfl | hp
                      · exact .tail _ (.tail _ (.tail _ (.head _)))
                      · rcases List.mem_cons.mp hp with rfl | hp
                        · exact .tail _ (.tail _ (.tail _ (.tail _ (.head _))))
                        · rcases List.mem_append.mp hp with hp | hp
                          · exact List.mem_append_left (bs := (57, tabObj r1) :: (64, tabObj r2) :: TL6) hp
                          · exact .tail _ (.tail _ (.tail _ (.tail _ (.tail _ hp)))))
                    k_dflt (refine' idv ?zB F₄₄ ?zX ?zT rfl ?zx ?zb N₄₁ ?zo ?zp ?zt1 ?zt2 codeHd cH64 ?zd ?zu ?zr)
                    case zB => assumption
                    case zX => assumption
                    case zT => assumption
                    case zx => omega
                    case zb => omega
                    case zo => exact List.forall_mem_cons.mpr ⟨Ne.symm o57.1, List.forall_mem_cons.mpr ⟨Ne.symm o57.2.1, List.forall_mem_cons.mpr ⟨Ne.symm o57.2.2, hst6.2.2.2.1⟩⟩⟩
                    case zp => exact List.forall_mem_cons.mpr ⟨Ne.symm o64.1, List.forall_mem_cons.mpr ⟨Ne.symm o64.2.1, List.forall_mem_cons.mpr ⟨Ne.symm o64.2.2, hst6.2.2.2.2⟩⟩⟩
                    case zt1 => exact hst6.2.1.mono fun _ h => List.mem_append_right _ h
                    case zt2 => exact hst6.2.2.1.mono fun _ h => List.mem_append_right _ h
                    case zd => decide +kernel
                    case zu => decide +kernel
                    case zr =>
                      intro Dt t1 t2 c u1 u2 ext h41 tk41 F₄₂ N₄₂ z1 z2 z3 z4
                      have hst7 := hst6.ext z1 z2 (List.forall_mem_cons.mpr ⟨by rw [hIt6]; exact NoTab.krs _ _ _, List.forall_mem_cons.mpr ⟨NoTab.ns hC, List.forall_mem_cons.mpr ⟨NoTab.lst _, fun _ h => nomatch h⟩⟩⟩) z3
                      have mI : (I5, oI6) ∈ ext ++ ([(I5, oI6), (C, oC), (D, LCg.lst ys')] ++ TL6) := List.mem_append_right _ (.head _)
                      have mC : (C, oC) ∈ ext ++ ([(I5, oI6), (C, oC), (D, LCg.lst ys')] ++ TL6) := List.mem_append_right _ (.tail _ (.head _))
                      have mD : (D, LCg.lst ys') ∈ ext ++ ([(I5, oI6), (C, oC), (D, LCg.lst ys')] ++ TL6) := List.mem_append_right _ (.tail _ (.tail _ (.head _)))
                      have hsub : ∀ p ∈ (I5, oI6) :: (C, oC) :: (D, LCg.lst ys') :: (57, tabObj u1) :: (64, tabObj u2) :: (ext ++ TL6), p ∈ (Dt, ({ cls := .type "tuple", data := .seq #[.int ((nk : Int).fdiv (1 + (i : Int) * 4)) t1, .int ((nk : Int).fmod (1 + (i : Int) * 4)) t2] c } : Obj)) :: (57, tabObj u1) :: (64, tabObj u2) :: (ext ++ ([(I5, oI6), (C, oC), (D, LCg.lst ys')] ++ TL6)) := fun p hp => by
                        rcases List.mem_cons.mp hp with rfl | hp
                        · exact .tail _ (.tail _ (.tail _ mI))
                        · rcases List.mem_cons.mp hp with rfl | hp
                          · exact .tail _ (.tail _ (.tail _ mC))
                          · rcases List.mem_cons.mp hp with rfl | hp
                            · exact .tail _ (.tail _ (.tail _ mD))
                            · rcases List.mem_cons.mp hp with rfl | hp
                              · exact .tail _ (.head _)
                              · rcases List.mem_cons.mp hp with rfl | hp
                                · exact .tail _ (.tail _ (.head _))
                                · rcases List.mem_append.mp hp with hp | hp
                                  · exact .tail _ (.tail _ (.tail _ (List.mem_append_left _ hp)))
                                  · exact .tail _ (.tail _ (.tail _ (List.mem_append_right _ (List.mem_append_right _ hp))))
                      have hoff7 : LCg.Off3 I5 C D ((57, tabObj u1) :: (64, tabObj u2) :: (ext ++ TL6)) := LCg.Off3.of fun p hp => by
                        rcases List.mem_cons.mp hp with rfl | hp
                        · exact o57
                        · rcases List.mem_cons.mp hp with rfl | hp
                          · exact o64
                          · rcases List.mem_append.mp hp with hp | hp
                            · have z := (z3 p hp).2.2
                              exact ⟨Nat.ne_of_gt (z _ (.head _)), Nat.ne_of_gt (z _ (.tail _ (.head _))), Nat.ne_of_gt (z _ (.tail _ (.tail _ (.head _))))⟩
                            · exact o6T p hp
                      clear F₄₄ N₄₄ N₄₁
                      dsimp only
                      walk_at "mStepsP"
                      · rename Fr _ _ _ _ => F₄₃
                        rename News _ _ _ _ => N₄₃
                        rename (_ : Int) = 0 => hz
                        refine LCg.CompEnd.intro F₄₃ N₄₃ _ hsub hoff7 trivial ⟨?_, hi, u1, u2, _, rfl, hst7⟩
                        rw [List.length_append, hl', dvc, if_pos hz]
                        rfl
                      · rename Fr _ _ _ _ => F₄₃
                        rename News _ _ _ _ => N₄₃
                        rename ¬ (_ : Int) = 0 => hz
                        refine LCg.CompEnd.intro F₄₃ N₄₃ _ hsub hoff7 trivial ⟨?_, hi, u1, u2, _, rfl, hst7⟩
                        rw [hl', dvc, if_neg hz]
                        rfl
                    /-E-/
                  · rintro ys' m₂ rest ⟨hl5, -, q1, q2, TL5, rfl, hst5⟩ D5 h39 tk39 F₃₉ N₃₉ o5
                    have hd1 := dvc_len nk 1 ((nk + 3) / 4)
                    generalize dvc nk 1 ((nk + 3) / 4) = d1 at hl5 hon hd1
                    dsimp only
                    have cob5 := hst5.1 _ (.tail _ bob)
                    walk_at "mStepsL"
                    refine kst_len (k := d1) N₃₉ (.head _) hl5 (by omega) ?_
                    walk_at "mStepsL"
                    rename Fr _ _ _ _ => F₄₅
                    rename News _ _ _ _ => N₄₅
                    have N₄₆ : News (ghostOf s₁.heap [(68, 64), (61, 57)]) s₁.heap.objs.size _ ((57, tabObj q1) :: (64, tabObj q2) :: TL5) := fun p hp => N₄₅ p (.tail _ hp)
                    clear N₄₅
                    k_dflt (refine my_ListComp F₄₅ rfl (by with_unfolding_all rfl) (by decide) rfl (by decide) ?_)
                    dsimp only
                    walk_at "mStepsP"
                    rename Fr _ _ _ _ => F₄₇
                    rename News _ _ _ _ => N₄₇
                    rename IsRange _ _ 3 _ 4 _ _ _ => R₄₇
                    refine pi_range (n := (nk + 1) / 4) R₄₇ rg7 rg8 F₄₇ N₄₇ fun I7 h48 lI7 F₄₈ N₄₈ => ?_
                    refine ⟨_, F₄₈, N₄₈, ?_⟩
                    refine run1 (fun i ys' _ rest => ys'.length = dvc nk 3 i ∧ i ≤ (nk + 1) / 4 ∧ ∃ q1 q2 TL', rest = (57, tabObj q1) :: (64, tabObj q2) :: TL' ∧ TabSt ((D4, LCg.lst ys) :: BASE) TL' q1 q2) (Src.range 3 4 ((nk + 1) / 4)) (T := fun _ => True) (AsgOk.name rfl rfl) rfl ?_ (fun _ _ _ _ _ => ⟨trivial, trivial⟩) (fun _ _ _ => trivial) (fun _ _ _ => trivial) ?_ rfl (fun p hp => Nat.ne_of_lt (lI7 p hp)) (fun _ => ⟨rfl, Nat.zero_le _, _, _, _, rfl, hst5⟩) ?_
                    · rintro i ys' m₂ rest ⟨hl', hi', -⟩
                      rw [hl', sizeLine_eq]
                      have := dvc_len nk 3 i
                      omega
                    · rintro C D i v ys' m₂ m₃ rest oI6 oC h40 tk40 E' hi ⟨tp, rfl⟩ hIt6 ⟨hl', -, r1, r2, TL6, rfl, hst6⟩ hG hC F₄₀ N₄₀ off ne
                      have hp3 : m₃ (Str.ofString "part") = some (Value.int (3 + (i : Int) * 4) tp) := by rw [hG]; rfl
                      have cob6 := hst6.1 _ (.tail _ bob)
                      obtain ⟨o57, o64, o6T⟩ : ((57 : Nat) ≠ I7 ∧ (57 : Nat) ≠ C ∧ (57 : Nat) ≠ D) ∧ ((64 : Nat) ≠ I7 ∧ (64 : Nat) ≠ C ∧ (64 : Nat) ≠ D) ∧ ∀ p ∈ TL6, p.1 ≠ I7 ∧ p.1 ≠ C ∧ p.1 ≠ D := ⟨off.mem _ (.head _), off.mem _ (.tail _ (.head _)), fun p hp => off.mem _ (.tail _ (.tail _ hp))⟩
                      clear hG
                      refine wpAny_tests_one ?_
                      /-D-/
                      walk_at "mStepsP"
                      refine ⟨by first | k_in | fail, ?_⟩
                      rename Fr _ _ _ _ => F₄₄
                      rename News _ _ _ _ => N₄₄
                      have N₄₁ : News (ghostOf s₁.heap [(68, 64), (61, 57)]) s₁.heap.objs.size _ ((57, tabObj r1) :: (64, tabObj r2) :: ([(I7, oI6), (C, oC), (D, LCg.lst ys')] ++ TL6)) := fun p hp => N₄₄ p (by
                        rcases List.mem_cons.mp hp with rfl | hp
                        · exact .tail _ (.tail _ (.tail _ (.head _)))
                        · rcases List.mem_cons.mp hp with rfl | hp
                          · exact .tail _ (.tail _ (.tail _ (.tail _ (.head _))))
                          · rcases List.mem_append.mp hp with hp | hp
                            · exact List.mem_append_left (bs := (57, tabObj r1) :: (64, tabObj r2) :: TL6) hp
                            · exact .tail _ (.tail _ (.tail _ (.tail _ (.tail _ hp)))))
                      k_dflt (refine' idv ?zB F₄₄ ?zX ?zT rfl ?zx ?zb N₄₁ ?zo ?zp ?zt1 ?zt2 codeHd cH64 ?zd ?zu ?zr)
                      case zB => assumption
                      case zX => assumption
                      case zT => assumption
                      case zx => omega
                      case zb => omega
                      case zo => exact List.forall_mem_cons.mpr ⟨Ne.symm o57.1, List.forall_mem_cons.mpr ⟨Ne.symm o57.2.1, List.forall_mem_cons.mpr ⟨Ne.symm o57.2.2, hst6.2.2.2.1⟩⟩⟩
                      case zp => exact List.forall_mem_cons.mpr ⟨Ne.symm o64.1, List.forall_mem_cons.mpr ⟨Ne.symm o64.2.1, List.forall_mem_cons.mpr ⟨Ne.symm o64.2.2, hst6.2.2.2.2⟩⟩⟩
                      case zt1 => exact hst6.2.1.mono fun _ h => List.mem_append_right _ h
                      case zt2 => exact hst6.2.2.1.mono fun _ h => List.mem_append_right _ h
                      case zd => decide +kernel
                      case zu => decide +kernel
                      case zr =>
                        intro Dt t1 t2 c u1 u2 ext h41 tk41 F₄₂ N₄₂ z1 z2 z3 z4
                        have hst7 := hst6.ext z1 z2 (List.forall_mem_cons.mpr ⟨by rw [hIt6]; exact NoTab.krs _ _ _, List.forall_mem_cons.mpr ⟨NoTab.ns hC, List.forall_mem_cons.mpr ⟨NoTab.lst _, fun _ h => nomatch h⟩⟩⟩) z3
                        have mI : (I7, oI6) ∈ ext ++ ([(I7, oI6), (C, oC), (D, LCg.lst ys')] ++ TL6) := List.mem_append_right _ (.head _)
                        have mC : (C, oC) ∈ ext ++ ([(I7, oI6), (C, oC), (D, LCg.lst ys')] ++ TL6) := List.mem_append_right _ (.tail _ (.head _))
                        have mD : (D, LCg.lst ys') ∈ ext ++ ([(I7, oI6), (C, oC), (D, LCg.lst ys')] ++ TL6) := List.mem_append_right _ (.tail _ (.tail _ (.head _)))
                        have hsub : ∀ p ∈ (I7, oI6) :: (C, oC) :: (D, LCg.lst ys') :: (57, tabObj u1) :: (64, tabObj u2) :: (ext ++ TL6), p ∈ (Dt, ({ cls := .type "tuple", data := .seq #[.int ((nk : Int).fdiv (3 + (i : Int) * 4)) t1, .int ((nk : Int).fmod (3 + (i : Int) * 4)) t2] c } : Obj)) :: (57, tabObj u1) :: (64, tabObj u2) :: (ext ++ ([(I7, oI6), (C, oC), (D, LCg.lst ys')] ++ TL6)) := fun p hp => by
                          rcases List.mem_cons.mp hp with rfl | hp
                          · exact .tail _ (.tail _ (.tail _ mI))
                          · rcases List.mem_cons.mp hp with rfl | hp
                            · exact .tail _ (.tail _ (.tail _ mC))
                            · rcases List.mem_cons.mp hp with rfl | hp
                              · exact .tail _ (.tail _ (.tail _ mD))
                              · rcases List.mem_cons.mp hp with rfl | hp
                                · exact .tail _ (.head _)
                                · rcases List.mem_cons.mp hp with rfl | hp
                                  · exact .tail _ (.tail _ (.head _))
                                  · rcases List.mem_append.mp hp with hp | hp
                                    · exact .tail _ (.tail _ (.tail _ (List.mem_append_left _ hp)))
                                    · exact .tail _ (.tail _ (.tail _ (List.mem_append_right _ (List.mem_append_right _ hp))))
                        have hoff7 : LCg.Off3 I7 C D ((57, tabObj u1) :: (64, tabObj u2) :: (ext ++ TL6)) := LCg.Off3.of fun p hp => by
                          rcases List.mem_cons.mp hp with rfl | hp
                          · exact o57
                          · rcases List.mem_cons.mp hp with rfl | hp
                            · exact o64
                            · rcases List.mem_append.mp hp with hp | hp
                              · have z := (z3 p hp).2.2
                                exact ⟨Nat.ne_of_gt (z _ (.head _)), Nat.ne_of_gt (z _ (.tail _ (.head _))), Nat.ne_of_gt (z _ (.tail _ (.tail _ (.head _))))⟩
                              · exact o6T p hp
                        clear F₄₄ N₄₄ N₄₁
                        dsimp only
                        walk_at "mStepsP"
                        · rename Fr _ _ _ _ => F₄₃
                          rename News _ _ _ _ => N₄₃
                          rename (_ : Int) = 0 => hz
                          refine LCg.CompEnd.intro F₄₃ N₄₃ _ hsub hoff7 trivial ⟨?_, hi, u1, u2, _, rfl, hst7⟩
                          rw [List.length_append, hl', dvc, if_pos hz]
                          rfl
                        · rename Fr _ _ _ _ => F₄₃
                          rename News _ _ _ _ => N₄₃
                          rename ¬ (_ : Int) = 0 => hz
                          refine LCg.CompEnd.intro F₄₃ N₄₃ _ hsub hoff7 trivial ⟨?_, hi, u1, u2, _, rfl, hst7⟩
                          rw [hl', dvc, if_neg hz]
                          rfl
                      /-E-/
                    · rintro ys'' m₂ rest ⟨hl8, -, v1, v2, TL8, rfl, hst8⟩ D8 h49 tk49 F₄₉ N₄₉ o8
                      have hd3 := dvc_len nk 3 ((nk + 1) / 4)
                      generalize dvc nk 3 ((nk + 1) / 4) = d3 at hl8 hon hd3
                      dsimp only
                      have cob8 := hst8.1 _ (.tail _ bob)
                      have cD8 := hst8.1 _ (.head _)
                      walk_at "mStepsL"
                      refine kst_len (k := d3) N₄₉ (.head _) hl8 (by omega) ?_
                      walk_at "mStepsL"
                      rename News _ _ _ _ => N₅₁
                      refine kst_len (k := cn) N₅₁ (.tail _ (.tail _ (.tail _ cD8))) hl (by omega) ?_
                      walk_at "mStepsL"
                      · rename Fr _ _ _ _ => F₅₂
                        rename News _ _ _ _ => N₅₂
                        have hb : ((cn : Int) == 4 * ((d1 : Int) - (d3 : Int))) = true := by rw [beq_iff_eq]; split at hon <;> omega
                        dsimp only at hb ⊢
                        rw [hb]
                        refine ⟨?_, GrownAt.of N₅₂ (by k_dflt k_mem), GrownAt.of N₅₂ (by k_dflt k_mem), trivial⟩
                        refine ⟨.inl ⟨_, .bool true, [], rfl, fun _ => rfl, .bool true, ?_, fun _ => ⟨List.nodup_nil, fun _ h => nomatch h⟩⟩, F₅₂.keep, rfl, hg⟩
                        exact thePost nsc
                      · rename Fr _ _ _ _ => F₅₂
                        rename News _ _ _ _ => N₅₂
                        have hb : ((cn : Int) == 1) = true := by rw [beq_iff_eq]; split at hon <;> omega
                        dsimp only at hb ⊢
                        rw [hb]
                        refine ⟨?_, GrownAt.of N₅₂ (by k_dflt k_mem), GrownAt.of N₅₂ (by k_dflt k_mem), trivial⟩
                        refine ⟨.inl ⟨_, .bool true, [], rfl, fun _ => rfl, .bool true, ?_, fun _ => ⟨List.nodup_nil, fun _ h => nomatch h⟩⟩, F₅₂.keep, rfl, hg⟩
                        exact thePost nsc
                      )

end Mine

theorem PySem.Challenge.cw_hd0005_01_holds : PySem.Challenge.rw_hd0005_01.Holds :=
  Mine.theLaw

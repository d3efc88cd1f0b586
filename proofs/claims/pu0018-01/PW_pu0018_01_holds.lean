import PyProof.Rows.All
import Wide.All
import OpenK.AllK
import Wide.FinOn
import Lean
import PySem.Challenge.RW_pu0018_01
set_option Elab.async false
namespace Mine
section
open PySem PySem.W PyProof.Rows
set_option maxRecDepth 100000
set_option maxHeartbeats 8000000
open_top hd for PySem.Challenge.rw_pu0018_01
end
local macro_rules | `(tactic| is_list) => `(tactic| k_extra "my is_list")
local macro_rules | `(tactic| walk_at "call ref") => `(tactic| k_extra "my call ref")
local macro_rules | `(tactic| k_mem) => `(tactic| k_extra "my k_mem")
local macro_rules | `(tactic| walk_at "call builtin:list.insert") => `(tactic| k_extra "my call builtin:list.insert")
local macro_rules | `(tactic| walk_at "eval ListComp") => `(tactic| k_extra "my eval ListComp")
local macro_rules | `(tactic| news_mem) => `(tactic| k_extra "my news_mem")
local macro_rules | `(tactic| walk_at "pyIter ref") => `(tactic| k_extra "my pyIter ref")
local macro_rules | `(tactic| walk_at "call type:list") => `(tactic| k_extra "my call type:list")
local macro_rules | `(tactic| walk_at "execs cons") => `(tactic| k_extra "my execs cons")
local macro_rules | `(tactic| walk_at "subscriptTail Name Slice str ref") => `(tactic| k_extra "my subscriptTail Name Slice str ref")
local macro_rules | `(tactic| walk_at "exec While BoolOp cons nil") => `(tactic| k_extra "my exec While BoolOp cons nil")
local macro_rules | `(tactic| walk_at "subscriptTail Name Slice ref ref") => `(tactic| k_extra "my subscriptTail Name Slice ref ref")
local macro_rules | `(tactic| walk_at "exec For Name Subscript cons nil") => `(tactic| k_extra "my exec For Name Subscript cons nil")
local macro_rules | `(tactic| walk_at "call builtin:sorted") => `(tactic| k_extra "my call builtin:sorted")
section
open PySem PySem.W PyProof.Rows
noncomputable abbrev PR : Program := PySem.Challenge.rw_pu0018_01.row.prog
noncomputable abbrev LO : List Str := looseW hd.view_39 [Str.ofString "insort_right", Str.ofString "bisect_right"]
/-- a def's contract: it hands back a value and leaves the ledger as it was -/
abbrev Ct (w : World) (mean : ExcName → Option Value) (mg mb : Str → Option Value) (f : Addr) (vs : List Value) (kw : List (Str × Value)) (news : List (Addr × Obj)) (dd uu : Nat)
    (Post : Value → Prop) : Prop :=
  ∀ (dp un : Nat) (gd : Option (List Code)) (cn : Str) (cs : Scope) (a : Addr) (ccd : Value) (cl : List (Str × Addr)) (outer : List Env) (A₀ : Around) (base h₀ : Heap) (L : Addr) (m : Str → Option Value) (s : Shared) (Q E : Value → Shared → Prop),
    Below A₀ base outer h₀ → Fr h₀ L s.heap m → (hd.heap_39 w.params).In h₀ → News h₀ L s.heap news → Top hd.view_39 LO mean mg mb h₀ → cs.kind = .function →
    dp + dd < recursionLimit → un + uu < cLine →
    (∀ (r : Value) (h' : Heap) (tk' : Nat), Fr h₀ L h' m → News h₀ L h' news → Post r → Q r { s with heap := h', toks := tk' }) →
    wpAny (model PR w) (ktrTop dp un gd cn cs L a ccd cl outer) (call (.ref f) vs kw) Q E s
/-- a def's contract: it hands back a value and another ledger -/
abbrev CtN (w : World) (mean : ExcName → Option Value) (mg mb : Str → Option Value) (f : Addr) (vs : List Value) (kw : List (Str × Value)) (news : List (Addr × Obj)) (dd uu : Nat)
    (Post : Value → List (Addr × Obj) → Prop) : Prop :=
  ∀ (dp un : Nat) (gd : Option (List Code)) (cn : Str) (cs : Scope) (a : Addr) (ccd : Value) (cl : List (Str × Addr)) (outer : List Env) (A₀ : Around) (base h₀ : Heap) (L : Addr) (m : Str → Option Value) (s : Shared) (Q E : Value → Shared → Prop),
    Below A₀ base outer h₀ → Fr h₀ L s.heap m → (hd.heap_39 w.params).In h₀ → News h₀ L s.heap news → Top hd.view_39 LO mean mg mb h₀ → cs.kind = .function →
    dp + dd < recursionLimit → un + uu < cLine →
    (∀ (r : Value) (news' : List (Addr × Obj)) (h' : Heap) (tk' : Nat), Fr h₀ L h' m → News h₀ L h' news' → Post r news' → Q r { s with heap := h', toks := tk' }) →
    wpAny (model PR w) (ktrTop dp un gd cn cs L a ccd cl outer) (call (.ref f) vs kw) Q E s
end
section
open PySem PySem.W PyProof.Rows
set_option maxRecDepth 100000
set_option maxHeartbeats 4000000
theorem key_ct {w mean mg mb} (news) (x : Int) (t : Tok) : Ct w mean mg mb 79 [.int x t] [] news 1 8 (fun r => ∃ t', r = .int (-(x.fdiv 4)) t') := by
  unfold Ct PR
  w_top off
  k_with_none
  k_fill
  intro dp un gd cn cs a ccd cl outer A₀ base h₀ L m s Q E B F X N T hk hd hu hret
  refine wpAny_call ?_
  k_dflt cell_enter
  k_with_none
  k_steps
  all_goals exact hret _ _ _ (by k_asm) (by k_asm) ⟨_, rfl⟩
/-- the cost of a sign put for a sign -/
noncomputable def subC (x y : Str) : Int := if x = y then 0 else if Txt.lower x = Txt.lower y then 1 else 2
theorem subC0 {x y : Str} (h : (x == y) = true) : (0 : Int) = subC x y := by rw [subC, if_pos (eq_of_beq h)]
theorem subC1 {x y : Str} (h : (x == y) = false) (h' : (Txt.lower x == Txt.lower y) = true) : (1 : Int) = subC x y := by
  rw [subC, if_neg (ne_of_beq_false h), if_pos (eq_of_beq h')]
theorem subC2 {x y : Str} (h : (x == y) = false) (h' : (Txt.lower x == Txt.lower y) = false) : (2 : Int) = subC x y := by
  rw [subC, if_neg (ne_of_beq_false h), if_neg (ne_of_beq_false h')]
theorem subst_ct {w mean mg mb} (news) (x y : Str) (t u : Tok) (hx : x.length ≤ 100) (hy : y.length ≤ 100) : Ct w mean mg mb 21 [.str x t, .str y u] [] news 1 8 (fun r => ∃ t', r = .int (subC x y) t') := by
  unfold Ct PR
  w_top off
  k_with_none
  k_fill
  intro dp un gd cn cs a ccd cl outer A₀ base h₀ L m s Q E B F X N T hk hd hu hret
  refine wpAny_call ?_
  k_dflt cell_enter
  k_with_none
  k_steps
  all_goals (refine hret _ _ _ (by k_asm) (by k_asm) ⟨_, congrArg (fun v => Value.int v _) ?_⟩; first | exact subC0 (by assumption) | exact subC1 (by assumption) (by assumption) | exact subC2 (by assumption) (by assumption))
end
section
open PySem PySem.W PyProof.Rows
set_option maxRecDepth 100000
set_option maxHeartbeats 4000000
noncomputable def kf (v : Int) : Int := -(v.fdiv 4)
noncomputable def Bis (ns : List Int) (x lo hi : Int) : Prop := (∀ i : Nat, (i : Int) < lo → kf (ns.getD i 0) ≤ x) ∧ (∀ i : Nat, hi ≤ (i : Int) → i < ns.length → x < kf (ns.getD i 0))
theorem mono_of {ns : List Int} (hs : ns.Pairwise fun a b => kf a ≤ kf b) {i j : Nat} (hij : i ≤ j) (hj : j < ns.length) : kf (ns.getD i 0) ≤ kf (ns.getD j 0) := by
  have hi : i < ns.length := by omega
  have gd : ∀ i (h : i < ns.length), ns.getD i 0 = ns[i] := fun i h => by simp [List.getD_eq_getElem?_getD, h]
  rw [gd i hi, gd j hj]
  rcases Nat.lt_or_eq_of_le hij with h | h
  · exact List.pairwise_iff_getElem.mp hs i j hi hj h
  · subst h; exact Int.le_refl _
theorem bis_start (ns : List Int) (x : Int) : (0 : Int) ≤ 0 ∧ (0 : Int) ≤ (ns.length : Int) ∧ (ns.length : Int) ≤ (ns.length : Int) ∧ Bis ns x 0 (ns.length : Int) :=
  ⟨by omega, by omega, by omega, fun i h => by omega, fun i h h' => by omega⟩
theorem bis_left {ns : List Int} {x lo hi : Int} (hs : ns.Pairwise fun a b => kf a ≤ kf b) (h0 : 0 ≤ lo) (_h1 : lo ≤ hi) (h2 : hi ≤ (ns.length : Int)) (hB : Bis ns x lo hi) (hlt : lo < hi) (hc : x < -(ns.getD ((lo + hi).fdiv 2).toNat 0).fdiv 4) :
    0 ≤ lo ∧ lo ≤ (lo + hi).fdiv 2 ∧ (lo + hi).fdiv 2 ≤ (ns.length : Int) ∧ Bis ns x lo ((lo + hi).fdiv 2) := by
  have e : (lo + hi).fdiv 2 = (lo + hi) / 2 := by rw [Int.fdiv_eq_ediv_of_nonneg _ (by omega)]
  rw [e] at hc ⊢
  refine ⟨h0, by omega, by omega, hB.1, fun i hi' hl => ?_⟩
  exact Int.lt_of_lt_of_le hc (mono_of hs (by omega) hl)
theorem bis_right {ns : List Int} {x lo hi : Int} (hs : ns.Pairwise fun a b => kf a ≤ kf b) (h0 : 0 ≤ lo) (_h1 : lo ≤ hi) (h2 : hi ≤ (ns.length : Int)) (hB : Bis ns x lo hi) (hlt : lo < hi) (hc : ¬ x < -(ns.getD ((lo + hi).fdiv 2).toNat 0).fdiv 4) :
    0 ≤ (lo + hi).fdiv 2 + 1 ∧ (lo + hi).fdiv 2 + 1 ≤ hi ∧ hi ≤ (ns.length : Int) ∧ Bis ns x ((lo + hi).fdiv 2 + 1) hi := by
  have e : (lo + hi).fdiv 2 = (lo + hi) / 2 := by rw [Int.fdiv_eq_ediv_of_nonneg _ (by omega)]
  rw [e] at hc ⊢
  refine ⟨by omega, by omega, h2, fun i hi' => ?_, hB.2⟩
  exact Int.le_trans (mono_of hs (i := i) (j := ((lo + hi) / 2).toNat) (by omega) (by omega)) (Int.not_lt.mp hc)
/-- how many keys are at most x -/
noncomputable def cntK (ns : List Int) (x : Int) : Nat := ns.countP fun v => decide (kf v ≤ x)
theorem cnt_of : ∀ (ns : List Int) (x : Int) (k : Nat), k ≤ ns.length → (∀ i : Nat, i < k → kf (ns.getD i 0) ≤ x) → (∀ i : Nat, k ≤ i → i < ns.length → x < kf (ns.getD i 0)) → k = cntK ns x
  | [], x, k, hk, _, _ => by simp at hk; subst hk; rfl
  | v :: ns, x, 0, _, _, h2 => by
    have hv : x < kf v := by simpa using h2 0 (Nat.le_refl _) (by simp)
    have ih := cnt_of ns x 0 (Nat.zero_le _) (fun i hi => absurd hi (Nat.not_lt_zero _)) (fun i _ hi => by simpa using h2 (i + 1) (Nat.zero_le _) (by simpa using hi))
    rw [cntK, List.countP_cons_of_neg (by simp; omega)]
    exact ih
  | v :: ns, x, k + 1, hk, h1, h2 => by
    have hv : kf v ≤ x := by simpa using h1 0 (by omega)
    have ih := cnt_of ns x k (by simpa using hk) (fun i hi => by simpa using h1 (i + 1) (by omega)) (fun i hi hl => by simpa using h2 (i + 1) (by omega) (by simpa using hl))
    rw [cntK, List.countP_cons_of_pos (by simpa using hv), ih]
    rfl
theorem bis_end {ns : List Int} {x lo hi : Int} (h0 : 0 ≤ lo) (h1 : lo ≤ hi) (h2 : hi ≤ (ns.length : Int)) (hB : Bis ns x lo hi) (hlt : ¬ lo < hi) : lo = ((cntK ns x : Nat) : Int) := by
  have := cnt_of ns x lo.toNat (by omega) (fun i hi' => hB.1 i (by omega)) (fun i hi' hl => hB.2 i (by omega) hl)
  omega
theorem bis_ct {w mean mg mb} (news : List (Addr × Obj)) (l : Addr) (vs : List Value) (ns : List Int) (n : Nat) (x : Int) (t : Tok) (hl : (l, listOf vs.toArray n) ∈ news) (hi : IntsAre vs ns) (hz : ns.length ≤ 100) (hs : ns.Pairwise fun a b => kf a ≤ kf b) :
   Ct w mean mg mb 46 [.ref l, .int x t] [(Str.ofString "key", .ref 79)] news 2 16 (fun r => ∃ t', r = .int ((cntK ns x : Nat) : Int) t') := by
  unfold Ct PR
  w_top off
  k_with_none
  k_with "my is_list" => exact News.isList (by assumption) (by assumption)
  k_with "my call ref" => ((with_reducible show wpAny _ _ (call (Value.ref 79) [Value.int _ _]) _ _ _); k_dflt (refine' key_ct _ _ _ _ _ _ _ _ _ _ _ _ _ _ _ _ _ _ _ _ ?k1 ?k2 ?k3 ?k4 ?k5 ?kK ?kd ?ku ?_; (case k1 => k_asm); (case k2 => k_asm); (case k3 => k_asm); (case k4 => k_asm); (case k5 => k_asm); (case kK => first | exact rfl | assumption); (case kd => ktr_room); (case ku => ktr_units)); intro r9 h9 tk9 F9 N9 hp9; obtain ⟨t9, e8⟩ := hp9; subst e8; (try dsimp only); (try k_fold))
  k_fill
  intro dp un gd cn cs a ccd cl outer A₀ base h₀ L m s Q E B F X N T hk hd hu hret
  refine wpAny_call ?_
  k_dflt (refine' code_def ?k1 ?k2 ?k3 ?k4 ?k5 ?kA ?kF ?kK ?k6 ?k7 ?k8 ?k9 ?kB ?_ ?c2 ?c3 ?c4 ?c5; (case kA => exact rfl); (case kF => exact rfl); (case kK => assumption); (case k1 => k_asm); (case k2 => k_asm); (case k3 => k_asm); (case k4 => k_asm); (case k5 => k_asm); (case k6 => k_is); (case k7 => k_is); (case k8 => ktr_room); (case k9 => first | exact BindsTo.of_eq rfl | exact binds_K (by k_in) rfl (by k_is) rfl rfl rfl); (case c5 => decide); (case kB => exact locs rfl); (case c2 => exact rfl); (case c3 => exact rfl); (case c4 => exact rfl); k_whole; intro g' L' h' FG' F' N' B' X' T'; (try dsimp only); (try k_lift B'); (try k_fold))
  k_with_none
  k_with "my is_list" => exact News.isList (by assumption) (by assumption)
  k_with "my call ref" => ((with_reducible show wpAny _ _ (call (Value.ref 79) [Value.int _ _]) _ _ _); k_dflt (refine' key_ct _ _ _ _ _ _ _ _ _ _ _ _ _ _ _ _ _ _ _ _ ?k1 ?k2 ?k3 ?k4 ?k5 ?kK ?kd ?ku ?_; (case k1 => k_asm); (case k2 => k_asm); (case k3 => k_asm); (case k4 => k_asm); (case k5 => k_asm); (case kK => first | exact rfl | assumption); (case kd => ktr_room); (case ku => ktr_units)); intro r9 h9 tk9 F9 N9 hp9; obtain ⟨t9, e8⟩ := hp9; subst e8; (try dsimp only); (try k_fold))
  k_with "exec While Compare cons nil" => k_while (fun ns lo hi => 0 ≤ lo ∧ lo ≤ hi ∧ hi ≤ (ns.length : Int) ∧ Bis ns x lo hi) (fun _ lo hi => (hi - lo).toNat) "lo" "hi"
  k_with "state" => first | exact bis_start _ _ | exact bis_left hs (by assumption) (by assumption) (by assumption) (by assumption) (by assumption) (by assumption) | exact bis_right hs (by assumption) (by assumption) (by assumption) (by assumption) (by assumption) (by assumption)
  k_with "measure" => (rw [Int.fdiv_eq_ediv_of_nonneg _ (by omega)]; omega)
  k_steps
  all_goals exact hret _ _ _ (by k_asm) (by k_asm) ⟨_, congrArg (fun v => Value.int v _) (bis_end (by assumption) (by assumption) (by assumption) (by assumption) (by assumption))⟩
theorem bis4_ct {w mean mg mb} (news : List (Addr × Obj)) (l : Addr) (vs : List Value) (ns : List Int) (n : Nat) (x : Int) (t t0 : Tok) (hl : (l, listOf vs.toArray n) ∈ news) (hi : IntsAre vs ns) (hz : ns.length ≤ 100) (hs : ns.Pairwise fun a b => kf a ≤ kf b) :
   Ct w mean mg mb 46 [.ref l, .int x t, .int 0 t0, .none] [(Str.ofString "key", .ref 79)] news 2 16 (fun r => ∃ t', r = .int ((cntK ns x : Nat) : Int) t') := by
  unfold Ct PR
  w_top off
  k_with_none
  k_with "my is_list" => exact News.isList (by assumption) (by assumption)
  k_with "my call ref" => ((with_reducible show wpAny _ _ (call (Value.ref 79) [Value.int _ _]) _ _ _); k_dflt (refine' key_ct _ _ _ _ _ _ _ _ _ _ _ _ _ _ _ _ _ _ _ _ ?k1 ?k2 ?k3 ?k4 ?k5 ?kK ?kd ?ku ?_; (case k1 => k_asm); (case k2 => k_asm); (case k3 => k_asm); (case k4 => k_asm); (case k5 => k_asm); (case kK => first | exact rfl | assumption); (case kd => ktr_room); (case ku => ktr_units)); intro r9 h9 tk9 F9 N9 hp9; obtain ⟨t9, e8⟩ := hp9; subst e8; (try dsimp only); (try k_fold))
  k_fill
  intro dp un gd cn cs a ccd cl outer A₀ base h₀ L m s Q E B F X N T hk hd hu hret
  refine wpAny_call ?_
  k_dflt (refine' code_def ?k1 ?k2 ?k3 ?k4 ?k5 ?kA ?kF ?kK ?k6 ?k7 ?k8 ?k9 ?kB ?_ ?c2 ?c3 ?c4 ?c5; (case kA => exact rfl); (case kF => exact rfl); (case kK => assumption); (case k1 => k_asm); (case k2 => k_asm); (case k3 => k_asm); (case k4 => k_asm); (case k5 => k_asm); (case k6 => k_is); (case k7 => k_is); (case k8 => ktr_room); (case k9 => first | exact BindsTo.of_eq rfl | exact binds_K (by k_in) rfl (by k_is) rfl rfl rfl); (case c5 => decide); (case kB => exact locs rfl); (case c2 => exact rfl); (case c3 => exact rfl); (case c4 => exact rfl); k_whole; intro g' L' h' FG' F' N' B' X' T'; (try dsimp only); (try k_lift B'); (try k_fold))
  k_with_none
  k_with "my is_list" => exact News.isList (by assumption) (by assumption)
  k_with "my call ref" => ((with_reducible show wpAny _ _ (call (Value.ref 79) [Value.int _ _]) _ _ _); k_dflt (refine' key_ct _ _ _ _ _ _ _ _ _ _ _ _ _ _ _ _ _ _ _ _ ?k1 ?k2 ?k3 ?k4 ?k5 ?kK ?kd ?ku ?_; (case k1 => k_asm); (case k2 => k_asm); (case k3 => k_asm); (case k4 => k_asm); (case k5 => k_asm); (case kK => first | exact rfl | assumption); (case kd => ktr_room); (case ku => ktr_units)); intro r9 h9 tk9 F9 N9 hp9; obtain ⟨t9, e8⟩ := hp9; subst e8; (try dsimp only); (try k_fold))
  k_with "exec While Compare cons nil" => k_while (fun ns lo hi => 0 ≤ lo ∧ lo ≤ hi ∧ hi ≤ (ns.length : Int) ∧ Bis ns x lo hi) (fun _ lo hi => (hi - lo).toNat) "lo" "hi"
  k_with "state" => first | exact bis_start _ _ | exact bis_left hs (by assumption) (by assumption) (by assumption) (by assumption) (by assumption) (by assumption) | exact bis_right hs (by assumption) (by assumption) (by assumption) (by assumption) (by assumption) (by assumption)
  k_with "measure" => (rw [Int.fdiv_eq_ediv_of_nonneg _ (by omega)]; omega)
  k_steps
  all_goals exact hret _ _ _ (by k_asm) (by k_asm) ⟨_, congrArg (fun v => Value.int v _) (bis_end (by assumption) (by assumption) (by assumption) (by assumption) (by assumption))⟩
end
section
open PySem PySem.W PyProof.Rows
set_option maxRecDepth 100000
set_option maxHeartbeats 4000000
/-- a def's contract: it hands back a value and turns the ledger into another -/
abbrev CtU (w : World) (mean : ExcName → Option Value) (mg mb : Str → Option Value) (f : Addr) (vs : List Value) (kw : List (Str × Value)) (news news' : List (Addr × Obj)) (dd uu : Nat)
    (Post : Value → Prop) : Prop :=
  ∀ (dp un : Nat) (gd : Option (List Code)) (cn : Str) (cs : Scope) (a : Addr) (ccd : Value) (cl : List (Str × Addr)) (outer : List Env) (A₀ : Around) (base h₀ : Heap) (L : Addr) (m : Str → Option Value) (s : Shared) (Q E : Value → Shared → Prop),
    Below A₀ base outer h₀ → Fr h₀ L s.heap m → (hd.heap_39 w.params).In h₀ → News h₀ L s.heap news → Top hd.view_39 LO mean mg mb h₀ → cs.kind = .function →
    dp + dd < recursionLimit → un + uu < cLine →
    (∀ (r : Value) (h' : Heap) (tk' : Nat), Fr h₀ L h' m → News h₀ L h' news' → Post r → Q r { s with heap := h', toks := tk' }) →
    wpAny (model PR w) (ktrTop dp un gd cn cs L a ccd cl outer) (call (.ref f) vs kw) Q E s
theorem cnt_fits {ns : List Int} {x : Int} (hz : ns.length ≤ 100) : Builtin.List.listFitsIndex ((cntK ns x : Nat) : Int) = true := by
  have h : cntK ns x ≤ ns.length := List.countP_le_length
  simp only [Builtin.List.listFitsIndex, Bool.and_eq_true, decide_eq_true_eq]
  omega
theorem len_room {vs : List Value} {ns : List Int} (hi : IntsAre vs ns) (hz : ns.length ≤ 100) : vs.toArray.toList.length ≤ sizeLine := by
  have h := hi.length
  rw [sizeLine_eq]
  simp only [List.length_map] at *
  omega
theorem upd_mem {d : Addr} {o o' : Obj} {l l' : List (Addr × Obj)} (u : Upd d o o' l l') : (d, o) ∈ l := by
  obtain ⟨pre, post, rfl, _, _, _⟩ := u.split
  exact List.mem_append.mpr (.inr (.head _))
theorem ins_ct {w mean mg mb} (news news' : List (Addr × Obj)) (l : Addr) (vs : List Value) (ns : List Int) (n : Nat) (x : Int) (t : Tok)
   (hU : Upd l (listOf vs.toArray n) (listOf (kl_ins vs ((cntK ns (-(x.fdiv 4)) : Nat) : Int) (.int x t)).toArray (n + 1)) news news') (hi : IntsAre vs ns) (hz : ns.length ≤ 100) (hs : ns.Pairwise fun a b => kf a ≤ kf b) :
   CtU w mean mg mb 37 [.ref l, .int x t] [(Str.ofString "key", .ref 79)] news news' 3 24 (fun r => r = .none) := by
  have hl := upd_mem hU
  unfold CtU PR
  w_top off
  k_with_none
  k_with "my k_mem" => assumption
  k_with "my is_list" => exact News.isList (by assumption) (by assumption)
  k_with "my call ref" => ((with_reducible show wpAny _ _ (call (Value.ref 79) [Value.int _ _]) _ _ _); k_dflt (refine' key_ct _ _ _ _ _ _ _ _ _ _ _ _ _ _ _ _ _ _ _ _ ?k1 ?k2 ?k3 ?k4 ?k5 ?kK ?kd ?ku ?_; (case k1 => k_asm); (case k2 => k_asm); (case k3 => k_asm); (case k4 => k_asm); (case k5 => k_asm); (case kK => first | exact rfl | assumption); (case kd => ktr_room); (case ku => ktr_units)); intro r9 h9 tk9 F9 N9 hp9; obtain ⟨t9, e8⟩ := hp9; subst e8; (try dsimp only); (try k_fold))
  k_with "my call ref" => (k_dflt (refine' bis4_ct _ _ _ _ _ _ _ _ ?hl ?hi ?hz ?hs _ _ _ _ _ _ _ _ _ _ _ _ _ _ _ _ _ ?k1 ?k2 ?k3 ?k4 ?k5 ?kK ?kd ?ku ?_; (case hl => assumption); (case hi => assumption); (case hz => assumption); (case hs => assumption); (case k1 => k_asm); (case k2 => k_asm); (case k3 => k_asm); (case k4 => k_asm); (case k5 => k_asm); (case kK => first | exact rfl | assumption); (case kd => ktr_room); (case ku => ktr_units)); intro r9 h9 tk9 F9 N9 hp9; obtain ⟨t9, e8⟩ := hp9; subst e8; (try dsimp only); (try k_fold))
  k_with "my call builtin:list.insert" => ((with_reducible show wpAny _ _ (call (Value.builtin _) [Value.ref _, Value.int _ _, _]) _ _ _); k_dflt (refine' kl_insert ?F ?N ?f ?e ?U ?z ?_; (case U => assumption); (case F => k_asm); (case N => k_asm); (case f => exact cnt_fits (by assumption)); (case e => rfl); (case z => exact len_room (by assumption) (by assumption))); intro h' F' N')
  k_fill
  intro dp un gd cn cs a ccd cl outer A₀ base h₀ L m s Q E B F X N T hk hd hu hret
  refine wpAny_call ?_
  k_dflt (refine' code_def ?k1 ?k2 ?k3 ?k4 ?k5 ?kA ?kF ?kK ?k6 ?k7 ?k8 ?k9 ?kB ?_ ?c2 ?c3 ?c4 ?c5; (case kA => exact rfl); (case kF => exact rfl); (case kK => assumption); (case k1 => k_asm); (case k2 => k_asm); (case k3 => k_asm); (case k4 => k_asm); (case k5 => k_asm); (case k6 => k_is); (case k7 => k_is); (case k8 => ktr_room); (case k9 => first | exact BindsTo.of_eq rfl | exact binds_K (by k_in) rfl (by k_is) rfl rfl rfl); (case c5 => decide); (case kB => exact locs rfl); (case c2 => exact rfl); (case c3 => exact rfl); (case c4 => exact rfl); k_whole; intro g' L' h' FG' F' N' B' X' T'; (try dsimp only); (try k_lift B'); (try k_fold))
  k_with_none
  k_with "my k_mem" => assumption
  k_with "my is_list" => exact News.isList (by assumption) (by assumption)
  k_with "my call ref" => ((with_reducible show wpAny _ _ (call (Value.ref 79) [Value.int _ _]) _ _ _); k_dflt (refine' key_ct _ _ _ _ _ _ _ _ _ _ _ _ _ _ _ _ _ _ _ _ ?k1 ?k2 ?k3 ?k4 ?k5 ?kK ?kd ?ku ?_; (case k1 => k_asm); (case k2 => k_asm); (case k3 => k_asm); (case k4 => k_asm); (case k5 => k_asm); (case kK => first | exact rfl | assumption); (case kd => ktr_room); (case ku => ktr_units)); intro r9 h9 tk9 F9 N9 hp9; obtain ⟨t9, e8⟩ := hp9; subst e8; (try dsimp only); (try k_fold))
  k_with "my call ref" => (k_dflt (refine' bis4_ct _ _ _ _ _ _ _ _ ?hl ?hi ?hz ?hs _ _ _ _ _ _ _ _ _ _ _ _ _ _ _ _ _ ?k1 ?k2 ?k3 ?k4 ?k5 ?kK ?kd ?ku ?_; (case hl => assumption); (case hi => assumption); (case hz => assumption); (case hs => assumption); (case k1 => k_asm); (case k2 => k_asm); (case k3 => k_asm); (case k4 => k_asm); (case k5 => k_asm); (case kK => first | exact rfl | assumption); (case kd => ktr_room); (case ku => ktr_units)); intro r9 h9 tk9 F9 N9 hp9; obtain ⟨t9, e8⟩ := hp9; subst e8; (try dsimp only); (try k_fold))
  k_with "my call builtin:list.insert" => ((with_reducible show wpAny _ _ (call (Value.builtin _) [Value.ref _, Value.int _ _, _]) _ _ _); k_dflt (refine' kl_insert ?F ?N ?f ?e ?U ?z ?_; (case U => assumption); (case F => k_asm); (case N => k_asm); (case f => exact cnt_fits (by assumption)); (case e => rfl); (case z => exact len_room (by assumption) (by assumption))); intro h' F' N')
  k_steps
  all_goals exact hret _ _ _ (by k_asm) (by k_asm) rfl
end
section
open PySem PySem.W PyProof.Rows
set_option maxRecDepth 100000
set_option maxHeartbeats 4000000
theorem fig_start : ([0, 3, 3, 0, 2, 5, 4] : List Int).length = 7 ∧ ∀ f ∈ ([0, 3, 3, 0, 2, 5, 4] : List Int), 0 ≤ f ∧ f < 6 := by decide
theorem fig_turn {fs : List Int} {i : Nat} {z : Int} (h1 : fs.length = 7) (h2 : ∀ f ∈ fs, 0 ≤ f ∧ f < 6) : (fs.set i (z.fmod 6)).length = 7 ∧ ∀ f ∈ fs.set i (z.fmod 6), 0 ≤ f ∧ f < 6 := by
  refine ⟨by rw [List.length_set]; exact h1, fun f hf => ?_⟩
  rcases List.mem_or_eq_of_mem_set hf with h | h
  · exact h2 f h
  · subst h
    exact ⟨Int.fmod_nonneg_of_pos _ (by decide), Int.fmod_lt_of_pos _ (by decide)⟩
theorem fig_ct {w mean mg mb} (news : List (Addr × Obj)) (l : Addr) (vs : List Value) (ns : List Int) (hi : IntsAre vs ns) (hz : ns.length ≤ 63) :
  ∀ (dp un : Nat) (gd : Option (List Code)) (cn : Str) (cs : Scope) (a : Addr) (ccd : Value) (cl : List (Str × Addr)) (outer : List Env) (A₀ : Around) (base h₀ : Heap) (L : Addr) (m : Str → Option Value) (s : Shared) (Q E : Value → Shared → Prop),
    base.IsList l vs.toArray → Below A₀ base outer h₀ → Fr h₀ L s.heap m → (hd.heap_39 w.params).In h₀ → News h₀ L s.heap news → Top hd.view_39 LO mean mg mb h₀ → cs.kind = .function →
    dp + 1 < recursionLimit → un + 8 < cLine →
    (∀ (l' : Addr) (vs' : List Value) (fs : List Int) (n' : Nat) (h' : Heap) (tk' : Nat), Fr h₀ L h' m → News h₀ L h' ((l', listOf vs'.toArray n') :: news) → (∀ p ∈ news, p.1 < l') → IntsAre vs' fs → fs.length = 7 → (∀ f ∈ fs, 0 ≤ f ∧ f < 6) → Q (.ref l') { s with heap := h', toks := tk' }) →
    wpAny (model PR w) (ktrTop dp un gd cn cs L a ccd cl outer) (call (.ref 53) [.ref l]) Q E s := by
  unfold PR
  w_top off
  k_with_none
  k_fill
  intro dp un gd cn cs a ccd cl outer A₀ base h₀ L m s Q E hL B F X N T hk hd hu hret
  refine wpAny_call ?_
  k_dflt cell_enter
  k_with_none
  k_with "pyIter ref" => k_state (fun pre fs => fs.length = 7 ∧ ∀ f ∈ fs, 0 ≤ f ∧ f < 6) "figures"
  k_with "state" => first | exact fig_start | exact fig_turn (by assumption) (by assumption)
  k_steps
  all_goals exact hret _ _ _ _ _ _ (by k_asm) (by k_asm) (by assumption) (by assumption) (by assumption) (by assumption)
end
section
open PySem PySem.W PyProof.Rows
set_option maxRecDepth 100000
set_option maxHeartbeats 4000000
noncomputable def code6 (k : Int) : Nat := [97, 65, 107, 75, 123, 91].getD k.toNat 0
noncomputable def chS (k : Int) : Str := Txt.item (Str.ofString "aAkK{[") k
theorem chS_eq {k : Int} (h0 : 0 ≤ k) (h6 : k < 6) : chS k = Str.mk #[code6 k] := by
  have : k = 0 ∨ k = 1 ∨ k = 2 ∨ k = 3 ∨ k = 4 ∨ k = 5 := by omega
  rcases this with h | h | h | h | h | h <;> subst h <;> decide +kernel
theorem fold_codes : ∀ (ns : List Int) (acc : List Nat), (∀ f ∈ ns, 0 ≤ f ∧ f < 6) →
    (ns.map chS).foldl (fun acc p => acc ++ (Str.ofString "").cps ++ p.cps) acc.toArray = (acc ++ ns.map code6).toArray
  | [], acc, _ => by simp
  | k :: r, acc, h => by
    have hk := h k (by simp)
    have e : (Str.ofString "").cps = #[] := by decide +kernel
    rw [List.map_cons, List.foldl_cons, chS_eq hk.1 hk.2, e]
    have := fold_codes r (acc ++ [code6 k]) (fun f hf => h f (by simp [hf]))
    rw [e] at this
    simpa using this
theorem join_codes (ns : List Int) (h : ∀ f ∈ ns, 0 ≤ f ∧ f < 6) : Txt.join (Str.ofString "") (ns.map chS) = Str.mk (ns.map code6).toArray := by
  unfold Txt.join Builtin.Str.glued
  cases ns with
  | nil => rfl
  | cons k r =>
    have hk := h k (by simp)
    have := fold_codes r [code6 k] (fun f hf => h f (by simp [hf]))
    simp only [List.map_cons, List.drop_succ_cons, List.drop_zero, List.headD_cons, chS_eq hk.1 hk.2]
    exact congrArg Str.mk (by simpa using this)
theorem arr_room {vs : List Value} {ns : List Int} (hi : IntsAre vs ns) (hz : ns.length ≤ 10) : vs.toArray.size ≤ sizeLine := by
  have h := hi.length
  rw [sizeLine_eq, List.size_toArray]
  omega
theorem bnd6 {ns : List Int} (h : ∀ f ∈ ns, 0 ≤ f ∧ f < 6) {k : Int} (hk : k ∈ ns) : 0 ≤ k ∧ k < 6 := h k hk
theorem txt_ct {w mean mg mb} (news : List (Addr × Obj)) (l : Addr) (vs : List Value) (ns : List Int) (n : Nat) (hl : (l, listOf vs.toArray n) ∈ news) (hi : IntsAre vs ns) (hz : ns.length ≤ 10) (hr : ∀ f ∈ ns, 0 ≤ f ∧ f < 6) :
   Ct w mean mg mb 58 [.ref l] [] news 2 16 (fun r => ∃ t', r = .str (Str.mk (ns.map code6).toArray) t') := by
  unfold Ct PR
  w_top off
  k_with_none
  k_with "my is_list" => exact News.isList (by assumption) (by assumption)
  k_with "my eval ListComp" => (k_dflt (refine LCg.ListComp_U (F₀ := by k_asm) (by with_unfolding_all rfl) (by decide) (by rfl) (by decide) (by rfl) ?_))
  k_fill
  intro dp un gd cn cs a ccd cl outer A₀ base h₀ L m s Q E B F X N T hk hd hu hret
  refine wpAny_call ?_
  k_dflt cell_enter
  k_with_none
  k_with "my is_list" => exact News.isList (by assumption) (by assumption)
  k_with "my eval ListComp" => (k_dflt (refine LCg.ListComp_U (F₀ := by k_asm) (by with_unfolding_all rfl) (by decide) (by rfl) (by decide) (by rfl) ?_))
  k_steps
  · k_dflt refine LCg.CompSrc.ledger (by rfl) (by k_asm) (by k_asm) (by assumption) (by exact arr_room (by assumption) (by assumption)) ?_
    intro g'
    k_dflt refine' kct_list chS (by assumption) (fun k' t' I' oI' C' oC' D' m' ys' h' tk' E' hk' hC' hx' F' N' off' ne' => ?_) ?_
    · intro hMark'
      obtain ⟨hb1', hb2'⟩ := bnd6 hr hk'
      k_steps
      exact LCg.CompEnd.intro (by k_asm) (by k_asm) _ (fun p hp => hp) off' (.inr ⟨_, hl, rfl, _, rfl⟩) ⟨rfl, _, rfl⟩
    · k_steps
      all_goals exact hret _ _ _ (by k_asm) (cb_drop (by k_asm) (fun p hp => List.mem_cons_of_mem _ hp)) ⟨_, congrArg (fun v => Value.str v _) (join_codes _ hr)⟩
end
section
open PySem PySem.W PyProof.Rows
set_option maxRecDepth 100000
set_option maxHeartbeats 4000000
noncomputable def let6 (k : Int) : Int := [1, 1, 2, 2, 3, 4].getD k.toNat 0
noncomputable def marksOf (fs : List Int) : List Int := fs.flatMap fun f => [0, 0, let6 f, 5 + f]
theorem lookup1 (y k : Str) (v : Value) : List.lookup y [(k, v)] = if y = k then some v else none := by
  by_cases h : y = k
  · subst h; simp
  · rw [if_neg h]
    have : (y == k) = false := by simpa using h
    simp [List.lookup, this]
theorem marks_len : ∀ fs : List Int, (marksOf fs).length = 4 * fs.length
  | [] => rfl
  | f :: r => by
    have := marks_len r
    simp only [marksOf, List.flatMap_cons, List.length_append, List.length_cons, List.length_nil] at this ⊢
    omega
theorem marks_snoc (fs : List Int) (f : Int) : marksOf (fs ++ [f]) = marksOf fs ++ [0, 0, let6 f, 5 + f] := by
  simp [marksOf]
theorem marks_take {fs : List Int} {i : Nat} {f : Int} (h : fs[i]? = some f) : marksOf (fs.take (i + 1)) = marksOf (fs.take i) ++ [0, 0, let6 f, 5 + f] := by
  rw [List.take_add_one, h, ← marks_snoc]; rfl
theorem mk_map {l lm : Addr} : (fun y => if y = Str.ofString "marks" then some (Value.ref lm) else if y = Str.ofString "figures" then some (Value.ref l) else none) =
    fun y => if y = Str.ofString "f" then (fun _ : Str => (none : Option Value)) y else if y = Str.ofString "marks" then some (Value.ref lm) else if y = Str.ofString "figures" then some (Value.ref l) else none := by
  funext y
  by_cases h : y = Str.ofString "f"
  · subst h; rw [if_pos rfl, if_neg (by decide +kernel), if_neg (by decide +kernel)]
  · rw [if_neg h]
theorem mk_map2 {l lm ld : Addr} {v : Value} {u : Str → Option Value} : (fun y => if y = Str.ofString "marks" then some (Value.ref ld) else if y = Str.ofString "f" then some v else if y = Str.ofString "f" then u y else if y = Str.ofString "marks" then some (Value.ref lm) else if y = Str.ofString "figures" then some (Value.ref l) else none) =
    fun y => if y = Str.ofString "f" then (fun _ : Str => some v) y else if y = Str.ofString "marks" then some (Value.ref ld) else if y = Str.ofString "figures" then some (Value.ref l) else none := by
  funext y
  by_cases h : y = Str.ofString "marks"
  · subst h; rw [if_pos rfl, if_neg (by decide +kernel), if_pos rfl]
  · rw [if_neg h]
    by_cases h' : y = Str.ofString "f"
    · rw [if_pos h', if_pos h']
    · rw [if_neg h', if_neg h', if_neg h', if_neg h, if_neg h]
theorem mk_ct {w mean mg mb} (news : List (Addr × Obj)) (l : Addr) (vs : List Value) (fs : List Int) (n : Nat) (hl : (l, listOf vs.toArray n) ∈ news) (hi : IntsAre vs fs) (hz : fs.length ≤ 10) (hr : ∀ f ∈ fs, 0 ≤ f ∧ f < 6) :
   CtN w mean mg mb 65 [.ref l] [] news 1 8 (fun r news' => ∃ l' vs' n', r = .ref l' ∧ news' = (l', listOf vs'.toArray n') :: news ∧ (∀ p ∈ news, p.1 < l') ∧ IntsAre vs' (marksOf fs)) := by
  unfold CtN PR
  w_top off
  k_with_none
  k_with "my k_mem" => (refine' List.mem_append.mpr (Or.inr ?_); k_mem)
  k_with "my k_mem" => (refine' List.mem_append.mpr (Or.inl ?_); k_mem)
  k_with "my news_mem" => k_mem
  k_fill
  intro dp un gd cn cs a ccd cl outer A₀ base h₀ L m s Q E B F X N T hk hd hu hret
  refine wpAny_call ?_
  k_dflt (refine' code_def ?k1 ?k2 ?k3 ?k4 ?k5 ?kA ?kF ?kK ?k6 ?k7 ?k8 ?k9 ?kB ?_ ?c2 ?c3 ?c4 ?c5; (case kA => exact rfl); (case kF => exact rfl); (case kK => assumption); (case k1 => k_asm); (case k2 => k_asm); (case k3 => k_asm); (case k4 => k_asm); (case k5 => k_asm); (case k6 => k_is); (case k7 => k_is); (case k8 => ktr_room); (case k9 => first | exact BindsTo.of_eq rfl | exact binds_K (by k_in) rfl (by k_is) rfl rfl rfl); (case c5 => decide); (case kB => exact locs rfl); (case c2 => exact rfl); (case c3 => exact rfl); (case c4 => exact rfl); k_whole; intro g' L' h' FG' F' N' B' X' T'; (try dsimp only); (try k_lift B'); (try k_fold))
  k_with_none
  k_with "my k_mem" => (refine' List.mem_append.mpr (Or.inr ?_); k_mem)
  k_with "my k_mem" => (refine' List.mem_append.mpr (Or.inl ?_); k_mem)
  k_with "my news_mem" => k_mem
  k_steps
  k_dflt refine For_invV g' (by with_unfolding_all rfl) (by with_unfolding_all rfl) ?_
  k_steps
  rename News _ _ _ _ => N1
  rename Fr _ _ _ _ => F1
  rename ∀ p ∈ news, _ => hlt1
  k_dflt refine' kdl_iter (fun i m₁ nx => ∃ (u : Str → Option Value) (lm : Addr) (vsm : List Value) (nm : Nat), m₁ = (fun y => if y = Str.ofString "f" then u y else if y = Str.ofString "marks" then some (Value.ref lm) else if y = Str.ofString "figures" then some (Value.ref l) else none) ∧ nx = (lm, listOf vsm.toArray nm) :: news ∧ (∀ p ∈ news, p.1 < lm) ∧ IntsAre vsm (marksOf (fs.take i))) (by rfl) (List.mem_cons_of_mem _ hl) F1 N1 ?start ?turn ?done
  case start =>
    refine ⟨fun _ => none, _, _, _, ?_, rfl, hlt1, .nil⟩
    rw [← mk_map]
    funext y
    by_cases h : y = Str.ofString "marks"
    · rw [if_pos h, if_pos h]
    · rw [if_neg h, if_neg h]
      with_unfolding_all exact lookup1 _ _ _
  case turn =>
    intro i v m₁ news₁ h tk own hv hoff hlm hJ F₁ N₁
    obtain ⟨u, lm, vsm, nm, rfl, rfl, hlt, hI⟩ := hJ
    obtain ⟨f, t, rfl, hf⟩ := IntsAre.at hi i v hv
    obtain ⟨hb1, hb2⟩ := hr f (List.mem_of_getElem? hf)
    k_steps
    k_dflt (refine' kmk_add_ints (ms := [0, 0, let6 f, 5 + f]) ?F ?N ?a ?b hI ?j ?_ ?z; (case F => k_asm); (case N => k_asm); (case a => kmk_list); (case b => kmk_list); (case j => exact .cons _ _ (.cons _ _ (.cons _ _ (.cons _ _ .nil)))); (case z => (rw [marks_len, List.length_take, sizeLine_eq]; simp only [List.length_cons, List.length_nil]; omega)))
    intro D us h2 F2 N2 l2 hIu
    k_steps
    (try dsimp only [InvPostG])
    rename News _ _ _ _ => N3
    rename Fr _ _ _ _ => F3
    rw [mk_map2] at F3
    refine InvEndG.intro F3 N3 (nx := (D, listOf us.toArray 0) :: news) ⟨List.mem_cons_of_mem _ hl, _, _, _, _, rfl, rfl, ?_, ?_⟩ ?_ ?_ ?_
    · exact fun p hp => l2 p (by simp [hp])
    · rw [marks_take hf]; exact hIu
    · intro p hp b hb
      simp only [List.map_cons, List.mem_cons] at hb
      rcases hb with rfl | hb
      · exact Nat.ne_of_lt (l2 p (by simp [hp]))
      · exact hoff p hp b (by simp only [List.map_cons, List.mem_cons]; exact .inr hb)
    · intro p hp
      simp only [List.mem_cons] at hp ⊢
      rcases hp with h | h
      · exact .inl h
      · simp [h]
    · intro p hp
      simp [hp]
  case done =>
    intro m₁ news₁ h tk hJ F₁ N₁
    obtain ⟨u, lm, vsm, nm, rfl, rfl, hlt, hI⟩ := hJ
    rw [hi.length, List.take_length] at hI
    k_steps
    all_goals exact hret _ _ _ _ (by k_asm) (by k_asm) ⟨_, _, _, rfl, rfl, hlt, hI⟩
end
section
open PySem PySem.W PyProof.Rows
/-- one row of the net: the thread from the left and those from above -/
noncomputable def rowGo (mark : Int) : List Int → List Int → Int → List Int × Int
  | mk :: ms, d :: ds, th =>
    if mark = mk ∨ th > d then (th :: (rowGo mark ms ds d).1, (rowGo mark ms ds d).2) else (d :: (rowGo mark ms ds th).1, (rowGo mark ms ds th).2)
  | _, _, th => ([], th)
noncomputable def outStep (tm : List Int) (p : List Int × List Int) (mark : Int) : List Int × List Int :=
  ((rowGo mark tm p.1 (-1 - (p.2.length : Int))).1, p.2 ++ [(rowGo mark tm p.1 (-1 - (p.2.length : Int))).2])
noncomputable def outFold (tm rows : List Int) : List Int × List Int := rows.foldl (outStep tm) (rangeKs 0 tm.length, [])
noncomputable def RowI (mark : Int) (ms down0 : List Int) (th0 : Int) (c : Nat) (down : List Int) (th : Int) : Prop :=
  rowGo mark ms down0 th0 = (down.take c ++ (rowGo mark (ms.drop c) (down.drop c) th).1, (rowGo mark (ms.drop c) (down.drop c) th).2)
theorem row_start {mark : Int} {ms down0 : List Int} {th0 : Int} (h : down0.length = ms.length) : down0.length = ms.length ∧ RowI mark ms down0 th0 ([] : List Int).length down0 th0 := ⟨h, by simp [RowI]⟩
theorem out_start {tm : List Int} : (rangeKs 0 ((tm.length : Int) - 0).toNat, ([] : List Int)) = outFold tm [] ∧ (rangeKs 0 ((tm.length : Int) - 0).toNat).length = tm.length ∧ ([] : List Int).length = ([] : List Int).length := by
  have e : ((tm.length : Int) - 0).toNat = tm.length := by omega
  rw [e]
  exact ⟨rfl, rangeKs_length _ _, rfl⟩
theorem getD_at {l : List Int} {c : Nat} (h : c < l.length) : l.getD c 0 = l[c] := by simp [List.getD_eq_getElem?_getD, h]
theorem row_swap {mark : Int} {ms down0 : List Int} {th0 : Int} {pre : List Int} {kN : Int} {down : List Int} {th : Int} (hl : down.length = ms.length) (hI : RowI mark ms down0 th0 pre.length down th) (hk : kN = 0 + (pre.length : Int))
    (hlt : pre.length < ((ms.length : Int) - 0).toNat) (hc : mark = ms.getD kN.toNat 0 ∨ down.getD kN.toNat 0 < th) :
    (down.set kN.toNat th).length = ms.length ∧ RowI mark ms down0 th0 (pre ++ [kN]).length (down.set kN.toNat th) (down.getD kN.toNat 0) := by
  have e : kN.toNat = pre.length := by omega
  have h1 : pre.length < ms.length := by omega
  have h2 : pre.length < down.length := by omega
  rw [e] at hc ⊢
  rw [getD_at h1, getD_at h2] at hc
  refine ⟨by rw [List.length_set]; exact hl, ?_⟩
  unfold RowI at hI ⊢
  rw [hI, List.drop_eq_getElem_cons h1, List.drop_eq_getElem_cons h2, rowGo, if_pos hc, getD_at h2]
  have e1 : (down.set pre.length th).take (pre ++ [kN]).length = down.take pre.length ++ [th] := by
    rw [List.length_append, List.length_singleton, List.take_add_one, List.take_set, List.set_eq_of_length_le (by rw [List.length_take]; omega), List.getElem?_set_self h2]
    rfl
  have e2 : (down.set pre.length th).drop (pre ++ [kN]).length = down.drop (pre.length + 1) := by
    rw [List.length_append, List.length_singleton, List.drop_set_of_lt (by omega)]
  have e3 : (pre ++ [kN]).length = pre.length + 1 := by simp
  rw [e1, e2, e3, List.append_assoc]
  rfl
theorem row_keep {mark : Int} {ms down0 : List Int} {th0 : Int} {pre : List Int} {kN : Int} {down : List Int} {th : Int} (hl : down.length = ms.length) (hI : RowI mark ms down0 th0 pre.length down th) (hk : kN = 0 + (pre.length : Int))
    (hlt : pre.length < ((ms.length : Int) - 0).toNat) (hc : mark ≠ ms.getD kN.toNat 0) (hc' : ¬ down.getD kN.toNat 0 < th) :
    down.length = ms.length ∧ RowI mark ms down0 th0 (pre ++ [kN]).length down th := by
  have e : kN.toNat = pre.length := by omega
  have h1 : pre.length < ms.length := by omega
  have h2 : pre.length < down.length := by omega
  rw [e] at hc hc'
  rw [getD_at h1] at hc
  rw [getD_at h2] at hc'
  refine ⟨hl, ?_⟩
  unfold RowI at hI ⊢
  rw [hI, List.drop_eq_getElem_cons h1, List.drop_eq_getElem_cons h2, rowGo, if_neg (by intro h; exact h.elim hc hc')]
  have e1 : down.take (pre ++ [kN]).length = down.take pre.length ++ [down[pre.length]] := by
    rw [List.length_append, List.length_singleton, List.take_add_one, List.getElem?_eq_getElem h2]
    rfl
  have e3 : (pre ++ [kN]).length = pre.length + 1 := by simp
  rw [e1, e3, List.append_assoc]
  rfl
theorem rowGo_nil (mark : Int) (ds : List Int) (th : Int) : rowGo mark [] ds th = ([], th) := by cases ds <;> rfl
theorem row_end {mark : Int} {ms down0 : List Int} {th0 : Int} {down : List Int} {th : Int} (hl : down.length = ms.length) (hI : RowI mark ms down0 th0 (rangeKs 0 ((ms.length : Int) - 0).toNat).length down th) : rowGo mark ms down0 th0 = (down, th) := by
  have e : ((ms.length : Int) - 0).toNat = ms.length := by omega
  unfold RowI at hI
  rw [rangeKs_length, e, List.drop_length, List.take_of_length_le (by omega), rowGo_nil, List.append_nil] at hI
  exact hI
theorem out_turn {tm pre down0 right0 down : List Int} {mark th : Int} (h0 : (down0, right0) = outFold tm pre) (hR : right0.length = pre.length) (hl : down.length = tm.length) (hI : RowI mark tm down0 (-1 - (right0.length : Int)) (rangeKs 0 ((tm.length : Int) - 0).toNat).length down th) :
    (down, right0 ++ [th]) = outFold tm (pre ++ [mark]) ∧ down.length = tm.length ∧ (right0 ++ [th]).length = (pre ++ [mark]).length := by
  refine ⟨?_, hl, by simp [hR]⟩
  have e := row_end hl hI
  unfold outFold at h0 ⊢
  rw [List.foldl_append, ← h0]
  simp [outStep, e]
end
section
open PySem PySem.W PyProof.Rows
set_option maxRecDepth 100000
set_option maxHeartbeats 4000000
theorem marks_len_of {vs : List Value} {fs : List Int} (_h : IntsAre vs (marksOf fs)) : (marksOf fs).length = 4 * fs.length := marks_len fs
theorem len_room1 {vs : List Value} {ns : List Int} (hi : IntsAre vs ns) (hz : ns.length ≤ 100) : vs.toArray.toList.length ≤ sizeLine := by
  have h := hi.length
  rw [sizeLine_eq]
  show vs.length ≤ _
  omega
noncomputable def outOf (wm tm : List Int) : List Int := (outFold tm wm).1 ++ (outFold tm wm).2.reverse
theorem out_eq {d r wm tm : List Int} (h : (d, r) = outFold tm wm) : d ++ r.reverse = outOf wm tm := by rw [outOf, ← h]
theorem out_ct {w mean mg mb} (news : List (Addr × Obj)) (l l2 : Addr) (vs vs2 : List Value) (fs fs2 : List Int) (n n2 : Nat) (hl : (l, listOf vs.toArray n) ∈ news) (hl2 : (l2, listOf vs2.toArray n2) ∈ news) (hi : IntsAre vs fs) (hi2 : IntsAre vs2 fs2) (hz : fs.length ≤ 10) (hz2 : fs2.length ≤ 10)
   (hr : ∀ f ∈ fs, 0 ≤ f ∧ f < 6) (hr2 : ∀ f ∈ fs2, 0 ≤ f ∧ f < 6) :
   CtN w mean mg mb 72 [.ref l, .ref l2] [] news 2 16 (fun r news' => ∃ l' vs' n', r = .ref l' ∧ news' = (l', listOf vs'.toArray n') :: news ∧ (∀ p ∈ news, p.1 < l') ∧ IntsAre vs' (outOf (marksOf fs) (marksOf fs2))) := by
  unfold CtN PR
  w_top off
  k_with_none
  k_with "my k_mem" => assumption
  k_with "my is_list" => exact News.isList (by assumption) (by k_mem)
  k_with "my call ref" => ((with_reducible show wpAny _ _ (call (Value.ref 65) [Value.ref _]) _ _ _); k_dflt (refine' mk_ct _ _ _ _ _ ?hl ?hi ?hz ?hr _ _ _ _ _ _ _ _ _ _ _ _ _ _ _ _ _ ?k1 ?k2 ?k3 ?k4 ?k5 ?kK ?kd ?ku ?_; (case k1 => k_asm); (case k2 => k_asm); (case k3 => k_asm); (case k4 => k_asm); (case k5 => k_asm); (case hl => first | assumption | exact List.mem_cons_of_mem _ (by assumption) | k_mem); (case hi => assumption); (case hz => assumption); (case hr => assumption); (case kK => first | exact rfl | assumption); (case kd => ktr_room); (case ku => ktr_units)); intro r9 n9 h9 tk9 F9 N9 hp9; obtain ⟨l9, vs9, k9, e9, e8, hlt9, hI9⟩ := hp9; subst e9; subst e8; (have hL9 := marks_len_of hI9); (try k_lt hlt9); (try dsimp only); (try k_fold))
  k_with "my pyIter ref" => (k_of "c" => k_state_given ["marks", "mark", "down!", "thread!"] (fun ms mark down0 th0 pre down th => down.length = ms.length ∧ RowI mark ms down0 th0 pre.length down th) "down" "thread")
  k_fill
  intro dp un gd cn cs a ccd cl outer A₀ base h₀ L m s Q E B F X N T hk hd hu hret
  refine wpAny_call ?_
  k_dflt (refine' code_def ?k1 ?k2 ?k3 ?k4 ?k5 ?kA ?kF ?kK ?k6 ?k7 ?k8 ?k9 ?kB ?_ ?c2 ?c3 ?c4 ?c5; (case kA => exact rfl); (case kF => exact rfl); (case kK => assumption); (case k1 => k_asm); (case k2 => k_asm); (case k3 => k_asm); (case k4 => k_asm); (case k5 => k_asm); (case k6 => k_is); (case k7 => k_is); (case k8 => ktr_room); (case k9 => first | exact BindsTo.of_eq rfl | exact binds_K (by k_in) rfl (by k_is) rfl rfl rfl); (case c5 => decide); (case kB => exact locs rfl); (case c2 => exact rfl); (case c3 => exact rfl); (case c4 => exact rfl); k_whole; intro g' L' h' FG' F' N' B' X' T'; (try dsimp only); (try k_lift B'); (try k_fold))
  k_with_none
  k_with "my k_mem" => assumption
  k_with "my is_list" => exact News.isList (by assumption) (by k_mem)
  k_with "my call ref" => ((with_reducible show wpAny _ _ (call (Value.ref 65) [Value.ref _]) _ _ _); k_dflt (refine' mk_ct _ _ _ _ _ ?hl ?hi ?hz ?hr _ _ _ _ _ _ _ _ _ _ _ _ _ _ _ _ _ ?k1 ?k2 ?k3 ?k4 ?k5 ?kK ?kd ?ku ?_; (case k1 => k_asm); (case k2 => k_asm); (case k3 => k_asm); (case k4 => k_asm); (case k5 => k_asm); (case hl => first | assumption | exact List.mem_cons_of_mem _ (by assumption) | k_mem); (case hi => assumption); (case hz => assumption); (case hr => assumption); (case kK => first | exact rfl | assumption); (case kd => ktr_room); (case ku => ktr_units)); intro r9 n9 h9 tk9 F9 N9 hp9; obtain ⟨l9, vs9, k9, e9, e8, hlt9, hI9⟩ := hp9; subst e9; subst e8; (have hL9 := marks_len_of hI9); (try k_lt hlt9); (try dsimp only); (try k_fold))
  k_with "my pyIter ref" => (k_of "c" => k_state_given ["marks", "mark", "down!", "thread!"] (fun ms mark down0 th0 pre down th => down.length = ms.length ∧ RowI mark ms down0 th0 pre.length down th) "down" "thread")
  k_with "pyIter ref" => (k_of "mark" => k_state (fun pre down right => (down, right) = outFold (marksOf fs2) pre ∧ down.length = (marksOf fs2).length ∧ right.length = pre.length) "down" "right")
  k_with "state" => first | exact out_start | exact row_start (by assumption) | exact row_swap (by assumption) (by assumption) (by assumption) (by assumption) (Or.inl (by assumption)) | exact row_swap (by assumption) (by assumption) (by assumption) (by assumption) (Or.inr (by assumption)) | exact row_keep (by assumption) (by assumption) (by assumption) (by assumption) (by assumption) (by assumption) | exact out_turn (by assumption) (by assumption) (by assumption) (by assumption)
  k_steps
  rename IntsAre _ _ => hIr
  rename _ = outFold _ _ => hof
  k_dflt (refine' kl_reverse ?F ?N ?e ?U ?z ?_; (case F => k_asm); (case N => k_asm); (case e => exact rfl); (case U => k_upd); (case z => exact len_room1 hIr (by omega)))
  intro h5 F5 N5
  k_steps
  have hIr2 := IntsAre.reverse hIr
  k_dflt (refine' kmk_add_ints ?F ?N ?a ?b ?i hIr2 ?_ ?z; (case F => k_asm); (case N => k_asm); (case a => kmk_list); (case b => exact News.isList (by k_asm) (by k_mem)); (case i => assumption); (case z => (rw [List.length_reverse, sizeLine_eq]; omega)))
  intro D6 us6 h6 F6 N6 l6 hI6
  rw [out_eq hof] at hI6
  k_steps
  all_goals exact hret _ _ _ _ (by k_asm) (cb_drop (news := (D6, listOf us6.toArray 0) :: news) (by k_asm) (fun p hp => by simp only [List.mem_cons] at hp ⊢; rcases hp with h | h <;> simp [h])) ⟨_, _, _, rfl, rfl, fun p hp => l6 p (by simp [hp]), hI6⟩
end
section
/-- the distance of two texts: two a sign put in or left out, s c d for the sign d in the place of c -/
noncomputable def lev (s : Nat → Nat → Int) : List Nat → List Nat → Int
  | [], b => 2 * (b.length : Int)
  | x :: a, [] => 2 * ((x :: a).length : Int)
  | x :: a, y :: b => min (min (lev s a (y :: b)) (lev s (x :: a) b) + 2) (lev s a b + s x y)
termination_by a b => a.length + b.length
decreasing_by all_goals simp only [List.length_cons]; omega
structure Cost (s : Nat → Nat → Int) : Prop where
  nn : ∀ c d, 0 ≤ s c d
  le : ∀ c d, s c d ≤ 2
  same : ∀ c, s c c = 0
  sym : ∀ c d, s c d = s d c
section
variable {s : Nat → Nat → Int}
theorem lev_nl (b : List Nat) : lev s [] b = 2 * (b.length : Int) := by rw [lev]
theorem lev_nr (a : List Nat) : lev s a [] = 2 * (a.length : Int) := by cases a <;> rw [lev]
theorem lev_cc (x y : Nat) (a b : List Nat) : lev s (x :: a) (y :: b) = min (min (lev s a (y :: b)) (lev s (x :: a) b) + 2) (lev s a b + s x y) := by rw [lev]
theorem lev_addl (x : Nat) (a b : List Nat) : lev s (x :: a) b ≤ lev s a b + 2 := by
  cases b with
  | nil => rw [lev_nr, lev_nr, List.length_cons]; omega
  | cons y b => rw [lev_cc]; omega
theorem lev_addr (y : Nat) (a b : List Nat) : lev s a (y :: b) ≤ lev s a b + 2 := by
  cases a with
  | nil => rw [lev_nl, lev_nl, List.length_cons]; omega
  | cons x a => rw [lev_cc]; omega
theorem lev_delr (hs : Cost s) (c : Nat) (b : List Nat) : ∀ a : List Nat, lev s a b ≤ lev s a (c :: b) + 2
  | [] => by rw [lev_nl, lev_nl, List.length_cons]; omega
  | x :: a => by
    have ih := lev_delr hs c b a
    have h1 := lev_addl (s := s) x a b
    have h2 := hs.nn x c
    rw [lev_cc]; omega
theorem lev_dell (hs : Cost s) (c : Nat) (a : List Nat) : ∀ b : List Nat, lev s a b ≤ lev s (c :: a) b + 2
  | [] => by rw [lev_nr, lev_nr, List.length_cons]; omega
  | y :: b => by
    have ih := lev_dell hs c a b
    have h1 := lev_addr (s := s) y a b
    have h2 := hs.nn c y
    rw [lev_cc]; omega
theorem lev_pre1 (hs : Cost s) (c : Nat) (a b : List Nat) : lev s (c :: a) (c :: b) = lev s a b := by
  have h1 := lev_delr hs c b a
  have h2 := lev_dell hs c a b
  have h3 := hs.same c
  rw [lev_cc]; omega
theorem lev_pre (hs : Cost s) (a b : List Nat) : ∀ p : List Nat, lev s (p ++ a) (p ++ b) = lev s a b
  | [] => rfl
  | c :: p => by rw [List.cons_append, List.cons_append, lev_pre1 hs, lev_pre hs a b p]
theorem lev_snoc1l (hs : Cost s) (c : Nat) : ∀ b : List Nat, lev s [c] (b ++ [c]) = 2 * (b.length : Int)
  | [] => by rw [List.nil_append, lev_pre1 hs, lev_nl]
  | y :: b => by
    have ih := lev_snoc1l hs c b
    have h2 := hs.nn c y
    rw [List.cons_append, lev_cc, ih, lev_nl, lev_nl]
    simp only [List.length_cons, List.length_append, List.length_nil]
    omega
theorem lev_snoc1r (hs : Cost s) (c : Nat) : ∀ a : List Nat, lev s (a ++ [c]) [c] = 2 * (a.length : Int)
  | [] => by rw [List.nil_append, lev_pre1 hs, lev_nl]
  | y :: b => by
    have ih := lev_snoc1r hs c b
    have h2 := hs.nn y c
    rw [List.cons_append, lev_cc, ih, lev_nr, lev_nr]
    simp only [List.length_cons, List.length_append, List.length_nil]
    omega
theorem lev_suf1 (hs : Cost s) (c : Nat) : ∀ a b : List Nat, lev s (a ++ [c]) (b ++ [c]) = lev s a b
  | [], b => by rw [List.nil_append, lev_snoc1l hs, lev_nl]
  | x :: a, [] => by rw [List.nil_append, lev_snoc1r hs, lev_nr]
  | x :: a, y :: b => by
    have h1 := lev_suf1 hs c a (y :: b)
    have h2 := lev_suf1 hs c (x :: a) b
    have h3 := lev_suf1 hs c a b
    rw [List.cons_append] at h1 h2
    rw [List.cons_append, List.cons_append, lev_cc, lev_cc, h1, h2, h3]
termination_by a b => a.length + b.length
decreasing_by all_goals simp only [List.length_cons]; omega
theorem lev_suf (hs : Cost s) : ∀ (q a b : List Nat), lev s (a ++ q) (b ++ q) = lev s a b
  | [], a, b => by rw [List.append_nil, List.append_nil]
  | c :: q, a, b => by
    have h := lev_suf hs q (a ++ [c]) (b ++ [c])
    rw [List.append_assoc, List.append_assoc, List.singleton_append] at h
    rw [h, lev_suf1 hs]
theorem eq_of_le_iff {a b : Int} (h : ∀ z, z ≤ a ↔ z ≤ b) : a = b := Int.le_antisymm ((h a).1 (Int.le_refl a)) ((h b).2 (Int.le_refl b))
theorem le_add_iff' (z m k : Int) : z ≤ m + k ↔ z - k ≤ m := by omega
theorem min9 (a1 a2 a3 b1 b2 b3 c1 c2 c3 p q : Int) :
    min (min (min (min a1 b1 + 2) (c1 + p)) (min (min a2 b2 + 2) (c2 + p)) + 2) (min (min a3 b3 + 2) (c3 + p) + q) =
    min (min (min (min a1 a2 + 2) (a3 + q)) (min (min b1 b2 + 2) (b3 + q)) + 2) (min (min c1 c2 + 2) (c3 + q) + p) := by
  apply eq_of_le_iff
  intro z
  simp only [Int.le_min, le_add_iff']
  omega
theorem lev_snoc (x y : Nat) : ∀ a b : List Nat, lev s (a ++ [x]) (b ++ [y]) = min (min (lev s a (b ++ [y])) (lev s (a ++ [x]) b) + 2) (lev s a b + s x y)
  | [], [] => by simp only [List.nil_append, lev_cc]
  | [], v :: b => by
    have ih := lev_snoc x y [] b
    simp only [List.nil_append, List.cons_append] at ih ⊢
    rw [lev_cc, lev_cc, ih]
    simp only [lev_nl, List.length_cons, List.length_append, List.length_nil]
    apply eq_of_le_iff
    intro z
    simp only [Int.le_min, le_add_iff']
    omega
  | u :: a, [] => by
    have ih := lev_snoc x y a []
    simp only [List.nil_append, List.cons_append] at ih ⊢
    rw [lev_cc, lev_cc, ih]
    simp only [lev_nr, List.length_cons, List.length_append, List.length_nil]
    apply eq_of_le_iff
    intro z
    simp only [Int.le_min, le_add_iff']
    omega
  | u :: a, v :: b => by
    have h1 := lev_snoc x y a (v :: b)
    have h2 := lev_snoc x y (u :: a) b
    have h3 := lev_snoc x y a b
    simp only [List.cons_append] at h1 h2 ⊢
    rw [lev_cc, h1, h2, h3, lev_cc u v a (b ++ [y]), lev_cc u v (a ++ [x]) b, lev_cc u v a b]
    exact min9 _ _ _ _ _ _ _ _ _ _ _
termination_by a b => a.length + b.length
decreasing_by all_goals simp only [List.length_cons]; omega
theorem lev_sym (hs : Cost s) : ∀ a b : List Nat, lev s a b = lev s b a
  | [], b => by rw [lev_nl, lev_nr]
  | x :: a, [] => by rw [lev_nl, lev_nr]
  | x :: a, y :: b => by
    have h1 := lev_sym hs a (y :: b)
    have h2 := lev_sym hs (x :: a) b
    have h3 := lev_sym hs a b
    have h4 := hs.sym x y
    rw [lev_cc, lev_cc]; omega
termination_by a b => a.length + b.length
decreasing_by all_goals simp only [List.length_cons]; omega
theorem lev_ge (hs : Cost s) : ∀ a b : List Nat, 2 * ((b.length : Int) - (a.length : Int)) ≤ lev s a b
  | [], b => by rw [lev_nl]; simp only [List.length_nil]; omega
  | x :: a, [] => by rw [lev_nr]; simp only [List.length_cons, List.length_nil]; omega
  | x :: a, y :: b => by
    have h1 := lev_ge hs a (y :: b)
    have h2 := lev_ge hs (x :: a) b
    have h3 := lev_ge hs a b
    have h4 := hs.nn x y
    simp only [List.length_cons] at h1 h2 h3 ⊢
    rw [lev_cc]; omega
termination_by a b => a.length + b.length
decreasing_by all_goals simp only [List.length_cons]; omega
/-- the table -/
noncomputable def Rt (s : Nat → Nat → Int) (a b : List Nat) (j i : Nat) : Int := lev s (a.take i) (b.take j)
theorem Rt_left (a b : List Nat) (j : Nat) (hj : j ≤ b.length) : Rt s a b j 0 = 2 * (j : Int) := by
  rw [Rt, List.take_zero, lev_nl, List.length_take, Nat.min_eq_left hj]
theorem Rt_top (a b : List Nat) (i : Nat) (hi : i ≤ a.length) : Rt s a b 0 i = 2 * (i : Int) := by
  rw [Rt, List.take_zero, lev_nr, List.length_take, Nat.min_eq_left hi]
theorem Rt_all (a b : List Nat) : Rt s a b b.length a.length = lev s a b := by rw [Rt, List.take_length, List.take_length]
theorem Rt_rec (a b : List Nat) {i j : Nat} (hi : i < a.length) (hj : j < b.length) :
    Rt s a b (j + 1) (i + 1) = min (min (Rt s a b (j + 1) i) (Rt s a b j (i + 1)) + 2) (Rt s a b j i + s (a.getD i 0) (b.getD j 0)) := by
  have ea : a.take (i + 1) = a.take i ++ [a.getD i 0] := by rw [List.take_add_one]; simp [hi]
  have eb : b.take (j + 1) = b.take j ++ [b.getD j 0] := by rw [List.take_add_one]; simp [hj]
  unfold Rt
  rw [ea, eb, lev_snoc]
theorem Rt_least (hs : Cost s) (a b : List Nat) (M : Int) {j : Nat} (h : ∀ i, i ≤ a.length → M ≤ Rt s a b j i) :
    ∀ (k : Nat), j + k ≤ b.length → ∀ i, i ≤ a.length → M ≤ Rt s a b (j + k) i := by
  intro k
  induction k with
  | zero => exact fun _ => h
  | succ k ih =>
    intro hk i
    have ih' := ih (by omega)
    induction i with
    | zero =>
      intro _
      have h0 := ih' 0 (Nat.zero_le _)
      rw [Rt_left _ _ _ (by omega)] at h0
      rw [Rt_left _ _ _ hk]
      omega
    | succ i ihi =>
      intro hi
      have h1 := ihi (by omega)
      have h2 := ih' (i + 1) hi
      have h3 := ih' i (by omega)
      have h4 := hs.nn (a.getD i 0) (b.getD (j + k) 0)
      rw [← Nat.add_assoc, Rt_rec a b (by omega) (by omega)]
      rw [← Nat.add_assoc] at h1
      omega
/-- no later entry lies below the least of a row (its own first, the empty word's, left out) -/
theorem Rt_stop (hs : Cost s) (a b : List Nat) (M : Int) {j : Nat} (hj : j < b.length) (ha : 0 < a.length) (h : ∀ i, i < a.length → M ≤ Rt s a b (j + 1) (i + 1)) : M ≤ lev s a b := by
  have h0 : ∀ i, i ≤ a.length → M ≤ Rt s a b (j + 1) i := by
    intro i hi
    cases i with
    | zero =>
      have h1 := h 0 ha
      have h2 := hs.le (a.getD 0 0) (b.getD j 0)
      rw [Rt_rec a b ha hj, Rt_left _ _ _ (by omega), Rt_left _ _ _ (by omega)] at h1
      rw [Rt_left _ _ _ (by omega)]
      omega
    | succ i => exact h i hi
  have h1 := Rt_least hs a b M h0 (b.length - (j + 1)) (by omega) a.length (Nat.le_refl _)
  rw [show j + 1 + (b.length - (j + 1)) = b.length by omega, Rt_all] at h1
  exact h1
end
end
section
open PySem PySem.W PyProof.Rows PySem.Builtin.Str
noncomputable def sc (c d : Nat) : Int := subC (Str.mk #[c]) (Str.mk #[d])
theorem sc_cost : Cost sc where
  nn c d := by unfold sc subC; (repeat' split) <;> omega
  le c d := by unfold sc subC; (repeat' split) <;> omega
  same c := by unfold sc subC; rw [if_pos rfl]
  sym c d := by
    unfold sc subC
    simp only [eq_comm (a := Str.mk #[c]), eq_comm (a := Txt.lower (Str.mk #[c]))]
noncomputable def levS (x y : Str) : Int := lev sc x.cps.toList y.cps.toList
theorem len_list (x : Str) : x.cps.toList.length = x.length := by simp [Str.length]
theorem sl_from {x : Str} {p : Int} (h0 : 0 ≤ p) (h1 : p ≤ (x.length : Int)) : (Txt.slice x (some p) none).cps.toList = x.cps.toList.drop p.toNat := by
  rw [slice_from_eq (b := (x.length : Int)) h0 h1 rfl]
  show List.take _ (List.drop _ _) = _
  rw [List.take_of_length_le]
  rw [List.length_drop, len_list]; omega
theorem sl_to {x : Str} {q : Int} (h0 : 0 ≤ q) (h1 : q ≤ (x.length : Int)) : (Txt.slice x none (some q)).cps.toList = x.cps.toList.take q.toNat := by
  have := eq_of_beq (slice_closes_to (x := x) (j := q) ⟨h0, by rw [len_list]; exact h1⟩)
  rw [this]
  show List.take _ (List.drop _ _) = _
  simp
theorem sl_both {x : Str} {p q : Int} (h0 : 0 ≤ p) (h : p ≤ q) (h1 : q ≤ (x.length : Int)) : (Txt.slice x (some p) (some q)).cps.toList = (x.cps.toList.drop p.toNat).take (q - p).toNat := by
  have := eq_of_beq (slice_closes (x := x) (i := p) (j := q) ⟨h0, h, by rw [len_list]; exact h1⟩)
  rw [this]
theorem sl_neg {x : Str} {q : Int} (h0 : q < 0) (h1 : 0 ≤ q + (x.length : Int)) : Txt.slice x none (some q) = Txt.slice x none (some (q + (x.length : Int))) := by
  have e : strSliceIndices none (some q) 1 x.length = strSliceIndices none (some (q + (x.length : Int))) 1 x.length := by
    have h2 : ¬ (q + (x.length : Int) < 0) := by omega
    simp only [strSliceIndices, h0, h2, if_true, if_false]
  unfold Txt.slice
  rw [e]
theorem sl_to_neg {x : Str} {q : Int} (h0 : q < 0) (h1 : 0 ≤ q + (x.length : Int)) : (Txt.slice x none (some q)).cps.toList = x.cps.toList.take (q + (x.length : Int)).toNat := by
  rw [sl_neg h0 h1, sl_to h1 (by omega)]
theorem item_at {x : Str} {p : Int} (h0 : 0 ≤ p) (h1 : p < (x.length : Int)) : Txt.item x p = Str.mk #[x.cps.toList.getD p.toNat 0] := by
  unfold Txt.item Txt.charAt seqIndex?
  have h2 : ¬ p < 0 := by omega
  have h3 : p.toNat < x.cps.size := by have : x.length = x.cps.size := rfl; omega
  simp only [h2, if_false, h0, h1, decide_true, Bool.and_self, if_true, Option.bind_some]
  simp [h3, List.getD_eq_getElem?_getD]
theorem item_neg {x : Str} {p : Int} (h0 : p < 0) (h1 : 0 ≤ p + (x.length : Int)) : Txt.item x p = Str.mk #[x.cps.toList.getD (p + (x.length : Int)).toNat 0] := by
  have e : Txt.item x p = Txt.item x (p + (x.length : Int)) := by
    unfold Txt.item Txt.charAt seqIndex?
    have h2 : ¬ (p + (x.length : Int) < 0) := by omega
    simp only [h0, h2, if_true, if_false]
  rw [e, item_at h1 (by omega)]
theorem mk1_inj {c d : Nat} (h : Str.mk #[c] = Str.mk #[d]) : c = d := by
  have := congrArg Str.cps h
  simpa using this
/-- the first p signs are the same -/
noncomputable def Pre (x y : Str) (p : Int) : Prop := x.cps.toList.take p.toNat = y.cps.toList.take p.toNat
theorem pre_start (x y : Str) : Pre x y 0 := by simp [Pre]
theorem pre_turn {x y : Str} {p : Int} (h0 : 0 ≤ p) (hx : p < (x.length : Int)) (hy : p < (y.length : Int)) (h : Pre x y p) (he : (Txt.item x p == Txt.item y p) = true) : Pre x y (p + 1) := by
  have e := eq_of_beq he
  rw [item_at h0 hx, item_at h0 hy] at e
  have e' := mk1_inj e
  have e1 : (p + 1).toNat = p.toNat + 1 := by omega
  unfold Pre at h ⊢
  have hx' : p.toNat < x.cps.toList.length := by rw [len_list]; omega
  have hy' : p.toNat < y.cps.toList.length := by rw [len_list]; omega
  rw [e1, List.take_add_one, List.take_add_one, h, List.getElem?_eq_getElem hx', List.getElem?_eq_getElem hy']
  simp only [List.getD_eq_getElem?_getD, List.getElem?_eq_getElem hx', List.getElem?_eq_getElem hy', Option.getD_some] at e'
  rw [e']
theorem pre_end {x y : Str} {p : Int} (h0 : 0 ≤ p) (hx : p ≤ (x.length : Int)) (hy : p ≤ (y.length : Int)) (h : Pre x y p) : levS x y = levS (Txt.slice x (some p) none) (Txt.slice y (some p) none) := by
  unfold levS
  rw [sl_from h0 hx, sl_from h0 hy]
  unfold Pre at h
  conv => lhs; rw [← List.take_append_drop p.toNat x.cps.toList, ← List.take_append_drop p.toNat y.cps.toList, h]
  rw [lev_pre sc_cost]
/-- the last -q signs are the same -/
noncomputable def Suf (x y : Str) (q : Int) : Prop := x.cps.toList.drop ((x.length : Int) + q).toNat = y.cps.toList.drop ((y.length : Int) + q).toNat
theorem suf_start (x y : Str) : Suf x y 0 := by
  unfold Suf
  rw [List.drop_of_length_le (by rw [len_list]; omega), List.drop_of_length_le (by rw [len_list]; omega)]
theorem suf_turn {x y : Str} {q : Int} (h0 : q ≤ 0) (hx : -q < (x.length : Int)) (hy : -q < (y.length : Int)) (h : Suf x y q) (he : (Txt.item x (q - 1) == Txt.item y (q - 1)) = true) : Suf x y (q - 1) := by
  have e := eq_of_beq he
  rw [item_neg (by omega) (by omega), item_neg (by omega) (by omega)] at e
  have e' := mk1_inj e
  unfold Suf at h ⊢
  have hx' : (q - 1 + (x.length : Int)).toNat < x.cps.toList.length := by rw [len_list]; omega
  have hy' : (q - 1 + (y.length : Int)).toNat < y.cps.toList.length := by rw [len_list]; omega
  rw [show ((x.length : Int) + (q - 1)).toNat = (q - 1 + (x.length : Int)).toNat by omega, show ((y.length : Int) + (q - 1)).toNat = (q - 1 + (y.length : Int)).toNat by omega]
  rw [List.drop_eq_getElem_cons hx', List.drop_eq_getElem_cons hy']
  simp only [List.getD_eq_getElem?_getD, List.getElem?_eq_getElem hx', List.getElem?_eq_getElem hy', Option.getD_some] at e'
  rw [e', show (q - 1 + (x.length : Int)).toNat + 1 = ((x.length : Int) + q).toNat by omega, show (q - 1 + (y.length : Int)).toNat + 1 = ((y.length : Int) + q).toNat by omega, h]
theorem suf_end {x y : Str} {q : Int} (h0 : q < 0) (hx : -q ≤ (x.length : Int)) (hy : -q ≤ (y.length : Int)) (h : Suf x y q) : levS x y = levS (Txt.slice x none (some q)) (Txt.slice y none (some q)) := by
  unfold levS
  rw [sl_to_neg h0 (by omega), sl_to_neg h0 (by omega)]
  unfold Suf at h
  have ex : (q + (x.length : Int)).toNat = ((x.length : Int) + q).toNat := by omega
  have ey : (q + (y.length : Int)).toNat = ((y.length : Int) + q).toNat := by omega
  rw [ex, ey]
  conv => lhs; rw [← List.take_append_drop ((x.length : Int) + q).toNat x.cps.toList, ← List.take_append_drop ((y.length : Int) + q).toNat y.cps.toList, h]
  rw [lev_suf sc_cost]
end
section
open PySem PySem.W PyProof.Rows
noncomputable def evens (n : Nat) : List Int := (List.range n).map fun (j : Nat) => (2 : Int) + (j : Int) * 2
noncomputable def InnI (xs ys : List Nat) (j c : Nat) (row : List Int) (d r mi : Int) : Prop :=
  (∀ i, i < c → row.getD i 0 = Rt sc xs ys (j + 1) (i + 1)) ∧ (∀ i, c ≤ i → i < xs.length → row.getD i 0 = Rt sc xs ys j (i + 1)) ∧ d = Rt sc xs ys j c ∧ (c = 0 → r = 2 * (j : Int)) ∧ (0 < c → r = Rt sc xs ys (j + 1) c) ∧ (∀ i, i < c → mi ≤ Rt sc xs ys (j + 1) (i + 1))
noncomputable def OutI (xs ys : List Nat) (j : Nat) (row : List Int) (r : Int) : Prop :=
  (∀ i, i < xs.length → row.getD i 0 = Rt sc xs ys j (i + 1)) ∧ (0 < j → r = Rt sc xs ys j xs.length)
noncomputable def cellV (d r up s : Int) : Int := if d + s < (if up < r then up else r) + 2 then d + s else (if up < r then up else r) + 2
theorem lev_out_start {x y : Str} (hL : (evens x.length).length = x.length) : (evens x.length).length = x.length ∧ OutI x.cps.toList y.cps.toList ([] : List Int).length (evens x.length) 0 := by
  refine ⟨hL, fun i hi => ?_, fun h => absurd h (Nat.lt_irrefl _)⟩
  rw [List.length_nil, Rt_top _ _ _ (by omega)]
  rw [len_list] at hi
  simp only [evens, List.getD_eq_getElem?_getD, List.getElem?_map, List.getElem?_range hi, Option.map_some, Option.getD_some]
  omega
theorem lev_inn_start {x y : Str} {pre row : List Int} {kN r : Int} {big : Int} (hk : kN = 0 + (pre.length : Int)) (hlt : pre.length < ((y.length : Int) - 0).toNat) (hl : row.length = x.length) (hO : OutI x.cps.toList y.cps.toList pre.length row r) :
    row.length = x.length ∧ InnI x.cps.toList y.cps.toList kN.toNat ([] : List Int).length row (kN * 2) (kN * 2) big := by
  have e : kN.toNat = pre.length := by omega
  rw [e]
  refine ⟨hl, fun i hi => absurd hi (Nat.not_lt_zero _), fun i _ hi => hO.1 i hi, ?_, fun _ => by omega, fun h => absurd h (Nat.lt_irrefl _), fun i hi => absurd hi (Nat.not_lt_zero _)⟩
  rw [List.length_nil, Rt_left _ _ _ (by rw [len_list]; omega)]
  omega
theorem getD_set_self {l : List Int} {c : Nat} {v : Int} (h : c < l.length) : (l.set c v).getD c 0 = v := by simp [List.getD_eq_getElem?_getD, h]
theorem getD_set_ne {l : List Int} {c i : Nat} {v : Int} (h : c ≠ i) : (l.set c v).getD i 0 = l.getD i 0 := by simp [List.getD_eq_getElem?_getD, h]
theorem lev_inn_turn {x y : Str} {bi kN : Int} {pre pre0 row : List Int} {d r mi V mi' : Int} (hb : bi = 0 + (pre0.length : Int)) (hb' : pre0.length < ((y.length : Int) - 0).toNat) (hk : kN = 0 + (pre.length : Int)) (hlt : pre.length < ((x.length : Int) - 0).toNat)
    (hl : row.length = x.length) (hI : InnI x.cps.toList y.cps.toList bi.toNat pre.length row d r mi) (hV : V = cellV d r (row.getD kN.toNat 0) (subC (Txt.item y bi) (Txt.item x kN))) (hm : mi' ≤ mi ∧ mi' ≤ V) :
    (row.set kN.toNat V).length = x.length ∧ InnI x.cps.toList y.cps.toList bi.toNat (pre ++ [kN]).length (row.set kN.toNat V) (row.getD kN.toNat 0) V mi' := by
  have e : kN.toNat = pre.length := by omega
  have e2 : (pre ++ [kN]).length = pre.length + 1 := by simp
  have hc : pre.length < x.cps.toList.length := by rw [len_list]; omega
  have hj : bi.toNat < y.cps.toList.length := by rw [len_list]; omega
  obtain ⟨h1, h2, h3, h4, h5, h6⟩ := hI
  rw [item_at (by omega) (by omega), item_at (by omega) (by omega)] at hV
  rw [e] at hV ⊢
  rw [e2]
  have hup := h2 pre.length (Nat.le_refl _) hc
  have hs := sc_cost.sym (y.cps.toList.getD bi.toNat 0) (x.cps.toList.getD pre.length 0)
  have hle := sc_cost.le (x.cps.toList.getD pre.length 0) (y.cps.toList.getD bi.toNat 0)
  have hV2 : V = Rt sc x.cps.toList y.cps.toList (bi.toNat + 1) (pre.length + 1) := by
    rw [Rt_rec _ _ hc hj, ← hup, ← h3, hV]
    change cellV d r (row.getD pre.length 0) (sc (y.cps.toList.getD bi.toNat 0) (x.cps.toList.getD pre.length 0)) = _
    rw [hs]
    generalize sc (x.cps.toList.getD pre.length 0) (y.cps.toList.getD bi.toNat 0) = q at hle
    unfold cellV
    rcases Nat.eq_zero_or_pos pre.length with h0 | h0
    · have hr := h4 h0
      rw [h0, Rt_left _ _ _ (by omega)] at h3
      rw [h0] at hup ⊢
      rw [Rt_left _ _ _ (by omega)]
      generalize row.getD 0 0 = up
      split <;> split <;> omega
    · have hr := h5 h0
      rw [← hr]
      generalize row.getD pre.length 0 = up
      split <;> split <;> omega
  refine ⟨by rw [List.length_set]; exact hl, ?_, ?_, hup, fun h => absurd h (Nat.succ_ne_zero _), fun _ => hV2, ?_⟩
  · intro i hi
    rcases Nat.lt_or_ge i pre.length with h | h
    · rw [getD_set_ne (by omega)]; exact h1 i h
    · have : i = pre.length := by omega
      subst this
      rw [getD_set_self (by rw [hl, ← len_list]; exact hc)]; exact hV2
  · intro i hi hi'
    rw [getD_set_ne (by omega)]
    exact h2 i (by omega) hi'
  · intro i hi
    rcases Nat.lt_or_ge i pre.length with h | h
    · exact Int.le_trans hm.1 (h6 i h)
    · have : i = pre.length := by omega
      subst this
      rw [← hV2]; exact hm.2
theorem lev_out_turn {x y : Str} {kN : Int} {pre row : List Int} {d r mi : Int} (hx0 : 0 < x.length) (hk : kN = 0 + (pre.length : Int)) (hl : row.length = x.length) (hI : InnI x.cps.toList y.cps.toList kN.toNat (rangeKs 0 ((x.length : Int) - 0).toNat).length row d r mi) :
    row.length = x.length ∧ OutI x.cps.toList y.cps.toList (pre ++ [kN]).length row r := by
  have e : kN.toNat = pre.length := by omega
  have e2 : (pre ++ [kN]).length = pre.length + 1 := by simp
  have e3 : (rangeKs 0 ((x.length : Int) - 0).toNat).length = x.cps.toList.length := by rw [rangeKs_length, len_list]; omega
  rw [e, e3] at hI
  rw [e2]
  exact ⟨hl, hI.1, fun _ => hI.2.2.2.2.1 (by rw [len_list]; exact hx0)⟩
theorem lev_stop {x y : Str} {kN mc : Int} {pre row : List Int} {d r mi : Int} (hx0 : 0 < x.length) (hk : kN = 0 + (pre.length : Int)) (hlt : pre.length < ((y.length : Int) - 0).toNat) (hD : levS x y ≤ mc + 1) (hI : InnI x.cps.toList y.cps.toList kN.toNat (rangeKs 0 ((x.length : Int) - 0).toNat).length row d r mi) (hm : mc < mi) :
    mc + 1 = levS x y := by
  have e3 : (rangeKs 0 ((x.length : Int) - 0).toNat).length = x.cps.toList.length := by rw [rangeKs_length, len_list]; omega
  rw [e3] at hI
  have := Rt_stop sc_cost x.cps.toList y.cps.toList (mc + 1) (j := kN.toNat) (by rw [len_list]; omega) (by rw [len_list]; exact hx0) (fun i hi => by have := hI.2.2.2.2.2 i hi; omega)
  unfold levS at hD ⊢
  omega
theorem lev_far {x y : Str} {mc : Int} (hD : levS x y ≤ mc + 1) (hm : mc < ((y.length : Int) - (x.length : Int)) * 2) : mc + 1 = levS x y := by
  have := lev_ge sc_cost x.cps.toList y.cps.toList
  rw [len_list, len_list] at this
  unfold levS at hD ⊢
  omega
theorem lev_done {x y : Str} {row : List Int} {r : Int} (hy0 : 0 < y.length) (hO : OutI x.cps.toList y.cps.toList (rangeKs 0 ((y.length : Int) - 0).toNat).length row r) : r = levS x y := by
  have e3 : (rangeKs 0 ((y.length : Int) - 0).toNat).length = y.cps.toList.length := by rw [rangeKs_length, len_list]; omega
  rw [e3] at hO
  rw [hO.2 (by rw [len_list]; exact hy0), Rt_all]; rfl
end
section
open PySem PySem.W PyProof.Rows
set_option maxRecDepth 100000
set_option maxHeartbeats 4000000
noncomputable def levDef : List PySem.Stmt × PySem.Scope := match (PySem.Challenge.pw_pu0018_01.main.body[5]? : Option PySem.Stmt) with
  | some (PySem.Stmt.FunctionDef _ _ body _ _ _ scp _ _ _) => (body, scp)
  | _ => ([], default)
theorem fr_norm3 {h₀ : Heap} {L : Addr} {h : Heap} {m : Str → Option Value} {a b c : Str} {va vb vc : Value} (F : Fr h₀ L h m) (ha : m a = some va) (hb : m b = some vb) (hc : m c = some vc) :
    Fr h₀ L h (fun z => if z = a then some va else if z = b then some vb else if z = c then some vc else m z) := by
  have e : (fun z => if z = a then some va else if z = b then some vb else if z = c then some vc else m z) = m := by
    funext z
    by_cases h1 : z = a
    · rw [if_pos h1, h1, ha]
    · rw [if_neg h1]
      by_cases h2 : z = b
      · rw [if_pos h2, h2, hb]
      · rw [if_neg h2]
        by_cases h3 : z = c
        · rw [if_pos h3, h3, hc]
        · rw [if_neg h3]
  rw [e]; exact F
theorem ints_of : ∀ (l : List Value) (f : Nat → Int), (∀ j v, l[j]? = some v → ∃ t, v = Value.int (f j) t) → IntsAre l ((List.range l.length).map f)
  | [], _, _ => .nil
  | v :: r, f, h => by
    obtain ⟨t, rfl⟩ := h 0 v rfl
    have ih := ints_of r (fun j => f (j + 1)) (fun j v hj => h (j + 1) v (by simpa using hj))
    rw [List.length_cons, List.range_succ_eq_map, List.map_cons, List.map_map]
    exact .cons _ _ ih
theorem rs2 (n : Nat) : Builtin.Range.rangeSize 2 (2 * ((n : Int) + 1)) 2 = (n : Int) := by
  unfold Builtin.Range.rangeSize
  simp only [show (2 : Int) > 0 by decide, if_true]
  split <;> omega
theorem fits_long {i : Int} (h : -1000 ≤ i) (h' : i < 1000) : Builtin.Range.rangeFitsLong i = true := by
  unfold Builtin.Range.rangeFitsLong
  rw [Bool.and_eq_true]
  exact ⟨decide_eq_true (by omega), decide_eq_true (by omega)⟩
theorem small2 {n : Nat} (h : n ≤ 100) : Builtin.Range.small 2 (2 * ((n : Int) + 1)) 2 = true := by
  unfold Builtin.Range.small
  rw [rs2, fits_long (i := 2) (by omega) (by omega), fits_long (i := 2 * ((n : Int) + 1)) (by omega) (by omega), fits_long (i := (n : Int)) (by omega) (by omega), if_pos (show (2 : Int) > 0 by decide), fits_long (i := 2 * ((n : Int) + 1) + (2 - 1)) (by omega) (by omega), Bool.or_true]
  rfl
theorem list_range2 {prog : Program} {w : World} {A : Around} {E : Value → Shared → Prop} {s : Shared} {h₀ : Heap} {L r : Addr} {m : Str → Option Value} {news : List (Addr × Obj)} {t₀ u₀ v₀ : Tok} {n : Nat} {Q : Value → Shared → Prop}
    (hh : A.handled = none) (F : Fr h₀ L s.heap m) (N : News h₀ L s.heap news) (hr : IsRange s.heap r 2 (2 * ((n : Int) + 1)) 2 t₀ u₀ v₀) (hz : n ≤ 100)
    (h : ∀ D us c h' tk, Fr h₀ L h' m → News h₀ L h' ((D, listOf (List.toArray us) c) :: news) → (∀ p ∈ news, p.1 < D) → IntsAre us (evens n) → Q (.ref D) { s with heap := h', toks := tk }) :
    wpAny (model prog w) A (call (.type "list") [.ref r]) Q E s := by
  refine call_list_range hh hr (small2 hz) (rs2 n) (by omega) fun h' tk acc c hk hD hI => ?_
  have hD' : h'.get? s.heap.objs.size = some (listOf (List.toArray acc.toList) c) := by
    rw [Array.toArray_toList]
    exact hD
  have hi := ints_of acc.toList (fun (j : Nat) => (2 : Int) + (j : Int) * 2) (fun j v hj => hI.2 j v (by rw [← hj, Array.getElem?_toList]))
  rw [Array.length_toList, hI.1] at hi
  exact h _ acc.toList c h' tk (F.keeps hk) (news_pushed F N hk hD' rfl) (fun p hp => Heap.lt_size (N p hp).1) hi
theorem evens_len {vs : List Value} {n : Nat} (_h : IntsAre vs (evens n)) : (evens n).length = n := by simp [evens]
theorem lev_tail2 {w mean mg mb} (news : List (Addr × Obj)) (x y : Str) (ta tb tv : Tok) (mc : Int) (hx0 : 0 < x.length) (hxy : x.length ≤ y.length) (hy : y.length ≤ 10) (hD : levS x y ≤ mc + 1)
    (dp un : Nat) (gd : Option (List Code)) (cn : Str) (cs : Scope) (L a : Addr) (ccd : Value) (cl : List (Str × Addr)) (outer : List Env) (base g' : Heap) (L' : Addr) (m : Str → Option Value) (s : Shared) (Q : Flow → Shared → Prop)
    (B' : Below (ktrTop dp un gd cn cs L a ccd cl outer) base (envX cn cs L a ccd cl :: outer) g') (F : Fr g' L' s.heap m) (X' : (hd.heap_39 w.params).In g') (N : News g' L' s.heap news) (T' : Top hd.view_39 LO mean mg mb g')
    (hd : dp + 2 < recursionLimit) (hu : un + 16 < cLine)
    (ha : m (Str.ofString "a") = some (.str x ta)) (hb : m (Str.ofString "b") = some (.str y tb)) (hm : m (Str.ofString "max_cost") = some (.int mc tv))
    (hQ : ∀ (t' : Tok) (h : Heap) (tk : Nat) (m' : Str → Option Value), Fr g' L' h m' → News g' L' h news → Q (.ret (.int (levS x y) t')) { s with heap := h, toks := tk }) :
    wpAny (model PR w) ((ktrTop dp un gd cn cs L a ccd cl outer).deeper (envOf (Str.ofString "_levenshtein_distance") levDef.2 L' 28 (.ref 27))) (execs levDef.1.tail.tail.tail.tail.tail.tail.tail.tail.tail.tail.tail.tail (envOf (Str.ofString "_levenshtein_distance") levDef.2 L' 28 (.ref 27))) Q (fun _ _ => False) s := by
  unfold levDef PR
  dsimp only [PySem.Challenge.pw_pu0018_01, List.getElem?_cons_succ, List.getElem?_cons_zero, List.tail_cons]
  revert X'
  w_top off
  k_with_none
  k_with "my call type:list" => ((with_reducible show wpAny _ _ (call (Value.type _) [Value.ref _]) _ _ _); (with_unfolding_all refine' list_range2 ?k0 ?k1 ?k2 ?k3 ?k6 ?_; (case k0 => rfl); (case k1 => k_asm); (case k2 => k_asm); (case k3 => assumption); (case k6 => omega)); intro D' vs' c' h' tk' F' N' l1 hI'; (have hL' := evens_len hI'))
  k_with "my call ref" => ((with_reducible show wpAny _ _ (call (Value.ref 21) [Value.str _ _, Value.str _ _]) _ _ _); k_dflt (refine' subst_ct _ _ _ _ _ ?hx ?hy _ _ _ _ _ _ _ _ _ _ _ _ _ _ _ _ _ ?k1 ?k2 ?k3 ?k4 ?k5 ?kK ?kd ?ku ?_; (case k1 => k_asm); (case k2 => k_asm); (case k3 => k_asm); (case k4 => k_asm); (case k5 => k_asm); (case hx => omega); (case hy => omega); (case kK => first | exact rfl | assumption); (case kd => ktr_room); (case ku => ktr_units)); intro r9 h9 tk9 F9 N9 hp9; obtain ⟨t9, e8⟩ := hp9; subst e8; (try dsimp only); (try k_fold))
  k_with "my pyIter ref" => (k_of "index" => k_state_given ["bindex", "a", "b"] (fun bi x y pre row d r mi => row.length = x.length ∧ InnI x.cps.toList y.cps.toList bi.toNat pre.length row d r mi) "row" "distance" "result" "minimum")
  k_fill
  intro X'
  have F0 := fr_norm3 F ha hb hm
  clear F ha hb hm
  k_with_none
  k_with "my call type:list" => ((with_reducible show wpAny _ _ (call (Value.type _) [Value.ref _]) _ _ _); (with_unfolding_all refine' list_range2 ?k0 ?k1 ?k2 ?k3 ?k6 ?_; (case k0 => rfl); (case k1 => k_asm); (case k2 => k_asm); (case k3 => assumption); (case k6 => omega)); intro D' vs' c' h' tk' F' N' l1 hI'; (have hL' := evens_len hI'))
  k_with "my call ref" => ((with_reducible show wpAny _ _ (call (Value.ref 21) [Value.str _ _, Value.str _ _]) _ _ _); k_dflt (refine' subst_ct _ _ _ _ _ ?hx ?hy _ _ _ _ _ _ _ _ _ _ _ _ _ _ _ _ _ ?k1 ?k2 ?k3 ?k4 ?k5 ?kK ?kd ?ku ?_; (case k1 => k_asm); (case k2 => k_asm); (case k3 => k_asm); (case k4 => k_asm); (case k5 => k_asm); (case hx => omega); (case hy => omega); (case kK => first | exact rfl | assumption); (case kd => ktr_room); (case ku => ktr_units)); intro r9 h9 tk9 F9 N9 hp9; obtain ⟨t9, e8⟩ := hp9; subst e8; (try dsimp only); (try k_fold))
  k_with "my pyIter ref" => (k_of "index" => k_state_given ["bindex", "a", "b"] (fun bi x y pre row d r mi => row.length = x.length ∧ InnI x.cps.toList y.cps.toList bi.toNat pre.length row d r mi) "row" "distance" "result" "minimum")
  (try k_fold)
  k_with "pyIter ref" => (k_of "bindex" => k_state (fun pre row r => row.length = x.length ∧ OutI x.cps.toList y.cps.toList pre.length row r) "row" "result")
  k_with "state" => first | exact lev_out_start (by assumption) | exact lev_inn_start (by assumption) (by assumption) (by assumption) (by assumption) | exact lev_inn_turn (by assumption) (by assumption) (by assumption) (by assumption) (by assumption) (by assumption) rfl ⟨Int.le_of_lt (by assumption), Int.le_refl _⟩ | exact lev_inn_turn (by assumption) (by assumption) (by assumption) (by assumption) (by assumption) (by assumption) rfl ⟨Int.le_refl _, Int.not_lt.mp (by assumption)⟩ | exact lev_out_turn hx0 (by assumption) (by assumption) (by assumption)
  k_steps
  · have e := lev_far hD (by assumption)
    rw [e]
    exact hQ _ _ _ _ (by k_asm) (by k_asm)
  · have e := lev_stop hx0 (by assumption) (by assumption) hD (by assumption) (by assumption)
    rw [e]
    exact hQ _ _ _ _ (by k_asm) (cb_drop (by k_asm) (fun p hp => by simp [hp]))
  · have e := lev_done (x := x) (y := y) (by omega) (by assumption)
    rw [e]
    exact hQ _ _ _ _ (by k_asm) (cb_drop (by k_asm) (fun p hp => by simp [hp]))
end
section
open PySem PySem.W PyProof.Rows
set_option maxRecDepth 100000
set_option maxHeartbeats 4000000
noncomputable def Hold (P : Prop) : Prop := P
theorem Hold.out {P : Prop} (h : Hold P) : P := h
theorem lev_empty {x y : Str} (h : (x.length : Int) = 0 ∨ (y.length : Int) = 0) : 2 * ((x.length : Int) + (y.length : Int)) = levS x y := by
  unfold levS
  rcases h with h | h
  · have e : x.cps.toList = [] := List.length_eq_zero_iff.mp (by rw [len_list]; omega)
    rw [e, lev_nl, len_list]; omega
  · have e : y.cps.toList = [] := List.length_eq_zero_iff.mp (by rw [len_list]; omega)
    rw [e, lev_nr, len_list]; omega
theorem levS_sym (x y : Str) : levS x y = levS y x := lev_sym sc_cost _ _
theorem lev_tail1 {w mean mg mb} (news : List (Addr × Obj)) (x y : Str) (ta tb tv : Tok) (mc : Int) (hx : x.length ≤ 10) (hy : y.length ≤ 10) (hD : levS x y ≤ mc + 1)
    (dp un : Nat) (gd : Option (List Code)) (cn : Str) (cs : Scope) (L a : Addr) (ccd : Value) (cl : List (Str × Addr)) (outer : List Env) (base g' : Heap) (L' : Addr) (m : Str → Option Value) (s : Shared) (Q : Flow → Shared → Prop)
    (B' : Below (ktrTop dp un gd cn cs L a ccd cl outer) base (envX cn cs L a ccd cl :: outer) g') (F : Fr g' L' s.heap m) (X' : (hd.heap_39 w.params).In g') (N : News g' L' s.heap news) (T' : Top hd.view_39 LO mean mg mb g')
    (hd : dp + 2 < recursionLimit) (hu : un + 16 < cLine)
    (ha : m (Str.ofString "a") = some (.str x ta)) (hb : m (Str.ofString "b") = some (.str y tb)) (hm : m (Str.ofString "max_cost") = some (.int mc tv))
    (hQ : ∀ (t' : Tok) (h : Heap) (tk : Nat) (m' : Str → Option Value), Fr g' L' h m' → News g' L' h news → Q (.ret (.int (levS x y) t')) { s with heap := h, toks := tk }) :
    wpAny (model PR w) ((ktrTop dp un gd cn cs L a ccd cl outer).deeper (envOf (Str.ofString "_levenshtein_distance") levDef.2 L' 28 (.ref 27))) (execs levDef.1.tail.tail.tail.tail.tail.tail.tail.tail.tail (envOf (Str.ofString "_levenshtein_distance") levDef.2 L' 28 (.ref 27))) Q (fun _ _ => False) s := by
  unfold levDef PR
  dsimp only [PySem.Challenge.pw_pu0018_01, List.getElem?_cons_succ, List.getElem?_cons_zero, List.tail_cons]
  revert X'
  w_top off
  k_with_none
  k_with "my execs cons" => ((with_reducible show wpAny _ _ (execs (Stmt.If (Expr.Compare (Expr.BinOp _ _ _ _) _ _ _) _ _ _ :: _) _) _ _ _); refine Hold.out ?_)
  k_fill
  intro X'
  have F0 := fr_norm3 F ha hb hm
  clear F ha hb hm
  k_with_none
  k_with "my execs cons" => ((with_reducible show wpAny _ _ (execs (Stmt.If (Expr.Compare (Expr.BinOp _ _ _ _) _ _ _) _ _ _ :: _) _) _ _ _); refine Hold.out ?_)
  (try k_fold)
  k_steps
  · unfold Hold
    have e := levS_sym x y
    exact lev_tail2 news y x tb ta tv mc (by omega) (by omega) hx (by rw [← e]; exact hD) dp un gd cn cs L a ccd cl outer base g' L' _ _ Q B' (by k_asm) X' (cb_drop (by k_asm) (fun p hp => by simp [hp])) T' hd hu rfl rfl rfl (fun t' h tk m' F N => by rw [← e]; exact hQ t' h tk m' F N)
  · unfold Hold
    exact lev_tail2 news x y ta tb tv mc (by omega) (by omega) hy hD dp un gd cn cs L a ccd cl outer base g' L' _ _ Q B' (by k_asm) X' (by k_asm) T' hd hu rfl rfl rfl hQ
  · rw [lev_empty (x := x) (y := y) (Or.inr (by assumption))]
    exact hQ _ _ _ _ (by k_asm) (by k_asm)
  · rw [lev_empty (x := x) (y := y) (Or.inl (by assumption))]
    exact hQ _ _ _ _ (by k_asm) (by k_asm)
end
section
open PySem PySem.W PyProof.Rows
set_option maxRecDepth 100000
set_option maxHeartbeats 4000000
theorem lookup3 (z k1 k2 k3 : Str) (v1 v2 v3 : Value) : List.lookup z [(k1, v1), (k2, v2), (k3, v3)] = if z = k1 then some v1 else if z = k2 then some v2 else if z = k3 then some v3 else none := by
  have f : ∀ (k : Str) (v : Value) (r : List (Str × Value)), List.lookup z ((k, v) :: r) = if z = k then some v else List.lookup z r := by
    intro k v r
    by_cases h : z = k
    · subst h; simp
    · rw [if_neg h]
      have : (z == k) = false := by simpa using h
      simp [List.lookup, this]
  rw [f, f, f]; rfl
theorem slice_all (x : Str) : Txt.slice x none none = x := by
  unfold Txt.slice
  rw [if_pos]
  simp [Builtin.Str.strSliceIndices, sliceRange]
  split <;> omega
theorem sl_neg_len {x : Str} {q : Int} (h0 : q < 0) (h1 : 0 ≤ q + (x.length : Int)) : ((Txt.slice x none (some q)).length : Int) = (x.length : Int) + q := by
  rw [← len_list, sl_to_neg h0 h1, List.length_take, len_list]
  omega
section
variable {prog : Program} {w : World} {A : Around} {E : Value → Shared → Prop} {s : Shared} {h₀ : Heap} {L : Addr} {m : Str → Option Value} {news : List (Addr × Obj)} {Q : Value → Shared → Prop} {value slice : PySem.Expr} {x : Str} {t : Tok}
theorem my_all (hF : Fr h₀ L s.heap m) (hN : News h₀ L s.heap news) (h : ∀ h' t' k, Fr h₀ L h' m → News h₀ L h' news → Q (.str x t') { s with heap := h', toks := k })
    (hs : subscripted slice false (.str x t) (.ref s.heap.objs.size) = operate [.ref s.heap.objs.size, .str x t] (getItem (.str x t) (.ref s.heap.objs.size)) := by with_unfolding_all rfl)
    (ht : ∀ r, letTemporaryGo value (.str x t) r = pure () := by intro _; with_unfolding_all rfl) (hsz : x.length ≤ sizeLine := by size_fits) :
    wpAny (model prog w) A (subscriptTail value slice (.str x t) (.ref s.heap.objs.size)) Q E { s with heap := s.heap.push { cls := .type "slice", data := .fields #[.none, .none, .none] } } :=
  slice_strN_nn hF hN (fun h' t' k a b => by rw [slice_all]; exact h h' t' k a b) hs ht hsz
theorem my_neg {j : Int} {uj : Tok} (hF : Fr h₀ L s.heap m) (hN : News h₀ L s.heap news) (h0 : j < 0) (h1 : 0 ≤ j + (x.length : Int)) (h : ∀ h' t' k, Fr h₀ L h' m → News h₀ L h' news → ((Txt.slice x none (some j)).length : Int) = (x.length : Int) + j → Q (.str (Txt.slice x none (some j)) t') { s with heap := h', toks := k })
    (hs : subscripted slice false (.str x t) (.ref s.heap.objs.size) = operate [.ref s.heap.objs.size, .str x t] (getItem (.str x t) (.ref s.heap.objs.size)) := by with_unfolding_all rfl)
    (ht : ∀ r, letTemporaryGo value (.str x t) r = pure () := by intro _; with_unfolding_all rfl) (hsz : x.length ≤ sizeLine := by size_fits) :
    wpAny (model prog w) A (subscriptTail value slice (.str x t) (.ref s.heap.objs.size)) Q E { s with heap := s.heap.push { cls := .type "slice", data := .fields #[.none, .int j uj, .none] } } :=
  slice_strN_ns hF hN (fun h' t' k a b => h h' t' k a b (sl_neg_len h0 h1)) hs ht hsz
end
theorem lev_same (x : Str) : levS x x = 0 := by
  have := lev_pre sc_cost [] [] x.cps.toList
  rw [List.append_nil] at this
  rw [levS, this, lev_nl]; rfl
theorem fr_eq {h₀ : Heap} {L : Addr} {h : Heap} {m m' : Str → Option Value} (F : Fr h₀ L h m) (e : ∀ z, m z = m' z) : Fr h₀ L h m' := (funext e : m = m') ▸ F
theorem lev_ct {w mean mg mb} (news : List (Addr × Obj)) (x y : Str) (t u v : Tok) (mc : Int) (hx : x.length ≤ 10) (hy : y.length ≤ 10) (hD : levS x y ≤ mc + 1) :
   Ct w mean mg mb 28 [.str x t, .str y u, .int mc v] [] news 2 16 (fun r => ∃ t', r = .int (levS x y) t') := by
  unfold Ct PR
  w_top off
  k_with_none
  k_with "my subscriptTail Name Slice str ref" => ((with_reducible show wpAny _ _ (subscriptTail _ (Expr.Slice none (some _) none _) _ _) _ _ _); first | (exfalso; omega) | ((with_reducible rename Fr _ _ _ _ => F'); (with_reducible rename News _ _ _ _ => N'); (refine my_all (hsz := ?hsz) (s := ⟨_, _, _, _, _⟩) F' N' ?_); (case hsz => size_fits); intro _ _ _ _ _) | ((with_reducible rename Fr _ _ _ _ => F'); (with_reducible rename News _ _ _ _ => N'); (refine my_neg (hsz := ?hsz) (s := ⟨_, _, _, _, _⟩) F' N' (by omega) (by omega) ?_); (case hsz => size_fits); intro _ _ _ _ _ _))
  k_with "my execs cons" => ((with_reducible show wpAny _ _ (execs (Stmt.If (Expr.BoolOp _ (Expr.UnaryOp _ _ _ :: _) _) _ _ _ :: _) _) _ _ _); refine Hold.out ?_)
  k_with "my exec While BoolOp cons nil" => refine Hold.out ?_
  k_fill
  intro dp un gd cn cs a ccd cl outer A₀ base h₀ L m s Q E B F X N T hk hd hu hret
  refine wpAny_call ?_
  k_dflt (refine' code_def ?k1 ?k2 ?k3 ?k4 ?k5 ?kA ?kF ?kK ?k6 ?k7 ?k8 ?k9 ?kB ?_ ?c2 ?c3 ?c4 ?c5; (case kA => exact rfl); (case kF => exact rfl); (case kK => assumption); (case k1 => k_asm); (case k2 => k_asm); (case k3 => k_asm); (case k4 => k_asm); (case k5 => k_asm); (case k6 => k_is); (case k7 => k_is); (case k8 => ktr_room); (case k9 => first | exact BindsTo.of_eq rfl | exact binds_K (by k_in) rfl (by k_is) rfl rfl rfl); (case c5 => decide); (case kB => exact locs rfl); (case c2 => exact rfl); (case c3 => exact rfl); (case c4 => exact rfl); k_whole; intro g' L' h' FG' F' N' B' X' T'; (try dsimp only); (try k_lift B'); (try k_fold))
  have F0 : Fr g' L' h' (fun z => List.lookup z [(Str.ofString "max_cost", Value.int mc v), (Str.ofString "b", Value.str y u), (Str.ofString "a", Value.str x t)]) := by with_unfolding_all exact F'
  rw [show (fun z => List.lookup z [(Str.ofString "max_cost", Value.int mc v), (Str.ofString "b", Value.str y u), (Str.ofString "a", Value.str x t)]) = _ from funext fun z => lookup3 z _ _ _ _ _ _] at F0
  clear F'
  k_with_none
  k_with "my subscriptTail Name Slice str ref" => ((with_reducible show wpAny _ _ (subscriptTail _ (Expr.Slice none (some _) none _) _ _) _ _ _); first | (exfalso; omega) | ((with_reducible rename Fr _ _ _ _ => F'); (with_reducible rename News _ _ _ _ => N'); (refine my_all (hsz := ?hsz) (s := ⟨_, _, _, _, _⟩) F' N' ?_); (case hsz => size_fits); intro _ _ _ _ _) | ((with_reducible rename Fr _ _ _ _ => F'); (with_reducible rename News _ _ _ _ => N'); (refine my_neg (hsz := ?hsz) (s := ⟨_, _, _, _, _⟩) F' N' (by omega) (by omega) ?_); (case hsz => size_fits); intro _ _ _ _ _ _))
  k_with "my execs cons" => ((with_reducible show wpAny _ _ (execs (Stmt.If (Expr.BoolOp _ (Expr.UnaryOp _ _ _ :: _) _) _ _ _ :: _) _) _ _ _); refine Hold.out ?_)
  k_with "my exec While BoolOp cons nil" => refine Hold.out ?_
  k_steps
  · rename (x == y) = true => hxy
    obtain rfl := eq_of_beq hxy
    exact hret _ _ _ (by k_asm) (by k_asm) ⟨_, congrArg (fun k => Value.int k _) (lev_same x).symm⟩
  unfold Hold
  refine wpAny_mono (Q := fun f s2 => Hold (f = Flow.next ∧ ∃ (p : Int) (tp : Tok) (h : Heap) (tk : Nat), s2 = { s with heap := h, toks := tk } ∧ 0 ≤ p ∧ p ≤ (x.length : Int) ∧ p ≤ (y.length : Int) ∧ Pre x y p ∧
    Fr g' L' h (fun z => if z = Str.ofString "pre" then some (Value.int p tp) else if z = Str.ofString "max_cost" then some (Value.int mc v) else if z = Str.ofString "b" then some (Value.str y u) else if z = Str.ofString "a" then some (Value.str x t) else none) ∧ News g' L' h news)) ?loop1 ?rest1 (fun _ _ h => h)
  case loop1 =>
    k_with "state" => first | exact ⟨by omega, by omega, by omega, pre_start _ _⟩ | exact ⟨by omega, by omega, by omega, pre_turn (by assumption) (by omega) (by omega) (by assumption) (by assumption)⟩
    k_while (fun _ p => 0 ≤ p ∧ p ≤ (x.length : Int) ∧ p ≤ (y.length : Int) ∧ Pre x y p) (fun _ p => (10 - p).toNat) "pre"
    k_steps
    all_goals (refine' ⟨rfl, _, _, _, _, rfl, by assumption, by assumption, by assumption, by assumption, fr_eq (by k_asm) (fun z => ?e), by k_asm⟩; case e => by_cases hz : z = Str.ofString "pre"; (case pos => subst hz; rfl); (case neg => simp [kstB, hz]))
  case rest1 =>
    rintro f s2 ⟨rfl, p, tp, h1, tk1, rfl, hp0, hp1, hp2, hP, F1, N1⟩
    have hT := pre_end hp0 hp1 hp2 hP
    k_steps
    unfold Hold
    rename Fr _ _ _ _ => F2
    rename News _ _ _ _ => N2
    have hl1 := Nat.le_trans (Txt.slice_le x (some p) none) hx
    have hl2 := Nat.le_trans (Txt.slice_le y (some p) none) hy
    rw [hT] at hD hret
    clear hT hP
    generalize Txt.slice x (some p) none = a1 at hD hret hl1 F2
    generalize Txt.slice y (some p) none = b1 at hD hret hl2 F2
    refine wpAny_mono (Q := fun f s2 => Hold (f = Flow.next ∧ ∃ (q : Int) (tq ta tb tp : Tok) (h : Heap) (tk : Nat), s2 = { s with heap := h, toks := tk } ∧ q ≤ 0 ∧ -q ≤ (a1.length : Int) ∧ -q ≤ (b1.length : Int) ∧ Suf a1 b1 q ∧
      Fr g' L' h (fun z => if z = Str.ofString "post" then some (Value.int q tq) else if z = Str.ofString "b" then some (Value.str b1 tb) else if z = Str.ofString "a" then some (Value.str a1 ta) else if z = Str.ofString "pre" then some (Value.int p tp) else if z = Str.ofString "max_cost" then some (Value.int mc v) else none) ∧ News g' L' h news)) ?loop2 ?rest2 (fun _ _ h => h)
    case loop2 =>
      k_with_none
      k_with "my subscriptTail Name Slice str ref" => ((with_reducible show wpAny _ _ (subscriptTail _ (Expr.Slice none (some _) none _) _ _) _ _ _); first | (exfalso; omega) | ((with_reducible rename Fr _ _ _ _ => F'); (with_reducible rename News _ _ _ _ => N'); (refine my_all (hsz := ?hsz) (s := ⟨_, _, _, _, _⟩) F' N' ?_); (case hsz => size_fits); intro _ _ _ _ _) | ((with_reducible rename Fr _ _ _ _ => F'); (with_reducible rename News _ _ _ _ => N'); (refine my_neg (hsz := ?hsz) (s := ⟨_, _, _, _, _⟩) F' N' (by omega) (by omega) ?_); (case hsz => size_fits); intro _ _ _ _ _ _))
      k_with "my execs cons" => ((with_reducible show wpAny _ _ (execs (Stmt.If (Expr.BoolOp _ (Expr.UnaryOp _ _ _ :: _) _) _ _ _ :: _) _) _ _ _); refine Hold.out ?_)
      k_with "my exec While BoolOp cons nil" => refine Hold.out ?_
      k_with "state" => first | exact ⟨by omega, by omega, by omega, suf_start _ _⟩ | exact ⟨by omega, by omega, by omega, suf_turn (by assumption) (by omega) (by omega) (by assumption) (by assumption)⟩
      k_while (fun _ q => q ≤ 0 ∧ -q ≤ (a1.length : Int) ∧ -q ≤ (b1.length : Int) ∧ Suf a1 b1 q) (fun _ q => (10 + q).toNat) "post"
      k_steps
      all_goals (refine' ⟨rfl, _, _, _, _, _, _, _, rfl, by assumption, by assumption, by assumption, by assumption, fr_eq (by k_asm) (fun z => ?e), by k_asm⟩; case e => by_cases z1 : z = Str.ofString "post"; (case pos => subst z1; rfl); (case neg => by_cases z2 : z = Str.ofString "b"; (case pos => subst z2; rfl); (case neg => by_cases z3 : z = Str.ofString "a"; (case pos => subst z3; rfl); (case neg => by_cases z4 : z = Str.ofString "pre"; (case pos => subst z4; rfl); (case neg => simp [kstB, z1, z2, z3, z4])))))
    case rest2 =>
      rintro f s2 ⟨rfl, q, tq, ta, tb, tp', h2, tk2, rfl, hq0, hq1, hq2, hS, F3, N3⟩
      k_with_none
      k_with "my subscriptTail Name Slice str ref" => ((with_reducible show wpAny _ _ (subscriptTail _ (Expr.Slice none (some _) none _) _ _) _ _ _); first | (exfalso; omega) | ((with_reducible rename Fr _ _ _ _ => F'); (with_reducible rename News _ _ _ _ => N'); (refine my_all (hsz := ?hsz) (s := ⟨_, _, _, _, _⟩) F' N' ?_); (case hsz => size_fits); intro _ _ _ _ _) | ((with_reducible rename Fr _ _ _ _ => F'); (with_reducible rename News _ _ _ _ => N'); (refine my_neg (hsz := ?hsz) (s := ⟨_, _, _, _, _⟩) F' N' (by omega) (by omega) ?_); (case hsz => size_fits); intro _ _ _ _ _ _))
      k_with "my execs cons" => ((with_reducible show wpAny _ _ (execs (Stmt.If (Expr.BoolOp _ (Expr.UnaryOp _ _ _ :: _) _) _ _ _ :: _) _) _ _ _); refine Hold.out ?_)
      k_with "my exec While BoolOp cons nil" => refine Hold.out ?_
      k_steps
      · unfold Hold
        have hT2 := suf_end (by omega) hq1 hq2 hS
        refine wpAny_mono (lev_tail1 news _ _ _ _ v mc (Nat.le_trans (Txt.slice_le a1 none (some q)) hl1) (Nat.le_trans (Txt.slice_le b1 none (some q)) hl2) (by rw [← hT2]; exact hD) dp un gd cn cs L a ccd cl outer base g' L' _ _ _ B' (by k_asm) X' (by k_asm) T' hd hu rfl rfl rfl (fun t' h tk m' F5 N5 => ?_)) (fun _ _ h => h) (fun _ _ h => h.elim)
        rw [← hT2]
        k_steps
        exact hret _ _ _ (by k_asm) (by k_asm) ⟨_, rfl⟩
      · unfold Hold
        refine wpAny_mono (lev_tail1 news _ _ _ _ v mc hl1 hl2 hD dp un gd cn cs L a ccd cl outer base g' L' _ _ _ B' (by k_asm) X' (by k_asm) T' hd hu rfl rfl rfl (fun t' h tk m' F5 N5 => ?_)) (fun _ _ h => h) (fun _ _ h => h.elim)
        k_steps
        exact hret _ _ _ (by k_asm) (by k_asm) ⟨_, rfl⟩
end
section
open PySem PySem.W PyProof.Rows
set_option maxRecDepth 100000
set_option maxHeartbeats 4000000
theorem tel_ct {w mean mg mb} (news : List (Addr × Obj)) (x y : Str) (t u v q : Tok) (due more : Int) (hx : x.length ≤ 10) (hy : y.length ≤ 10) (hD : due = levS x y) (hm : 0 ≤ more) :
   Ct w mean mg mb 86 [.str x t, .str y u, .int due v, .int more q] [] news 3 24 (fun r => r = .bool true) := by
  unfold Ct PR
  w_top off
  k_with_none
  k_with "my call ref" => ((with_reducible show wpAny _ _ (call (Value.ref 28) [Value.str _ _, Value.str _ _, Value.int _ _]) _ _ _); k_dflt (refine' lev_ct _ _ _ _ _ _ _ ?hx ?hy ?hD _ _ _ _ _ _ _ _ _ _ _ _ _ _ _ _ _ ?k1 ?k2 ?k3 ?k4 ?k5 ?kK ?kd ?ku ?_; (case k1 => k_asm); (case k2 => k_asm); (case k3 => k_asm); (case k4 => k_asm); (case k5 => k_asm); (case hx => omega); (case hy => omega); (case hD => omega); (case kK => first | exact rfl | assumption); (case kd => ktr_room); (case ku => ktr_units)); intro r9 h9 tk9 F9 N9 hp9; obtain ⟨t9, e8⟩ := hp9; subst e8; (try dsimp only); (try k_fold))
  k_fill
  intro dp un gd cn cs a ccd cl outer A₀ base h₀ L m s Q E B F X N T hk hd hu hret
  refine wpAny_call ?_
  k_dflt (refine' code_def ?k1 ?k2 ?k3 ?k4 ?k5 ?kA ?kF ?kK ?k6 ?k7 ?k8 ?k9 ?kB ?_ ?c2 ?c3 ?c4 ?c5; (case kA => exact rfl); (case kF => exact rfl); (case kK => assumption); (case k1 => k_asm); (case k2 => k_asm); (case k3 => k_asm); (case k4 => k_asm); (case k5 => k_asm); (case k6 => k_is); (case k7 => k_is); (case k8 => ktr_room); (case k9 => first | exact BindsTo.of_eq rfl | exact binds_K (by k_in) rfl (by k_is) rfl rfl rfl); (case c5 => decide); (case kB => exact locs rfl); (case c2 => exact rfl); (case c3 => exact rfl); (case c4 => exact rfl); k_whole; intro g' L' h' FG' F' N' B' X' T'; (try dsimp only); (try k_lift B'); (try k_fold))
  k_with_none
  k_with "my call ref" => ((with_reducible show wpAny _ _ (call (Value.ref 28) [Value.str _ _, Value.str _ _, Value.int _ _]) _ _ _); k_dflt (refine' lev_ct _ _ _ _ _ _ _ ?hx ?hy ?hD _ _ _ _ _ _ _ _ _ _ _ _ _ _ _ _ _ ?k1 ?k2 ?k3 ?k4 ?k5 ?kK ?kd ?ku ?_; (case k1 => k_asm); (case k2 => k_asm); (case k3 => k_asm); (case k4 => k_asm); (case k5 => k_asm); (case hx => omega); (case hy => omega); (case hD => omega); (case kK => first | exact rfl | assumption); (case kd => ktr_room); (case ku => ktr_units)); intro r9 h9 tk9 F9 N9 hp9; obtain ⟨t9, e8⟩ := hp9; subst e8; (try dsimp only); (try k_fold))
  k_steps
  · exact hret _ _ _ (by k_asm) (by k_asm) rfl
  · exact absurd hD.symm (by assumption)
  · exact absurd hD.symm (by assumption)
end
section
open PySem PySem.W PyProof.Rows
set_option maxRecDepth 10000
/-! the net in two colours -/
noncomputable def col (S v : Int) : Bool := decide (S ≤ v)
/-- a box: (down, right) -/
noncomputable def cell (mt h v : Bool) : Bool × Bool := if mt then (h, v) else (h || v, h && v)
noncomputable def rowC (mark : Int) : List Int → List Bool → Bool → List Bool × Bool
  | mk :: ms, d :: ds, th => ((cell (decide (mark = mk)) th d).1 :: (rowC mark ms ds (cell (decide (mark = mk)) th d).2).1, (rowC mark ms ds (cell (decide (mark = mk)) th d).2).2)
  | _, _, th => ([], th)
theorem rowC_nil (mark : Int) (ds : List Bool) (th : Bool) : rowC mark [] ds th = ([], th) := by cases ds <;> rfl
theorem cell_col (S th d : Int) (mt : Bool) : (col S (if mt = true ∨ th > d then th else d), col S (if mt = true ∨ th > d then d else th)) = cell mt (col S th) (col S d) := by
  unfold cell col
  cases mt with
  | true => simp
  | false =>
    by_cases h : th > d
    · by_cases h1 : S ≤ th <;> by_cases h2 : S ≤ d <;> simp [h, h1, h2] <;> omega
    · by_cases h1 : S ≤ th <;> by_cases h2 : S ≤ d <;> simp [h, h1, h2] <;> omega
theorem row_col (S mark : Int) : ∀ (ms ds : List Int) (th : Int), (((rowGo mark ms ds th).1.map (col S), col S (rowGo mark ms ds th).2) : List Bool × Bool) = rowC mark ms (ds.map (col S)) (col S th)
  | [], ds, th => by rw [rowGo_nil, rowC_nil]; rfl
  | mk :: ms, [], th => rfl
  | mk :: ms, d :: ds, th => by
    have hc := cell_col S th d (decide (mark = mk))
    have h1 : (cell (decide (mark = mk)) (col S th) (col S d)).1 = col S (if mark = mk ∨ th > d then th else d) := by rw [← hc]; simp
    have h2 : (cell (decide (mark = mk)) (col S th) (col S d)).2 = col S (if mark = mk ∨ th > d then d else th) := by rw [← hc]; simp
    rw [List.map_cons, rowC, h1, h2, ← row_col S mark ms ds, rowGo]
    by_cases h : mark = mk ∨ th > d
    · simp only [h, if_true]; rfl
    · simp only [h, if_false]; rfl
noncomputable def netC (S : Int) (tm : List Int) : List Int → Nat → List Bool → List Bool × List Bool
  | [], _, dn => (dn, [])
  | mk :: rows, i, dn => ((netC S tm rows (i + 1) (rowC mk tm dn (col S (-1 - (i : Int)))).1).1, (rowC mk tm dn (col S (-1 - (i : Int)))).2 :: (netC S tm rows (i + 1) (rowC mk tm dn (col S (-1 - (i : Int)))).1).2)
theorem net_col (S : Int) (tm : List Int) : ∀ (rows dn rt : List Int), ((rows.foldl (outStep tm) (dn, rt)).1.map (col S), (rows.foldl (outStep tm) (dn, rt)).2.map (col S)) =
    ((netC S tm rows rt.length (dn.map (col S))).1, rt.map (col S) ++ (netC S tm rows rt.length (dn.map (col S))).2)
  | [], dn, rt => by simp [netC]
  | mk :: rows, dn, rt => by
    have hr := row_col S mk tm dn (-1 - (rt.length : Int))
    have h1 := congrArg Prod.fst hr
    have h2 := congrArg Prod.snd hr
    simp only at h1 h2
    rw [List.foldl_cons, outStep, net_col S tm rows]
    simp only [netC, List.length_append, List.length_singleton, List.map_append, List.map_cons, List.map_nil, ← h1, ← h2, List.append_assoc, List.singleton_append]
/-! blocks of four by four -/
structure B4 where
  a : Bool
  b : Bool
  c : Bool
  d : Bool
noncomputable def B4.list (p : B4) : List Bool := [p.a, p.b, p.c, p.d]
noncomputable def flat (ps : List B4) : List Bool := ps.flatMap B4.list
/-- one row through a block -/
noncomputable def rowB (m0 m1 m2 m3 : Bool) (p : B4) (h : Bool) : B4 × Bool :=
  let c0 := cell m0 h p.a
  let c1 := cell m1 c0.2 p.b
  let c2 := cell m2 c1.2 p.c
  let c3 := cell m3 c2.2 p.d
  (⟨c0.1, c1.1, c2.1, c3.1⟩, c3.2)
/-- a block: sl: same letter, ss: same sign -/
noncomputable def blk (sl ss : Bool) (p l : B4) : B4 × B4 :=
  let r0 := rowB true true false false p l.a
  let r1 := rowB true true false false r0.1 l.b
  let r2 := rowB false false sl false r1.1 l.c
  let r3 := rowB false false false ss r2.1 l.d
  (r3.1, ⟨r0.2, r1.2, r2.2, r3.2⟩)
noncomputable def rowsB (f : Int) : List Int → List B4 → B4 → List B4 × B4
  | g :: tf, p :: ps, l => ((blk (decide (let6 f = let6 g)) (decide (f = g)) p l).1 :: (rowsB f tf ps (blk (decide (let6 f = let6 g)) (decide (f = g)) p l).2).1, (rowsB f tf ps (blk (decide (let6 f = let6 g)) (decide (f = g)) p l).2).2)
  | _, _, l => ([], l)
noncomputable def six (f : Int) : Prop := 0 ≤ f ∧ f < 6
theorem let6_bd {f : Int} (h : six f) : 1 ≤ let6 f ∧ let6 f ≤ 4 := by
  obtain ⟨h0, h6⟩ := h
  have : f = 0 ∨ f = 1 ∨ f = 2 ∨ f = 3 ∨ f = 4 ∨ f = 5 := by omega
  rcases this with h | h | h | h | h | h <;> subst h <;> decide
theorem rowC_block (mark g : Int) (ms : List Int) (p : B4) (ds : List Bool) (h : Bool) :
    rowC mark (0 :: 0 :: let6 g :: (5 + g) :: ms) (p.a :: p.b :: p.c :: p.d :: ds) h =
      ((rowB (decide (mark = 0)) (decide (mark = 0)) (decide (mark = let6 g)) (decide (mark = 5 + g)) p h).1.list ++ (rowC mark ms ds (rowB (decide (mark = 0)) (decide (mark = 0)) (decide (mark = let6 g)) (decide (mark = 5 + g)) p h).2).1,
        (rowC mark ms ds (rowB (decide (mark = 0)) (decide (mark = 0)) (decide (mark = let6 g)) (decide (mark = 5 + g)) p h).2).2) := rfl
theorem rows_block (f : Int) (hf : six f) : ∀ (tf : List Int) (ps : List B4) (l : B4), (∀ g ∈ tf, six g) → ps.length = tf.length →
    let r0 := rowC 0 (marksOf tf) (flat ps) l.a
    let r1 := rowC 0 (marksOf tf) r0.1 l.b
    let r2 := rowC (let6 f) (marksOf tf) r1.1 l.c
    let r3 := rowC (5 + f) (marksOf tf) r2.1 l.d
    r3.1 = flat (rowsB f tf ps l).1 ∧ (⟨r0.2, r1.2, r2.2, r3.2⟩ : B4) = (rowsB f tf ps l).2
  | [], [], l, _, _ => ⟨rfl, rfl⟩
  | g :: tf, p :: ps, l, hg, hl => by
    have hg0 := hg g (by simp)
    have lg := let6_bd hg0
    have lf := let6_bd hf
    obtain ⟨hg1, hg2⟩ := hg0
    obtain ⟨hf1, hf2⟩ := hf
    have ih := rows_block f ⟨hf1, hf2⟩ tf ps (blk (decide (let6 f = let6 g)) (decide (f = g)) p l).2 (fun x hx => hg x (by simp [hx])) (by simpa using hl)
    have em : marksOf (g :: tf) = 0 :: 0 :: let6 g :: (5 + g) :: marksOf tf := rfl
    have ef : flat (p :: ps) = p.a :: p.b :: p.c :: p.d :: flat ps := rfl
    have e1 : decide ((0 : Int) = 0) = true := rfl
    have e2 : decide ((0 : Int) = let6 g) = false := decide_eq_false (by omega)
    have e3 : decide ((0 : Int) = 5 + g) = false := decide_eq_false (by omega)
    have e4 : decide (let6 f = 0) = false := decide_eq_false (by omega)
    have e5 : decide (let6 f = 5 + g) = false := decide_eq_false (by omega)
    have e6 : decide (5 + f = 0) = false := decide_eq_false (by omega)
    have e7 : decide (5 + f = let6 g) = false := decide_eq_false (by omega)
    have e8 : decide (5 + f = 5 + g) = decide (f = g) := decide_eq_decide.mpr ⟨fun h => by omega, fun h => by omega⟩
    rw [em, ef]
    intro r0 r1 r2 r3
    have h0 : r0 = _ := rowC_block 0 g (marksOf tf) p (flat ps) l.a
    rw [e1, e2, e3] at h0
    have h1 : r1 = _ := (congrArg (fun x => rowC 0 (0 :: 0 :: let6 g :: (5 + g) :: marksOf tf) x.1 l.b) h0).trans (rowC_block 0 g (marksOf tf) _ _ l.b)
    rw [e1, e2, e3] at h1
    have h2 : r2 = _ := (congrArg (fun x => rowC (let6 f) (0 :: 0 :: let6 g :: (5 + g) :: marksOf tf) x.1 l.c) h1).trans (rowC_block (let6 f) g (marksOf tf) _ _ l.c)
    rw [e4, e5] at h2
    have h3 : r3 = _ := (congrArg (fun x => rowC (5 + f) (0 :: 0 :: let6 g :: (5 + g) :: marksOf tf) x.1 l.d) h2).trans (rowC_block (5 + f) g (marksOf tf) _ _ l.d)
    rw [e6, e7, e8] at h3
    rw [h3, h2, h1, h0]
    obtain ⟨i1, i2⟩ := ih
    refine ⟨?_, ?_⟩
    · show _ ++ _ = _
      exact congrArg (fun x => _ ++ x) i1
    · exact i2
end
section
open PySem PySem.W PyProof.Rows
set_option maxRecDepth 10000
noncomputable def o01 (b : Bool) : Int := if b then 1 else 0
noncomputable def aV (p : B4) : Int := (1 - o01 p.a) + (1 - o01 p.b) + (1 - o01 p.c) + (1 - o01 p.d)
noncomputable def bV (p : B4) : Int := o01 p.a + o01 p.b + o01 p.c + o01 p.d
noncomputable def Vt (p : B4) : Prop := p.b = true → p.a = true
noncomputable def Vl (p : B4) : Prop := p.a = true → p.b = true
noncomputable def wt (sl ss : Bool) : Int := if ss then 4 else if sl then 3 else 2
theorem blk_all : ∀ (a b c d e f g h sl ss : Bool), (ss = true → sl = true) → (b = true → a = true) → (e = true → f = true) →
    ((blk sl ss ⟨a, b, c, d⟩ ⟨e, f, g, h⟩).1.b = true → (blk sl ss ⟨a, b, c, d⟩ ⟨e, f, g, h⟩).1.a = true) ∧
    ((blk sl ss ⟨a, b, c, d⟩ ⟨e, f, g, h⟩).2.a = true → (blk sl ss ⟨a, b, c, d⟩ ⟨e, f, g, h⟩).2.b = true) ∧
    aV ⟨a, b, c, d⟩ + bV (blk sl ss ⟨a, b, c, d⟩ ⟨e, f, g, h⟩).2 = max (max (aV ⟨a, b, c, d⟩) (bV ⟨e, f, g, h⟩)) (wt sl ss) ∧
    bV ⟨e, f, g, h⟩ + aV (blk sl ss ⟨a, b, c, d⟩ ⟨e, f, g, h⟩).1 = aV ⟨a, b, c, d⟩ + bV (blk sl ss ⟨a, b, c, d⟩ ⟨e, f, g, h⟩).2 := by decide +kernel
theorem blk_ok {sl ss : Bool} {p l : B4} (hs : ss = true → sl = true) (hp : Vt p) (hl : Vl l) :
    Vt (blk sl ss p l).1 ∧ Vl (blk sl ss p l).2 ∧ aV p + bV (blk sl ss p l).2 = max (max (aV p) (bV l)) (wt sl ss) ∧ bV l + aV (blk sl ss p l).1 = aV p + bV (blk sl ss p l).2 :=
  blk_all p.a p.b p.c p.d l.a l.b l.c l.d sl ss hs hp hl
noncomputable def wtI (f g : Int) : Int := wt (decide (let6 f = let6 g)) (decide (f = g))
/-- the sum of the first j profiles -/
noncomputable def S4 (ps : List B4) (j : Nat) : Int := ((ps.take j).map aV).sum
theorem S4_zero (ps : List B4) : S4 ps 0 = 0 := rfl
theorem S4_cons (p : B4) (ps : List B4) (j : Nat) : S4 (p :: ps) (j + 1) = aV p + S4 ps j := by simp [S4]
theorem rowsB_ok (f : Int) : ∀ (tf : List Int) (ps : List B4) (l : B4), ps.length = tf.length → (∀ p ∈ ps, Vt p) → Vl l →
    (rowsB f tf ps l).1.length = tf.length ∧ (∀ p ∈ (rowsB f tf ps l).1, Vt p) ∧ Vl (rowsB f tf ps l).2 ∧
    (∀ j, j < tf.length → bV l + S4 (rowsB f tf ps l).1 (j + 1) = max (max (S4 ps (j + 1)) (bV l + S4 (rowsB f tf ps l).1 j)) (S4 ps j + wtI f (tf.getD j 0))) ∧
    bV l + S4 (rowsB f tf ps l).1 tf.length = S4 ps tf.length + bV (rowsB f tf ps l).2
  | [], [], l, _, _, hl => ⟨rfl, fun p hp => (by cases hp), hl, fun j hj => absurd hj (Nat.not_lt_zero _), by simp [rowsB, S4]⟩
  | g :: tf, p :: ps, l, hlen, hp, hl => by
    obtain ⟨b1, b2, b3, b4⟩ := blk_ok (sl := decide (let6 f = let6 g)) (ss := decide (f = g)) (p := p) (l := l) (fun h => by have := of_decide_eq_true h; subst this; simp) (hp p (by simp)) hl
    obtain ⟨i1, i2, i3, i4, i5⟩ := rowsB_ok f tf ps (blk (decide (let6 f = let6 g)) (decide (f = g)) p l).2 (by simpa using hlen) (fun q hq => hp q (by simp [hq])) b2
    simp only [rowsB]
    refine ⟨by simp [i1], ?_, i3, ?_, ?_⟩
    · intro q hq
      rcases List.mem_cons.mp hq with rfl | hq
      · exact b1
      · exact i2 q hq
    · intro j hj
      cases j with
      | zero =>
        simp only [S4_cons, S4_zero, List.getD_cons_zero, wtI]
        omega
      | succ j =>
        have := i4 j (by simpa using hj)
        simp only [S4_cons, List.getD_cons_succ]
        omega
    · simp only [List.length_cons, S4_cons]
      omega
/-- the table of the blocks' corners -/
noncomputable def CT (sp sn : Nat) (wf tf : List Int) : Nat → Nat → Int
  | 0, j => 4 * ((min j sp : Nat) : Int)
  | i + 1, 0 => 4 * ((min (i + 1) sn : Nat) : Int)
  | i + 1, j + 1 => max (max (CT sp sn wf tf i (j + 1)) (CT sp sn wf tf (i + 1) j)) (CT sp sn wf tf i j + wtI (wf.getD i 0) (tf.getD j 0))
termination_by i j => (i, j)
theorem CT_top {sp sn : Nat} {wf tf : List Int} (j : Nat) : CT sp sn wf tf 0 j = 4 * ((min j sp : Nat) : Int) := by rw [CT]
theorem CT_left {sp sn : Nat} {wf tf : List Int} (i : Nat) : CT sp sn wf tf i 0 = 4 * ((min i sn : Nat) : Int) := by
  cases i with
  | zero => rw [CT]; simp
  | succ i => rw [CT]
theorem CT_rec {sp sn : Nat} {wf tf : List Int} (i j : Nat) : CT sp sn wf tf (i + 1) (j + 1) = max (max (CT sp sn wf tf i (j + 1)) (CT sp sn wf tf (i + 1) j)) (CT sp sn wf tf i j + wtI (wf.getD i 0) (tf.getD j 0)) := by rw [CT]
noncomputable def all4 (b : Bool) : B4 := ⟨b, b, b, b⟩
noncomputable def netB (sn : Nat) (tf : List Int) : List Int → Nat → List B4 → List B4 × List B4
  | [], _, ps => (ps, [])
  | f :: wf, i, ps => ((netB sn tf wf (i + 1) (rowsB f tf ps (all4 (decide (i < sn)))).1).1, (rowsB f tf ps (all4 (decide (i < sn)))).2 :: (netB sn tf wf (i + 1) (rowsB f tf ps (all4 (decide (i < sn)))).1).2)
/-- the profiles of row i -/
noncomputable def RowP (sp sn : Nat) (wf tf : List Int) (i : Nat) (ps : List B4) : Prop :=
  ps.length = tf.length ∧ (∀ p ∈ ps, Vt p) ∧ ∀ j, j ≤ tf.length → CT sp sn wf tf i j = CT sp sn wf tf i 0 + S4 ps j
theorem netB_ok (sp sn : Nat) (wf tf : List Int) : ∀ (rest : List Int) (i : Nat) (ps : List B4), wf.drop i = rest → RowP sp sn wf tf i ps →
    RowP sp sn wf tf (i + rest.length) (netB sn tf rest i ps).1 ∧ (netB sn tf rest i ps).2.length = rest.length ∧
    ∀ k, k ≤ rest.length → (((netB sn tf rest i ps).2.drop k).map bV).sum = CT sp sn wf tf (i + rest.length) tf.length - CT sp sn wf tf (i + k) tf.length
  | [], i, ps, _, h => ⟨h, rfl, fun k hk => by have : k = 0 := Nat.le_zero.mp hk; subst this; simp [netB]⟩
  | f :: rest, i, ps, hd, h => by
    obtain ⟨h1, h2, h3⟩ := h
    have hi : i < wf.length := by
      rcases Nat.lt_or_ge i wf.length with h | h
      · exact h
      · rw [List.drop_of_length_le h] at hd; cases hd
    have hf : wf.getD i 0 = f := by
      rw [List.drop_eq_getElem_cons hi] at hd
      have := (List.cons.inj hd).1
      simp [List.getD_eq_getElem?_getD, hi, this]
    have hd' : wf.drop (i + 1) = rest := by
      rw [List.drop_eq_getElem_cons hi] at hd
      exact (List.cons.inj hd).2
    have hl : Vl (all4 (decide (i < sn))) := fun h => h
    have hb : bV (all4 (decide (i < sn))) = CT sp sn wf tf (i + 1) 0 - CT sp sn wf tf i 0 := by
      rw [CT_left, CT_left]
      by_cases h : i < sn
      · rw [show (decide (i < sn)) = true from decide_eq_true h, Nat.min_eq_left (Nat.le_of_lt h), Nat.min_eq_left h]
        simp only [all4, bV, o01, if_true]; omega
      · rw [show (decide (i < sn)) = false from decide_eq_false h, Nat.min_eq_right (by omega), Nat.min_eq_right (by omega)]
        simp only [all4, bV, o01, Bool.false_eq_true, if_false]; omega
    obtain ⟨r1, r2, r3, r4, r5⟩ := rowsB_ok f tf ps (all4 (decide (i < sn))) h1 h2 hl
    have hrow : ∀ j, j ≤ tf.length → CT sp sn wf tf (i + 1) j = CT sp sn wf tf (i + 1) 0 + S4 (rowsB f tf ps (all4 (decide (i < sn)))).1 j := by
      intro j
      induction j with
      | zero => intro _; rw [S4_zero]; omega
      | succ j ih =>
        intro hj
        have ih' := ih (by omega)
        have e1 := h3 (j + 1) hj
        have e2 := h3 j (by omega)
        have e3 := r4 j hj
        rw [CT_rec, hf]
        omega
    have hright : bV (rowsB f tf ps (all4 (decide (i < sn)))).2 = CT sp sn wf tf (i + 1) tf.length - CT sp sn wf tf i tf.length := by
      have e1 := hrow tf.length (Nat.le_refl _)
      have e2 := h3 tf.length (Nat.le_refl _)
      omega
    obtain ⟨n1, n2, n3⟩ := netB_ok sp sn wf tf rest (i + 1) (rowsB f tf ps (all4 (decide (i < sn)))).1 hd' ⟨r1, r2, hrow⟩
    have ea : i + 1 + rest.length = i + (f :: rest).length := by rw [List.length_cons]; omega
    rw [ea] at n1 n3
    simp only [netB]
    refine ⟨n1, by simp [n2], fun k hk => ?_⟩
    cases k with
    | zero =>
      have := n3 0 (Nat.zero_le _)
      simp only [List.drop_zero] at this ⊢
      rw [List.map_cons, List.sum_cons, this, hright]
      simp only [Nat.add_zero]
      omega
    | succ k =>
      have := n3 k (by simpa using hk)
      rw [List.drop_succ_cons, this]
      rw [show i + 1 + k = i + (k + 1) by omega]
/-! the colours' net is the blocks' net -/
theorem col_left (s : Int) (i k : Nat) (hk : k < 4) : col (4 * s) (-1 - ((4 * i + k : Nat) : Int)) = decide (i < (-s).toNat) := by
  unfold col
  exact decide_eq_decide.mpr ⟨fun h => by omega, fun h => by omega⟩
theorem netC_blocks (s : Int) (tf : List Int) (hg : ∀ g ∈ tf, six g) : ∀ (wf : List Int) (i : Nat) (ps : List B4), (∀ f ∈ wf, six f) → ps.length = tf.length →
    netC (4 * s) (marksOf tf) (marksOf wf) (4 * i) (flat ps) = (flat (netB (-s).toNat tf wf i ps).1, flat (netB (-s).toNat tf wf i ps).2)
  | [], i, ps, _, _ => rfl
  | f :: wf, i, ps, hf, hl => by
    have c0 := col_left s i 0 (by decide)
    have c1 := col_left s i 1 (by decide)
    have c2 := col_left s i 2 (by decide)
    have c3 := col_left s i 3 (by decide)
    obtain ⟨h1, h2⟩ := rows_block f (hf f (by simp)) tf ps (all4 (decide (i < (-s).toNat))) hg hl
    have hlen : ∀ (tf : List Int) (ps : List B4) (l : B4), ps.length = tf.length → (rowsB f tf ps l).1.length = tf.length := by
      intro tf
      induction tf with
      | nil => intro ps l h; cases ps with | nil => rfl | cons => cases h
      | cons g tf ih => intro ps l h; cases ps with | nil => cases h | cons p ps => simp only [rowsB, List.length_cons]; rw [ih _ _ (by simpa using h)]
    have ih := netC_blocks s tf hg wf (i + 1) (rowsB f tf ps (all4 (decide (i < (-s).toNat)))).1 (fun x hx => hf x (by simp [hx])) (hlen tf ps _ hl)
    have em : marksOf (f :: wf) = 0 :: 0 :: let6 f :: (5 + f) :: marksOf wf := rfl
    rw [em]
    simp only [netC, show 4 * i + 1 + 1 + 1 + 1 = 4 * (i + 1) by omega, show 4 * i + 1 + 1 + 1 = 4 * i + 3 by omega, show 4 * i + 1 + 1 = 4 * i + 2 by omega]
    rw [show (4 * i : Nat) = 4 * i + 0 by omega] at c0 ⊢
    rw [c0]
    simp only [Nat.add_zero] at *
    rw [c1, c2, c3]
    simp only [all4] at h1 h2 ih
    rw [h1, ih]
    simp only [netB, all4]
    refine Prod.ext rfl ?_
    show _ :: _ :: _ :: _ :: _ = B4.list _ ++ _
    rw [← h2]; rfl
end
section
open PySem PySem.W PyProof.Rows
set_option maxRecDepth 10000
theorem six_cases {f : Int} (h : six f) : f = 0 ∨ f = 1 ∨ f = 2 ∨ f = 3 ∨ f = 4 ∨ f = 5 := by obtain ⟨h0, h6⟩ := h; omega
theorem cost36 {f g : Int} (hf : six f) (hg : six g) : sc (code6 f) (code6 g) = 4 - wtI f g := by
  rcases six_cases hf with h | h | h | h | h | h <;> rcases six_cases hg with h' | h' | h' | h' | h' | h' <;> subst h <;> subst h' <;> decide +kernel
theorem wtI_bd (f g : Int) : 2 ≤ wtI f g ∧ wtI f g ≤ 4 := by
  unfold wtI wt
  (repeat' split) <;> omega
theorem CT_sp {sp : Nat} {wf tf : List Int} : ∀ (i j : Nat), j ≤ sp → CT sp 0 wf tf i j = 4 * (j : Int)
  | 0, j, h => by rw [CT_top, Nat.min_eq_left h]
  | i + 1, 0, _ => by rw [CT_left]; simp
  | i + 1, j + 1, h => by
    have h1 := CT_sp (sp := sp) (wf := wf) (tf := tf) i (j + 1) h
    have h2 := CT_sp (sp := sp) (wf := wf) (tf := tf) (i + 1) j (by omega)
    have h3 := CT_sp (sp := sp) (wf := wf) (tf := tf) i j (by omega)
    have h4 := wtI_bd (wf.getD i 0) (tf.getD j 0)
    rw [CT_rec, h1, h2, h3]; omega
theorem CT_sn {sn : Nat} {wf tf : List Int} : ∀ (i j : Nat), i ≤ sn → CT 0 sn wf tf i j = 4 * (i : Int)
  | 0, j, _ => by rw [CT_top]; simp
  | i + 1, 0, h => by rw [CT_left, Nat.min_eq_left h]
  | i + 1, j + 1, h => by
    have h1 := CT_sn (sn := sn) (wf := wf) (tf := tf) i (j + 1) (by omega)
    have h2 := CT_sn (sn := sn) (wf := wf) (tf := tf) (i + 1) j h
    have h3 := CT_sn (sn := sn) (wf := wf) (tf := tf) i j (by omega)
    have h4 := wtI_bd (wf.getD i 0) (tf.getD j 0)
    rw [CT_rec, h1, h2, h3]; omega
theorem getD_map6 {l : List Int} {k i : Nat} (h : k + i < l.length) : ((l.drop k).map code6).getD i 0 = code6 (l.getD (k + i) 0) := by
  simp [List.getD_eq_getElem?_getD, List.getElem?_drop, h]
theorem lev_CT {sp sn : Nat} {wf tf : List Int} (hw : ∀ f ∈ wf, six f) (ht : ∀ g ∈ tf, six g) (h0 : sp = 0 ∨ sn = 0) : ∀ (i j : Nat), sn + i ≤ wf.length → sp + j ≤ tf.length →
    Rt sc ((wf.drop sn).map code6) ((tf.drop sp).map code6) j i = 2 * (((sn + i : Nat) : Int) + ((sp + j : Nat) : Int)) + 2 * ((sp : Int) + (sn : Int)) - CT sp sn wf tf (sn + i) (sp + j)
  | 0, j, hi, hj => by
    rw [Rt_left _ _ _ (by rw [List.length_map, List.length_drop]; omega)]
    rcases h0 with h | h
    · subst h; simp only [Nat.add_zero, Nat.zero_add]; rw [CT_sn _ _ (Nat.le_refl _)]; omega
    · subst h; rw [Nat.add_zero, CT_top, Nat.min_eq_right (by omega)]; omega
  | i + 1, 0, hi, hj => by
    rw [Rt_top _ _ _ (by rw [List.length_map, List.length_drop]; omega)]
    rcases h0 with h | h
    · subst h; rw [Nat.add_zero, CT_left, Nat.min_eq_right (by omega)]; omega
    · subst h; simp only [Nat.add_zero, Nat.zero_add]; rw [CT_sp _ _ (Nat.le_refl _)]; omega
  | i + 1, j + 1, hi, hj => by
    have h1 := lev_CT hw ht h0 i (j + 1) (by omega) hj
    have h2 := lev_CT hw ht h0 (i + 1) j hi (by omega)
    have h3 := lev_CT hw ht h0 i j (by omega) (by omega)
    have ha : i < ((wf.drop sn).map code6).length := by rw [List.length_map, List.length_drop]; omega
    have hb : j < ((tf.drop sp).map code6).length := by rw [List.length_map, List.length_drop]; omega
    have hwm : ∀ k, k < wf.length → six (wf.getD k 0) := fun k hk => hw _ (by simp [List.getD_eq_getElem?_getD, hk])
    have htm : ∀ k, k < tf.length → six (tf.getD k 0) := fun k hk => ht _ (by simp [List.getD_eq_getElem?_getD, hk])
    have hc := cost36 (hwm (sn + i) (by omega)) (htm (sp + j) (by omega))
    rw [Rt_rec _ _ ha hb, getD_map6 (by omega), getD_map6 (by omega), hc, h1, h2, h3]
    rw [show sn + (i + 1) = (sn + i) + 1 by omega, show sp + (j + 1) = (sp + j) + 1 by omega, CT_rec]
    omega
/-! counting -/
theorem flat_take (ps : List B4) : ∀ j : Nat, (flat ps).take (4 * j) = flat (ps.take j) := by
  induction ps with
  | nil => intro j; simp [flat]
  | cons p ps ih =>
    intro j
    cases j with
    | zero => simp [flat]
    | succ j =>
      rw [show 4 * (j + 1) = 4 * j + 1 + 1 + 1 + 1 by omega]
      show List.take _ (p.a :: p.b :: p.c :: p.d :: flat ps) = p.a :: p.b :: p.c :: p.d :: flat (ps.take j)
      simp only [List.take_succ_cons, ih]
theorem flat_drop (ps : List B4) : ∀ j : Nat, (flat ps).drop (4 * j) = flat (ps.drop j) := by
  induction ps with
  | nil => intro j; simp [flat]
  | cons p ps ih =>
    intro j
    cases j with
    | zero => simp
    | succ j =>
      rw [show 4 * (j + 1) = 4 * j + 1 + 1 + 1 + 1 by omega]
      show List.drop _ (p.a :: p.b :: p.c :: p.d :: flat ps) = flat (ps.drop j)
      simp only [List.drop_succ_cons, ih]
theorem flat_len (ps : List B4) : (flat ps).length = 4 * ps.length := by
  induction ps with
  | nil => rfl
  | cons p ps ih =>
    show (p.a :: p.b :: p.c :: p.d :: flat ps).length = _
    simp only [List.length_cons, ih]; omega
theorem cnt_cons (b : Bool) (l : List Bool) : (((b :: l).count true : Nat) : Int) = o01 b + ((l.count true : Nat) : Int) := by
  cases b
  · rw [List.count_cons_of_ne (by decide)]; simp [o01]
  · rw [List.count_cons_self]; simp only [o01, if_true]; omega
theorem flat_cntB (ps : List B4) : (((flat ps).count true : Nat) : Int) = (ps.map bV).sum := by
  induction ps with
  | nil => rfl
  | cons p ps ih =>
    show (((p.a :: p.b :: p.c :: p.d :: flat ps).count true : Nat) : Int) = _
    rw [cnt_cons, cnt_cons, cnt_cons, cnt_cons, ih, List.map_cons, List.sum_cons, bV]; omega
theorem flat_cntA (ps : List B4) : (((flat ps).count true : Nat) : Int) = 4 * (ps.length : Int) - (ps.map aV).sum := by
  induction ps with
  | nil => rfl
  | cons p ps ih =>
    show (((p.a :: p.b :: p.c :: p.d :: flat ps).count true : Nat) : Int) = _
    rw [cnt_cons, cnt_cons, cnt_cons, cnt_cons, ih, List.map_cons, List.sum_cons, aV, List.length_cons]; omega
noncomputable def ps0 (sp n : Nat) : List B4 := (List.range n).map fun j => all4 (decide (sp ≤ j))
theorem ps0_succ (sp n : Nat) : ps0 sp (n + 1) = ps0 sp n ++ [all4 (decide (sp ≤ n))] := by simp [ps0, List.range_succ]
theorem flat_append (ps qs : List B4) : flat (ps ++ qs) = flat ps ++ flat qs := by simp [flat]
theorem rangeKs_succ (n : Nat) : rangeKs 0 (n + 1) = rangeKs 0 n ++ [(n : Int)] := by simp [rangeKs, List.range_succ]
theorem top_col (s : Int) : ∀ n : Nat, (rangeKs 0 (4 * n)).map (col (4 * s)) = flat (ps0 s.toNat n)
  | 0 => rfl
  | n + 1 => by
    have hc : ∀ k : Nat, k < 4 → col (4 * s) ((4 * n + k : Nat) : Int) = decide (s.toNat ≤ n) := by
      intro k hk
      unfold col
      exact decide_eq_decide.mpr ⟨fun h => by omega, fun h => by omega⟩
    have h0 := hc 0 (by decide)
    have h1 := hc 1 (by decide)
    have h2 := hc 2 (by decide)
    have h3 := hc 3 (by decide)
    rw [Nat.add_zero] at h0
    rw [show 4 * (n + 1) = 4 * n + 1 + 1 + 1 + 1 by omega, rangeKs_succ, rangeKs_succ, rangeKs_succ, rangeKs_succ, ps0_succ, flat_append, ← top_col s n]
    simp only [List.map_append, List.map_cons, List.map_nil, List.append_assoc, List.singleton_append]
    rw [h0, show 4 * n + 1 + 1 = 4 * n + 2 by omega, show 4 * n + 2 + 1 = 4 * n + 3 by omega, h1, h2, h3]
    rfl
theorem row0_ok (sp sn : Nat) (wf tf : List Int) : RowP sp sn wf tf 0 (ps0 sp tf.length) := by
  refine ⟨by simp [ps0], ?_, ?_⟩
  · intro p hp
    simp only [ps0, List.mem_map] at hp
    obtain ⟨j, _, rfl⟩ := hp
    exact fun h => h
  · intro j
    induction j with
    | zero => intro _; rw [S4_zero]; omega
    | succ j ih =>
      intro hj
      have ih' := ih (by omega)
      have e : S4 (ps0 sp tf.length) (j + 1) = S4 (ps0 sp tf.length) j + aV (all4 (decide (sp ≤ j))) := by
        have hx : j < (ps0 sp tf.length).length := by simp [ps0]; omega
        have hg : (ps0 sp tf.length)[j]? = some (all4 (decide (sp ≤ j))) := by
          simp [ps0, List.getElem?_range (by omega : j < tf.length)]
        unfold S4
        rw [List.take_add_one, hg]
        simp
      rw [e, ← Int.add_assoc, ← ih', CT_top, CT_top]
      by_cases h : sp ≤ j
      · rw [show decide (sp ≤ j) = true from decide_eq_true h, Nat.min_eq_right h, Nat.min_eq_right (by omega)]
        simp only [all4, aV, o01, if_true]; omega
      · rw [show decide (sp ≤ j) = false from decide_eq_false h, Nat.min_eq_left (by omega), Nat.min_eq_left (by omega)]
        simp only [all4, aV, o01, Bool.false_eq_true, if_false]; omega
theorem out_col (s : Int) (wf tf : List Int) (hw : ∀ f ∈ wf, six f) (ht : ∀ g ∈ tf, six g) :
    (outOf (marksOf wf) (marksOf tf)).map (col (4 * s)) = flat (netB (-s).toNat tf wf 0 (ps0 s.toNat tf.length)).1 ++ (flat (netB (-s).toNat tf wf 0 (ps0 s.toNat tf.length)).2).reverse := by
  have h1 := net_col (4 * s) (marksOf tf) (marksOf wf) (rangeKs 0 (marksOf tf).length) []
  have h2 := netC_blocks s tf ht wf 0 (ps0 s.toNat tf.length) hw (by simp [ps0])
  rw [marks_len, top_col s tf.length] at h1
  rw [List.length_nil, List.map_nil, List.nil_append] at h1
  rw [Nat.mul_zero] at h2
  rw [h2] at h1
  have h3 := congrArg Prod.fst h1
  have h4 := congrArg Prod.snd h1
  simp only at h3 h4
  unfold outOf outFold
  rw [marks_len, List.map_append, List.map_reverse, h3, h4]
theorem count_out (s : Int) (wf tf : List Int) (hw : ∀ f ∈ wf, six f) (ht : ∀ g ∈ tf, six g) (e : Nat) (he : e ≤ wf.length + tf.length) :
    ((((outOf (marksOf wf) (marksOf tf)).take (4 * e)).countP (fun v => decide (4 * s ≤ v)) : Nat) : Int) =
      4 * ((min e tf.length : Nat) : Int) + CT s.toNat (-s).toNat wf tf wf.length 0 - CT s.toNat (-s).toNat wf tf (wf.length - (e - tf.length)) (min e tf.length) := by
  have h1 : ((outOf (marksOf wf) (marksOf tf)).take (4 * e)).countP (fun v => decide (4 * s ≤ v)) = (((outOf (marksOf wf) (marksOf tf)).map (col (4 * s))).take (4 * e)).count true := by
    rw [← List.map_take, List.count, List.countP_map]
    congr 1
    funext v
    simp [col]
  obtain ⟨⟨n1, n2, n3⟩, n4, n5⟩ := netB_ok s.toNat (-s).toNat wf tf wf 0 (ps0 s.toNat tf.length) rfl (row0_ok _ _ _ _)
  rw [Nat.zero_add] at n3 n5
  rw [h1, out_col s wf tf hw ht, List.take_append, List.count_append, flat_take, flat_len, n1]
  rcases Nat.lt_or_ge tf.length e with h | h
  · have e1 : (netB (-s).toNat tf wf 0 (ps0 s.toNat tf.length)).1.take e = (netB (-s).toNat tf wf 0 (ps0 s.toNat tf.length)).1 := List.take_of_length_le (by omega)
    rw [e1, List.take_reverse, List.count_reverse, flat_len, n4, show 4 * wf.length - (4 * e - 4 * tf.length) = 4 * (wf.length - (e - tf.length)) by omega, flat_drop]
    have c1 := flat_cntA (netB (-s).toNat tf wf 0 (ps0 s.toNat tf.length)).1
    have c2 := flat_cntB ((netB (-s).toNat tf wf 0 (ps0 s.toNat tf.length)).2.drop (wf.length - (e - tf.length)))
    have c3 := n5 (wf.length - (e - tf.length)) (by omega)
    have c4 := n3 tf.length (Nat.le_refl _)
    rw [S4, List.take_of_length_le (by omega)] at c4
    rw [n1] at c1
    rw [Nat.zero_add] at c3
    rw [Nat.min_eq_right (by omega)]
    omega
  · have c1 := flat_cntA ((netB (-s).toNat tf wf 0 (ps0 s.toNat tf.length)).1.take e)
    have c4 := n3 e h
    rw [S4] at c4
    rw [List.length_take, n1] at c1
    rw [show 4 * e - 4 * tf.length = 0 by omega, List.take_zero, List.count_nil, Nat.min_eq_left h, show e - tf.length = 0 by omega, Nat.sub_zero]
    rw [Nat.min_eq_left h] at c1
    omega
end
section
open PySem PySem.W PyProof.Rows
set_option maxRecDepth 10000
/-- what insort_right does -/
noncomputable def insK (h : List Int) (x : Int) : List Int := h.take (cntK h (kf x)) ++ x :: h.drop (cntK h (kf x))
noncomputable def heldOf (os : List Int) : List Int := os.foldl insK []
abbrev Srt (h : List Int) : Prop := h.Pairwise fun a b => kf a ≤ kf b
theorem ints_ins {vs : List Value} {ns : List Int} {x : Int} {t : Tok} (hi : IntsAre vs ns) : IntsAre (kl_ins vs ((cntK ns (-(x.fdiv 4)) : Nat) : Int) (.int x t)) (insK ns x) := by
  have hl := hi.length
  have hc : cntK ns (kf x) ≤ ns.length := List.countP_le_length
  have e : (if ((cntK ns (-(x.fdiv 4)) : Nat) : Int) < 0 then (((cntK ns (-(x.fdiv 4)) : Nat) : Int) + (vs.length : Int)).toNat else min ((cntK ns (-(x.fdiv 4)) : Nat) : Int).toNat vs.length) = cntK ns (kf x) := by
    rw [if_neg (by omega), Int.toNat_natCast]
    exact Nat.min_eq_left (by rw [hl]; exact hc)
  unfold kl_ins insK
  rw [e]
  exact (hi.take _).append (.cons _ _ (hi.drop _))
theorem srt_split {y : Int} : ∀ {h : List Int}, Srt h → (∀ v ∈ h.take (cntK h y), kf v ≤ y) ∧ (∀ v ∈ h.drop (cntK h y), y < kf v)
  | [], _ => ⟨fun v hv => (by simp at hv), fun v hv => (by simp at hv)⟩
  | a :: h, hs => by
    have hs' := List.pairwise_cons.mp hs
    by_cases ha : kf a ≤ y
    · have e : cntK (a :: h) y = cntK h y + 1 := by rw [cntK, List.countP_cons_of_pos (by simpa using ha)]; rfl
      obtain ⟨i1, i2⟩ := srt_split (y := y) hs'.2
      rw [e]
      refine ⟨fun v hv => ?_, fun v hv => i2 v (by simpa using hv)⟩
      rw [List.take_succ_cons] at hv
      rcases List.mem_cons.mp hv with rfl | hv
      · exact ha
      · exact i1 v hv
    · have hall : ∀ v ∈ a :: h, y < kf v := by
        intro v hv
        rcases List.mem_cons.mp hv with rfl | hv
        · omega
        · have := hs'.1 v hv; omega
      have e : cntK (a :: h) y = 0 := List.countP_eq_zero.mpr fun v hv => by have := hall v hv; simp; omega
      rw [e]
      exact ⟨fun v hv => (by simp at hv), fun v hv => hall v (by simpa using hv)⟩
theorem ins_srt {h : List Int} {x : Int} (hs : Srt h) : Srt (insK h x) := by
  obtain ⟨h1, h2⟩ := srt_split (y := kf x) hs
  unfold insK
  have hs' : Srt (h.take (cntK h (kf x)) ++ h.drop (cntK h (kf x))) := by rw [List.take_append_drop]; exact hs
  obtain ⟨p1, p2, p3⟩ := List.pairwise_append.mp hs'
  refine List.pairwise_append.mpr ⟨p1, List.pairwise_cons.mpr ⟨fun v hv => Int.le_of_lt (h2 v hv), p2⟩, fun a ha b hb => ?_⟩
  rcases List.mem_cons.mp hb with rfl | hb
  · exact h1 a ha
  · exact p3 a ha b hb
theorem ins_len (h : List Int) (x : Int) : (insK h x).length = h.length + 1 := by
  have hc : cntK h (kf x) ≤ h.length := List.countP_le_length
  simp only [insK, List.length_append, List.length_cons, List.length_take, List.length_drop]
  omega
theorem ins_cnt (h : List Int) (x : Int) (p : Int → Bool) : (insK h x).countP p = (x :: h).countP p := by
  unfold insK
  rw [List.countP_append, List.countP_cons, List.countP_cons]
  conv => rhs; rw [← List.take_append_drop (cntK h (kf x)) h, List.countP_append]
  omega
theorem fold_srt : ∀ (os h : List Int), Srt h → Srt (os.foldl insK h)
  | [], _, hs => hs
  | x :: os, h, hs => fold_srt os (insK h x) (ins_srt hs)
theorem fold_cnt (p : Int → Bool) : ∀ (os h : List Int), (os.foldl insK h).countP p = os.countP p + h.countP p
  | [], h => by simp
  | x :: os, h => by
    rw [List.foldl_cons, fold_cnt p os, ins_cnt, List.countP_cons, List.countP_cons]; omega
theorem fold_len : ∀ (os h : List Int), (os.foldl insK h).length = os.length + h.length
  | [], h => by simp
  | x :: os, h => by rw [List.foldl_cons, fold_len os, ins_len, List.length_cons]; omega
theorem held_srt (os : List Int) : Srt (heldOf os) := fold_srt os [] .nil
theorem held_cnt (os : List Int) (s : Int) : cntK (heldOf os) (-s) = os.countP fun v => decide (4 * s ≤ v) := by
  rw [cntK, heldOf, fold_cnt, List.countP_nil, Nat.add_zero]
  congr 1
  funext v
  refine decide_eq_decide.mpr ?_
  unfold kf
  rw [Int.fdiv_eq_ediv_of_nonneg _ (by omega)]
  omega
/-! the law's own slices -/
noncomputable def txtOf (fs : List Int) : Str := Str.mk (fs.map code6).toArray
theorem txtOf_list (fs : List Int) : (txtOf fs).cps.toList = fs.map code6 := by simp [txtOf]
theorem txtOf_len (fs : List Int) : (txtOf fs).length = fs.length := by rw [← len_list, txtOf_list, List.length_map]
theorem sl_clip {x : Str} {p q : Int} (h : (x.length : Int) ≤ q) : Txt.slice x (some p) (some q) = Txt.slice x (some p) (some (x.length : Int)) := by
  have e : Builtin.Str.strSliceIndices (some p) (some q) 1 x.length = Builtin.Str.strSliceIndices (some p) (some (x.length : Int)) 1 x.length := by
    have h2 : ¬ (q < 0) := by omega
    have h3 : ¬ ((x.length : Int) < 0) := by omega
    simp only [Builtin.Str.strSliceIndices, h2, h3, if_false, Int.min_eq_right h, Int.min_self, show (1 : Int) > 0 by decide, if_true]
  unfold Txt.slice
  rw [e]
theorem slice_txt {fs : List Int} {p q : Int} {a b : Nat} (hp : p = (a : Int)) (hq : min q (fs.length : Int) = ((a + b : Nat) : Int)) : (Txt.slice (txtOf fs) (some p) (some q)).cps.toList = ((fs.drop a).map code6).take b := by
  have hl := txtOf_len fs
  have hc : ∀ q', q' ≤ (fs.length : Int) → q' = ((a + b : Nat) : Int) → (Txt.slice (txtOf fs) (some p) (some q')).cps.toList = ((fs.drop a).map code6).take b := by
    intro q' h1 h2
    rw [sl_both (by omega) (by omega) (by rw [hl]; exact h1), txtOf_list, hp, h2]
    rw [List.map_drop]
    congr 1
    omega
  rcases Int.le_total q (fs.length : Int) with h | h
  · exact hc q h (by omega)
  · rw [sl_clip (by rw [hl]; exact h), hl]
    exact hc _ (Int.le_refl _) (by omega)
theorem due_a {s e : Int} {m n k : Nat} (hk : e = (k : Int)) (hs1 : -(m : Int) ≤ s) (hs2 : e - (m : Int) - (n : Int) ≤ s) : (-s).toNat + (m - (k - n) - (-s).toNat) = m - (k - n) ∧ (-s).toNat ≤ m := by
  have h1 : (-s).toNat ≤ m := Int.toNat_le.mpr (by omega)
  have h2 : (-s).toNat + k ≤ m + n ∨ (-s).toNat = 0 := by omega
  exact ⟨by omega, h1⟩
theorem due_b {s e : Int} {n k : Nat} (hk : e = (k : Int)) (hs3 : s ≤ e) (hs4 : s ≤ (n : Int)) : s.toNat + (min k n - s.toNat) = min k n :=
  Nat.add_sub_cancel' (Nat.le_min.mpr ⟨Int.toNat_le.mpr (hk ▸ hs3), Int.toNat_le.mpr hs4⟩)
theorem due_p (s : Int) : max 0 s = (s.toNat : Int) := by omega
theorem due_k {e : Int} {m n k : Nat} (hk : e = (k : Int)) (he : e ≤ (m : Int) + (n : Int)) : k ≤ m + n := by omega
theorem due_q {e : Int} {m n k : Nat} (hk : e = (k : Int)) (he : e ≤ (m : Int) + (n : Int)) : min ((m : Int) - max 0 (e - (n : Int))) (m : Int) = ((m - (k - n) : Nat) : Int) := by
  have h1 : (e - (n : Int)).toNat = k - n := by omega
  have h2 := due_k hk he
  rw [due_p, h1, Int.min_eq_left (by omega)]
  omega
theorem due_e {e : Int} {n k : Nat} (hk : e = (k : Int)) : min e (n : Int) = ((min k n : Nat) : Int) := by
  rw [hk]; omega
theorem due_f {e : Int} {m n k : Nat} (hk : e = (k : Int)) (he : e ≤ (m : Int) + (n : Int)) : ((m - (k - n) : Nat) : Int) = (m : Int) - e + ((min k n : Nat) : Int) := by
  have h := due_k hk he
  subst hk
  rcases Nat.le_total k n with q | q
  · rw [Nat.min_eq_left q, Nat.sub_eq_zero_of_le q]; omega
  · rw [Nat.min_eq_right q]; omega
theorem due_t (s : Int) : s = (s.toNat : Int) - ((-s).toNat : Int) := by omega
theorem due_s {s e m a b X Y C : Int} (h1 : X = m - e + Y) (h2 : s = b - a) : 2 * (m + s - e) + (4 * Y + 4 * a - C) = 2 * (X + Y) + 2 * (b + a) - C := by omega
/-- the heart: the count tells the distance -/
theorem due_eq {wf tf : List Int} (hw : ∀ f ∈ wf, six f) (ht : ∀ g ∈ tf, six g) {s e p q p' : Int} {k : Nat} (hk : e = (k : Int)) (he : e ≤ (wf.length : Int) + (tf.length : Int))
    (hs1 : -(wf.length : Int) ≤ s) (hs2 : e - (wf.length : Int) - (tf.length : Int) ≤ s) (hs3 : s ≤ e) (hs4 : s ≤ (tf.length : Int))
    (hp : p = max 0 (-s)) (hq : q = (wf.length : Int) - max 0 (e - (tf.length : Int))) (hp' : p' = max 0 s) :
    2 * ((wf.length : Int) + s - e) + ((cntK (heldOf ((outOf (marksOf wf) (marksOf tf)).take (4 * k))) (-s) : Nat) : Int) = levS (Txt.slice (txtOf wf) (some p) (some q)) (Txt.slice (txtOf tf) (some p') (some e)) := by
  obtain ⟨e1, e3⟩ := due_a hk hs1 hs2
  have e2 := due_b hk hs3 hs4
  have h0 : s.toNat = 0 ∨ (-s).toNat = 0 := by
    clear hk he hs1 hs2 hs3 hs4 hp hq hp' e1 e2 e3
    omega
  rw [held_cnt, count_out s wf tf hw ht k (due_k hk he)]
  have hL := lev_CT hw ht h0 (wf.length - (k - tf.length) - (-s).toNat) (min k tf.length - s.toNat) (by rw [e1]; exact Nat.sub_le _ _) (by rw [e2]; exact Nat.min_le_right _ _)
  unfold levS
  rw [slice_txt (a := (-s).toNat) (b := wf.length - (k - tf.length) - (-s).toNat) (hp.trans (due_p _)) (by rw [e1, hq]; exact due_q hk he), slice_txt (a := s.toNat) (b := min k tf.length - s.toNat) (hp'.trans (due_p _)) (by rw [e2]; exact due_e hk)]
  unfold Rt at hL
  rw [hL, CT_left, e1, e2, Nat.min_eq_right e3]
  exact due_s (due_f hk he) (due_t s)
end
section
open PySem PySem.W PyProof.Rows
set_option maxRecDepth 10000
/-! the sort keeps the order of equal keys: tau numbers the items -/
noncomputable def Tt (tau : Value → Int) (xs : Array Keyed) (i : Nat) : Int := match xs[i]? with
  | some p => tau p.2
  | none => 0
noncomputable def Lt2 (tau : Value → Int) (xs : Array Keyed) (i j : Nat) : Prop := K xs i < K xs j ∨ (K xs i = K xs j ∧ Tt tau xs i < Tt tau xs j)
noncomputable def StTo (tau : Value → Int) (xs : Array Keyed) (n : Nat) : Prop := ∀ i j, i < j → j < n → Lt2 tau xs i j
noncomputable def StDn (tau : Value → Int) (xs : Array Keyed) (n : Nat) : Prop := ∀ i j, i < j → j < n → Lt2 tau xs j i
noncomputable def Later (tau : Value → Int) (xs : Array Keyed) (N n : Nat) : Prop := ∀ i j, i < j → n ≤ j → j < N → Tt tau xs i < Tt tau xs j
variable {tau : Value → Int}
theorem Tt_congr {xs ys : Array Keyed} {i j : Nat} (h : xs[i]? = ys[j]?) : Tt tau xs i = Tt tau ys j := by unfold Tt; rw [h]
theorem Lt2_of {xs ys : Array Keyed} {i j i' j' : Nat} (h1 : ys[i]? = xs[i']?) (h2 : ys[j]? = xs[j']?) (h : Lt2 tau xs i' j') : Lt2 tau ys i j := by
  unfold Lt2 at h ⊢
  rw [K_congr h1, K_congr h2, Tt_congr h1, Tt_congr h2]
  exact h
theorem StTo.srt {xs : Array Keyed} {n : Nat} (h : StTo tau xs n) : SortedTo xs n := by
  intro i j hij hj
  by_cases e : i = j
  · subst e; exact Int.le_refl _
  · rcases h i j (by omega) hj with h | h
    · exact Int.le_of_lt h
    · exact Int.le_of_eq h.1
theorem Later.mono {xs : Array Keyed} {N n n' : Nat} (h : Later tau xs N n) (hn : n ≤ n') : Later tau xs N n' := fun i j hij hj hN => h i j hij (by omega) hN
theorem st_of {xs : Array Keyed} {N a n : Nat} (h1 : StTo tau xs a) (h2 : Later tau xs N a) (hs : SortedTo xs n) (hn : n ≤ N) : StTo tau xs n := by
  intro i j hij hj
  by_cases hja : j < a
  · exact h1 i j hij hja
  · have h3 := h2 i j hij (by omega) (by omega)
    have h4 := hs i j (by omega) hj
    unfold Lt2
    omega
theorem mir_at {xs : Array Keyed} {i j : Nat} (hj : j ≤ xs.size) {k : Nat} (h1 : i ≤ k) (h2 : k < j) : (mirror xs i j ((j - i) / 2))[k]? = xs[i + j - 1 - k]? := by
  rw [getElem?_mirror_all hj, if_pos ⟨h1, h2⟩]
theorem mir_out {xs : Array Keyed} {i j : Nat} (hj : j ≤ xs.size) {k : Nat} (h : k < i ∨ j ≤ k) : (mirror xs i j ((j - i) / 2))[k]? = xs[k]? := by
  rw [getElem?_mirror_all hj, if_neg (by omega)]
theorem Later.mir {xs : Array Keyed} {N n i j : Nat} (h : Later tau xs N n) (hj : j ≤ xs.size) (hjn : j ≤ n) : Later tau (mirror xs i j ((j - i) / 2)) N n := by
  intro a b hab hb hN
  rw [Tt_congr (mir_out hj (by omega) : _ = xs[b]?)]
  by_cases ha : i ≤ a ∧ a < j
  · rw [Tt_congr (mir_at hj ha.1 ha.2)]
    exact h _ _ (by omega) hb hN
  · rw [Tt_congr (mir_out hj (by omega) : _ = xs[a]?)]
    exact h _ _ hab hb hN
section
variable {prog : Program} {w : World} {A : Around} {E : Value → Shared → Prop} {s : Shared} {a₀ : Array Keyed}
theorem st_tail3 {st : SortSt} {n nrem : Nat} {Q : Option Nat → SortSt → Prop} (h0 : IntKeys a₀) (hn : nrem ≤ a₀.size) (h1 : 1 ≤ n) (hnn : n ≤ nrem) (hB : SBase a₀ st)
    (hs : StDn tau (arrOf st) n) (hl : Later tau (arrOf st) a₀.size n) (h : ∀ m st', SBase a₀ st' → 1 ≤ m → m ≤ nrem → StTo tau (arrOf st') m → Later tau (arrOf st') a₀.size m → Q (some m) st') :
    wpS (model prog w) A E s (tail3 n nrem) Q st := by
  unfold tail3
  have hsz : n ≤ (arrOf st).size := by rw [hB.size]; omega
  refine wpS_bind (wpS_reverse ?_)
  have hB' : SBase a₀ (setArr st (mirror (arrOf st) 0 n ((n - 0) / 2))) := hB.setArr (mirror_perm _ _ _ _)
  have hT : StTo tau (mirror (arrOf st) 0 n ((n - 0) / 2)) n := by
    intro i j hij hj
    exact Lt2_of (mir_at hsz (by omega) (by omega)) (mir_at hsz (by omega) hj) (hs _ _ (by omega) (by omega))
  have hL : Later tau (mirror (arrOf st) 0 n ((n - 0) / 2)) a₀.size n := hl.mir hsz (Nat.le_refl _)
  exact wpS_bind (wpS_ascLoop h0 hn h1 hnn hB' hT.srt fun m hm1 hm2 hsm _ => wpS_pure (h m _ hB' (by omega) hm2 (st_of hT hL hsm (by omega)) (hL.mono hm1)))
structure DInv (tau : Value → Int) (xs : Array Keyed) (N x neq : Nat) : Prop where
  le : neq + 1 ≤ x
  old : ∀ i j, i < j → j < x - (neq + 1) → Lt2 tau xs j i
  cut : ∀ i j, i < x - (neq + 1) → x - (neq + 1) ≤ j → j < x → K xs j < K xs i
  same : ∀ i, x - (neq + 1) ≤ i → i < x → K xs i = K xs (x - 1)
  up : ∀ i j, x - (neq + 1) ≤ i → i < j → j < x → Tt tau xs i < Tt tau xs j
  late : Later tau xs N x
theorem DInv.low {xs : Array Keyed} {N x neq : Nat} (h : DInv tau xs N x neq) {i : Nat} (hi : i < x) : K xs (x - 1) ≤ K xs i := by
  by_cases hb : x - (neq + 1) ≤ i
  · exact Int.le_of_eq (h.same i hb hi).symm
  · have := h.le
    exact Int.le_of_lt (h.cut i (x - 1) (by omega) (by omega) (by omega))
theorem DInv.dn0 {xs : Array Keyed} {N x : Nat} (h : DInv tau xs N x 0) : StDn tau xs x := by
  intro i j hij hj
  by_cases hjx : j < x - (0 + 1)
  · exact h.old i j hij hjx
  · exact .inl (h.cut i j (by omega) (by omega) hj)
theorem DInv.dn {xs : Array Keyed} {N x neq : Nat} (h : DInv tau xs N x neq) (hx : x ≤ xs.size) : StDn tau (mirror xs (x - (neq + 1)) x ((x - (x - (neq + 1))) / 2)) x := by
  have hle := h.le
  intro i j hij hj
  by_cases hjb : j < x - (neq + 1)
  · exact Lt2_of (mir_out hx (by omega)) (mir_out hx (by omega)) (h.old i j hij hjb)
  · by_cases hib : i < x - (neq + 1)
    · exact Lt2_of (mir_at hx (by omega) hj) (mir_out hx (by omega)) (.inl (h.cut _ _ hib (by omega) (by omega)))
    · refine Lt2_of (mir_at hx (by omega) hj) (mir_at hx (by omega) (by omega)) (.inr ⟨?_, ?_⟩)
      · rw [h.same _ (by omega) (by omega), h.same (x - (neq + 1) + x - 1 - i) (by omega) (by omega)]
      · exact h.up _ _ (by omega) (by omega) (by omega)
theorem DInv.start {xs : Array Keyed} {N x : Nat} (hd : StDn tau xs x) (hk : ∀ i, i < x → K xs x < K xs i) (hl : Later tau xs N x) : DInv tau xs N (x + 1) 0 where
  le := by omega
  old i j hij hj := hd i j hij (by omega)
  cut i j hi hj hj2 := by
    have : j = x := by omega
    subst this
    exact hk i (by omega)
  same i h1 h2 := by congr 1; omega
  up i j h1 h2 h3 := by omega
  late := hl.mono (by omega)
theorem DInv.more {xs : Array Keyed} {N x neq : Nat} (h : DInv tau xs N x neq) (he : K xs x = K xs (x - 1)) (hN : x < N) : DInv tau xs N (x + 1) (neq + 1) where
  le := by have := h.le; omega
  old i j hij hj := h.old i j hij (by omega)
  cut i j hi hj hj2 := by
    have hle := h.le
    by_cases hjx : j < x
    · exact h.cut i j (by omega) (by omega) hjx
    · have : j = x := by omega
      subst this
      rw [he]
      exact h.cut i (j - 1) (by omega) (by omega) (by omega)
  same i h1 h2 := by
    rw [show x + 1 - 1 = x by omega]
    by_cases hix : i = x
    · subst hix; rfl
    · rw [he]; exact h.same i (by omega) (by omega)
  up i j h1 h2 h3 := by
    by_cases hjx : j < x
    · exact h.up i j (by omega) h2 hjx
    · exact h.late i j h2 (by omega) (by omega)
  late := h.late.mono (by omega)
theorem st_descLoop {st : SortSt} {n nrem : Nat} {Q : DescSt → SortSt → Prop} (h0 : IntKeys a₀) (hn : nrem ≤ a₀.size) (hnn : n ≤ nrem) (hB : SBase a₀ st)
    (hs : DInv tau (arrOf st) a₀.size n 0)
    (h : ∀ m neq st', SBase a₀ st' → n ≤ m → m ≤ nrem → DInv tau (arrOf st') a₀.size m neq → Q (none, m, neq) st') :
    wpS (model prog w) A E s (descLoop n nrem) Q st := by
  unfold descLoop
  refine wpS_forRange (I := fun x c st' => ∃ neq, c = (none, x, neq) ∧ SBase a₀ st' ∧ DInv tau (arrOf st') a₀.size x neq) ?step ?fin ⟨0, rfl, hB, hs⟩
  case fin =>
    rintro c st' ⟨neq, rfl, hB', hs'⟩
    rw [show max n nrem = nrem by omega] at hs' ⊢
    exact h nrem neq st' hB' hnn (Nat.le_refl _) hs'
  case step =>
    rintro x c st' hax hxn ⟨neq, rfl, hB', hs'⟩
    dsimp only
    have hle := hs'.le
    have hsz : x ≤ (arrOf st').size := by rw [hB'.size]; omega
    refine wpS_bind (wpS_ltK hB' h0 (by omega) (by omega) ?_)
    by_cases hless : K (arrOf st') x < K (arrOf st') (x - 1)
    · simp only [hless, decide_true, if_true]
      have hall : ∀ i, i < x → K (arrOf st') x < K (arrOf st') i := fun i hi => Int.lt_of_lt_of_le hless (hs'.low hi)
      by_cases hneq : neq > 0
      · rw [if_pos hneq]
        refine wpS_bind (wpS_reverse (wpS_pure ⟨0, rfl, hB'.setArr (mirror_perm _ _ _ _), DInv.start (hs'.dn hsz) (fun i hi => ?_) (hs'.late.mir hsz (Nat.le_refl _))⟩))
        show K (mirror (arrOf st') _ _ _) x < K (mirror (arrOf st') _ _ _) i
        rw [K_mirror_equal hsz hs'.same, K_mirror_equal hsz hs'.same]
        exact hall i hi
      · rw [if_neg hneq]
        have e0 : neq = 0 := by omega
        subst e0
        exact wpS_pure ⟨0, rfl, hB', DInv.start hs'.dn0 hall hs'.late⟩
    · simp only [hless, decide_false, Bool.false_eq_true, if_false]
      refine wpS_bind (wpS_ltK hB' h0 (by omega) (by omega) ?_)
      by_cases hlarger : K (arrOf st') (x - 1) < K (arrOf st') x
      · simp only [hlarger, decide_true, if_true]
        exact wpS_pure (h x neq st' hB' hax (by omega) hs')
      · simp only [hlarger, decide_false, Bool.false_eq_true, if_false]
        exact wpS_pure ⟨neq + 1, rfl, hB', hs'.more (by omega) (by omega)⟩
theorem st_descPart {st : SortSt} {n nrem : Nat} {Q : Option Nat → SortSt → Prop} (h0 : IntKeys a₀) (hn : nrem ≤ a₀.size) (hnn : n + 1 ≤ nrem) (hB : SBase a₀ st)
    (hs : DInv tau (arrOf st) a₀.size (n + 1) 0) (h : ∀ m st', SBase a₀ st' → 1 ≤ m → m ≤ nrem → StTo tau (arrOf st') m → Later tau (arrOf st') a₀.size m → Q (some m) st') :
    wpS (model prog w) A E s (descPart n nrem) Q st := by
  unfold descPart
  refine wpS_bind (wpS_lift (wpAny_rule ⟨rfl, ?_⟩))
  refine wpS_bind (st_descLoop h0 hn hnn hB hs fun m neq st' hB' hm1 hm2 hs' => ?_)
  dsimp only
  have hsz : m ≤ (arrOf st').size := by rw [hB'.size]; omega
  by_cases hneq : neq > 0
  · rw [if_pos hneq]
    exact wpS_bind (wpS_reverse (st_tail3 h0 hn (by omega) hm2 (hB'.setArr (mirror_perm _ _ _ _)) (hs'.dn hsz) (hs'.late.mir hsz (Nat.le_refl _)) h))
  · rw [if_neg hneq]
    have e0 : neq = 0 := by omega
    subst e0
    exact st_tail3 h0 hn (by omega) hm2 hB' hs'.dn0 hs'.late h
theorem st_countRun {st : SortSt} {nrem : Nat} {Q : Option Nat → SortSt → Prop} (h0 : IntKeys a₀) (hn : nrem ≤ a₀.size) (h1 : 1 ≤ nrem) (hB : SBase a₀ st) (hl : Later tau (arrOf st) a₀.size 0)
    (h : ∀ m st', SBase a₀ st' → 1 ≤ m → m ≤ nrem → StTo tau (arrOf st') m → Later tau (arrOf st') a₀.size m → Q (some m) st') :
    wpS (model prog w) A E s (countRun' 0 nrem) Q st := by
  rw [countRun0_eq]
  have st1 : StTo tau (arrOf st) 1 := fun i j hij hj => by omega
  refine wpS_bind (wpS_ascLoop h0 hn (Nat.le_refl 1) h1 hB st1.srt fun n hn1 hn2 hsn hor => ?_)
  have hst : StTo tau (arrOf st) n := st_of st1 (hl.mono (by omega)) hsn (by omega)
  have hln : Later tau (arrOf st) a₀.size n := hl.mono (by omega)
  dsimp only
  by_cases hnn : n = nrem
  · rw [if_pos (by simpa using hnn)]
    exact wpS_pure (h n st hB hn1 hn2 hst hln)
  · rw [if_neg (by simpa using hnn)]
    have hlt : K (arrOf st) n < K (arrOf st) (n - 1) := hor.resolve_left hnn
    have hsz : n ≤ (arrOf st).size := by rw [hB.size]; omega
    by_cases hgt : n > 1
    · rw [if_pos hgt]
      refine wpS_bind (wpS_ltK hB h0 (by omega) (by omega) ?_)
      by_cases hrose : K (arrOf st) 0 < K (arrOf st) (n - 1)
      · simp only [hrose, decide_true, if_true]
        exact wpS_pure (h n st hB hn1 hn2 hst hln)
      · simp only [hrose, decide_false, Bool.false_eq_true, if_false]
        have hall : ∀ k, 0 ≤ k → k < n → K (arrOf st) k = K (arrOf st) (n - 1) := by
          intro k _ hk
          have a1 := hsn 0 k (by omega) hk
          have a2 := hsn k (n - 1) (by omega) (by omega)
          omega
        refine wpS_bind (wpS_reverse (st_descPart h0 hn (by omega) (hB.setArr (mirror_perm _ _ _ _)) (DInv.start ?_ (fun i hi => ?_) (hln.mir hsz (Nat.le_refl _))) h))
        · intro i j hij hj
          refine Lt2_of (mir_at hsz (by omega) hj) (mir_at hsz (by omega) (by omega)) (.inr ⟨?_, hl _ _ (by omega) (by omega) (by omega)⟩)
          rw [hall _ (by omega) (by omega), hall (0 + n - 1 - i) (by omega) (by omega)]
        · show K (mirror (arrOf st) _ _ _) n < K (mirror (arrOf st) _ _ _) i
          rw [K_mirror_equal hsz hall, K_mirror_equal hsz hall, hall i (by omega) hi]
          exact hlt
    · rw [if_neg hgt]
      have hn1' : n = 1 := by omega
      subst hn1'
      refine st_descPart h0 hn (by omega) hB (DInv.start (fun i j hij hj => by omega) (fun i hi => ?_) hln) h
      have : i = 0 := by omega
      subst this
      exact hlt
theorem bub_at {xs : Array Keyed} {k l : Nat} (hk : k < xs.size) (hl : l ≤ k) (p : Nat) : (bubble xs k (k - l))[p]? = xs[if p = l then k else if l < p ∧ p ≤ k then p - 1 else p]? := by
  rw [getElem?_bubble hk _ (by omega), show k - (k - l) = l by omega]
  repeat' split
  all_goals first | rfl | (exfalso; omega)
theorem st_bubble {xs : Array Keyed} {N k l : Nat} (hk : k < xs.size) (hkN : k < N) (hlk : l ≤ k) (hs : StTo tau xs k) (hl : Later tau xs N k) (hlo : ∀ i, i < l → K xs i ≤ K xs k) (hhi : ∀ i, l ≤ i → i < k → K xs k < K xs i) :
    StTo tau (bubble xs k (k - l)) (k + 1) ∧ Later tau (bubble xs k (k - l)) N (k + 1) := by
  constructor
  · intro i j hij hj
    refine Lt2_of (bub_at hk hlk i) (bub_at hk hlk j) ?_
    by_cases hjl : j = l
    · rw [if_neg (by omega), if_neg (by omega), if_pos hjl]
      have a := hlo i (by omega)
      have b := hl i k (by omega) (Nat.le_refl _) hkN
      unfold Lt2
      omega
    · by_cases hil : i = l
      · rw [if_pos hil, if_neg hjl, if_pos (by omega)]
        exact .inl (hhi _ (by omega) (by omega))
      · rw [if_neg hil, if_neg hjl]
        repeat' split
        all_goals exact hs _ _ (by omega) (by omega)
  · intro a b hab hb hN
    rw [Tt_congr (bub_at hk hlk a), Tt_congr (bub_at hk hlk b), if_neg (show ¬ b = l by omega), if_neg (show ¬ (l < b ∧ b ≤ k) by omega)]
    repeat' split
    all_goals exact hl _ _ (by omega) (by omega) hN
theorem st_binarySort {st : SortSt} {n ok : Nat} {Q : Bool → SortSt → Prop} (h0 : IntKeys a₀) (hn : n ≤ a₀.size) (hok : ok ≤ n) (hok1 : 1 ≤ ok) (hB : SBase a₀ st) (hs : StTo tau (arrOf st) ok) (hl : Later tau (arrOf st) a₀.size ok)
    (h : ∀ st', SBase a₀ st' → StTo tau (arrOf st') n → Q true st') : wpS (model prog w) A E s (binarySort' 0 n ok) Q st := by
  rw [binarySort'_eq]
  simp only [Nat.zero_add]
  refine wpS_bind (wpS_mono (wpS_forRange (I := fun k c st' => c = (none, ()) ∧ SBase a₀ st' ∧ StTo tau (arrOf st') (min k n) ∧ Later tau (arrOf st') a₀.size (min k n))
    (Q := fun c st' => c = (none, ()) ∧ SBase a₀ st' ∧ StTo tau (arrOf st') n) ?step ?fin ?init) ?post)
  case post =>
    rintro c st' ⟨rfl, hB', hs'⟩
    exact wpS_pure (h st' hB' hs')
  case init =>
    rw [show min (max ok 1) n = ok by omega]
    exact ⟨rfl, hB, hs, hl⟩
  case fin =>
    rintro c st' ⟨hc, hB', hs', _⟩
    refine ⟨hc, hB', ?_⟩
    rwa [show min (max (max ok 1) n) n = n by omega] at hs'
  case step =>
    rintro k c st' hak hkn ⟨rfl, hB', hs', hl'⟩
    rw [show min k n = k by omega] at hs' hl'
    have hk : k < a₀.size := by omega
    have hsr := hs'.srt
    refine wpS_bind (wpS_mono (wpS_forRange (I := fun x c st'' => st'' = st' ∧ ∃ l r, c = (none, l, r) ∧ l ≤ r ∧ r ≤ k ∧ r - l ≤ k - x ∧
        (∀ i, i < l → K (arrOf st') i ≤ K (arrOf st') k) ∧ (∀ i, r ≤ i → i < k → K (arrOf st') k < K (arrOf st') i))
      (Q := fun c st'' => st'' = st' ∧ ∃ l r, c = (none, l, r) ∧ l ≤ k ∧
        (∀ i, i < l → K (arrOf st') i ≤ K (arrOf st') k) ∧ (∀ i, l ≤ i → i < k → K (arrOf st') k < K (arrOf st') i)) ?istep ?ifin ?iinit) ?ipost)
    case iinit => exact ⟨rfl, 0, k, rfl, by omega, by omega, by omega, fun i hi => by omega, fun i h1 h2 => by omega⟩
    case ifin =>
      rintro c st'' ⟨rfl, l, r, rfl, hlr, hrk, hm, hlo, hhi⟩
      have : l = r := by omega
      subst this
      exact ⟨rfl, l, l, rfl, hrk, hlo, hhi⟩
    case istep =>
      rintro x c st'' _ hxk ⟨rfl, l, r, rfl, hlr, hrk, hm, hlo, hhi⟩
      dsimp only
      by_cases hge : l ≥ r
      · rw [if_pos hge]
        have : l = r := by omega
        subst this
        exact wpS_pure ⟨rfl, l, l, rfl, hrk, hlo, hhi⟩
      · rw [if_neg hge]
        refine wpS_bind (wpS_ltK hB' h0 hk (by omega) ?_)
        by_cases hless : K (arrOf st'') k < K (arrOf st'') ((l + r) / 2)
        · simp only [hless, decide_true, if_true]
          refine wpS_pure ⟨rfl, l, (l + r) / 2, rfl, by omega, by omega, by omega, hlo, fun i h1 h2 => ?_⟩
          exact Int.lt_of_lt_of_le hless (hsr _ _ h1 h2)
        · simp only [hless, decide_false, Bool.false_eq_true, if_false]
          refine wpS_pure ⟨rfl, (l + r) / 2 + 1, r, rfl, by omega, by omega, by omega, fun i h1 => ?_, hhi⟩
          exact Int.le_trans (hsr i ((l + r) / 2) (by omega) (by omega)) (Int.not_lt.mp hless)
    case ipost =>
      rintro c st'' ⟨rfl, l, r, rfl, hlk, hlo, hhi⟩
      show wpS _ _ _ _ (do moveDown' k l; pure (ForInStep.yield (none, ()))) _ _
      rw [moveDown'_eq]
      have hb := st_bubble (N := a₀.size) (by rw [hB'.size]; exact hk) hk hlk hs' hl' hlo hhi
      refine wpS_bind (wpS_modify (wpS_pure ⟨rfl, hB'.setArr (bubble_perm _ _ _), ?_⟩))
      rw [show min (k + 1) n = k + 1 by omega]
      exact hb
noncomputable def StDone (tau : Value → Int) (a₀ : Array Keyed) (st : SortSt) : Prop :=
  (arrOf st).Perm a₀ ∧ failedOf st = none ∧ pendingOf st = #[(0, a₀.size, 0)] ∧ StTo tau (arrOf st) a₀.size
theorem st_done {st : SortSt} (hB : SBase a₀ st) (hs : StTo tau (arrOf st) a₀.size) : StDone tau a₀ (setPending st ((pendingOf st).push (0, a₀.size, 0))) :=
  ⟨hB.perm, hB.failed, by show (pendingOf st).push _ = _; rw [hB.pend]; rfl, hs⟩
theorem st_sortRuns {st : SortSt} {Q : Unit → SortSt → Prop} (h0 : IntKeys a₀) (hB : SBase a₀ st) (h2 : 2 ≤ a₀.size) (h64 : a₀.size < 64) (hl : Later tau (arrOf st) a₀.size 0)
    (h : ∀ st', (arrOf st').Perm a₀ → failedOf st' = none → StTo tau (arrOf st') a₀.size → Q () st') : wpS (model prog w) A E s sortRuns' Q st := by
  rw [sortRuns'_eq]
  refine wpS_bind (wpS_get ?_)
  dsimp only
  have hmr : minRun' a₀.size a₀.size 0 = a₀.size := by
    obtain ⟨f, hf⟩ : ∃ f, a₀.size = f + 1 := ⟨a₀.size - 1, by omega⟩
    have : minRun' (f + 1) a₀.size 0 = a₀.size := by rw [minRun'_succ, if_pos h64]; rfl
    rwa [← hf] at this
  simp only [hB.size, hmr]
  refine wpS_bind (wpS_mono (wpS_forRange
    (I := fun x c st' => (x = 0 ∧ c = (none, 0) ∧ SBase a₀ st' ∧ Later tau (arrOf st') a₀.size 0) ∨ (1 ≤ x ∧ c = (none, a₀.size) ∧ StDone tau a₀ st'))
    (Q := fun c st' => c = (none, a₀.size) ∧ StDone tau a₀ st') ?step ?fin (.inl ⟨rfl, rfl, hB, hl⟩)) ?post)
  case fin =>
    rintro c st' (⟨hx, _, _⟩ | ⟨_, hc, hD⟩)
    · omega
    · exact ⟨hc, hD⟩
  case step =>
    rintro x c st' _ hx (⟨rfl, rfl, hB', hl'⟩ | ⟨hx1, rfl, hD⟩)
    · dsimp only
      rw [if_neg (by omega)]
      simp only [Nat.sub_zero, Nat.min_self, Nat.zero_add]
      refine wpS_bind (st_countRun h0 (Nat.le_refl _) (by omega) hB' hl' fun m st2 hB2 hm1 hm2 hs2 hl2 => ?_)
      dsimp only
      by_cases hlt : m < a₀.size
      · rw [if_pos hlt]
        refine wpS_bind (wpS_lift (wpAny_rule ⟨rfl, ?_⟩))
        refine wpS_bind (st_binarySort h0 (Nat.le_refl _) hm2 hm1 hB2 hs2 hl2 fun st3 hB3 hs3 => ?_)
        simp only [Bool.not_true, Bool.false_eq_true, if_false]
        refine wpS_bind (wpS_get ?_)
        have hb : (pendingOf st3).back? = none := by rw [hB3.pend]; rfl
        rw [hb]
        dsimp only
        exact wpS_bind (wpS_modify (wpS_pure (.inr ⟨by omega, rfl, st_done hB3 hs3⟩)))
      · rw [if_neg hlt]
        have hm : m = a₀.size := by omega
        subst hm
        refine wpS_bind (wpS_get ?_)
        have hb : (pendingOf st2).back? = none := by rw [hB2.pend]; rfl
        rw [hb]
        dsimp only
        exact wpS_bind (wpS_modify (wpS_pure (.inr ⟨by omega, rfl, st_done hB2 hs2⟩)))
    · dsimp only
      rw [if_pos (Nat.le_refl _)]
      exact wpS_pure ⟨rfl, hD⟩
  case post =>
    rintro c st' ⟨rfl, hD⟩
    dsimp only
    refine wpS_bind (wpS_mono (wpS_forRange (I := fun _ c st'' => st'' = st' ∧ c = (none, ())) (Q := fun c st'' => st'' = st' ∧ c = (none, ())) ?_ (fun _ _ hh => hh) ⟨rfl, rfl⟩) ?_)
    · rintro x c st'' _ _ ⟨rfl, rfl⟩
      refine wpS_bind (wpS_get ?_)
      rw [if_pos (by rw [hD.2.2.1]; exact Nat.le_refl 1)]
      exact wpS_pure ⟨rfl, rfl⟩
    · rintro c st'' ⟨rfl, rfl⟩
      exact wpS_pure (h _ hD.1 hD.2.1 hD.2.2.2)
end
end
section
open PySem PySem.W PyProof.Rows
set_option maxRecDepth 100000
set_option maxHeartbeats 4000000
/-! sorted(.., key=..) of ints: the list in its one order -/
noncomputable def StOut (tau : Value → Int) (kz : List Int) (vs out : List Value) : Prop :=
  ∃ ps : List (Int × Value), ps.Perm (kz.zip vs) ∧ out = ps.map Prod.snd ∧ ps.Pairwise fun p q => p.1 < q.1 ∨ (p.1 = q.1 ∧ tau p.2 < tau q.2)
section
variable {tau : Value → Int} {keys : Array Value} {vs : List Value} {kz : List Int}
theorem st_out (hk : IntsAre keys.toList kz) {xs : Array Keyed} (hp : xs.Perm (keys.zip vs.toArray)) (hs : StTo tau xs xs.size) : StOut tau kz vs (xs.map (·.2)).toList := by
  have hl : xs.toList.Perm (keys.toList.zip vs) := by rw [← ksk_zip]; exact Array.perm_iff_toList_perm.mp hp
  refine ⟨xs.toList.map fun p : Keyed => (numOf p.1, p.2), ?_, ?_, ?_⟩
  · have e2 : (keys.toList.zip vs).map (fun p : Keyed => (numOf p.1, p.2)) = kz.zip vs := by
      rw [← hk.nums, List.zip_map_left]
      exact List.map_congr_left fun ⟨x, y⟩ _ => rfl
    rw [← e2]
    exact hl.map _
  · rw [Array.toList_map, List.map_map]; rfl
  · rw [List.pairwise_iff_getElem]
    intro i j hi hj hij
    have hi' : i < xs.size := by simpa using hi
    have hj' : j < xs.size := by simpa using hj
    have q := hs i j hij hj'
    unfold Lt2 Tt at q
    rw [K_eq hi', K_eq hj', Array.getElem?_eq_getElem hi', Array.getElem?_eq_getElem hj'] at q
    simpa using q
theorem st_later (hT : vs.Pairwise fun x y => tau x < tau y) (hz : keys.size = vs.length) : Later tau (keys.zip vs.toArray) (keys.zip vs.toArray).size 0 := by
  intro i j hij _ hj
  have hj' : j < vs.length := by rw [Array.size_zip, hz, List.size_toArray, Nat.min_self] at hj; exact hj
  have e : ∀ k (h : k < vs.length), Tt tau (keys.zip vs.toArray) k = tau vs[k] := by
    intro k h
    unfold Tt
    have h1 : k < (keys.zip vs.toArray).size := by rw [Array.size_zip, hz, List.size_toArray, Nat.min_self]; exact h
    rw [Array.getElem?_eq_getElem h1]
    simp
  rw [e i (by omega), e j hj']
  exact List.pairwise_iff_getElem.mp hT i j (by omega) hj' hij
end
section
variable {prog : Program} {w : World} {A : Around} {E : Value → Shared → Prop} {s : Shared} {h₀ : Heap} {L : Addr} {m : Str → Option Value} {news : List (Addr × Obj)} {a kS : Addr} {vs : List Value} {kz : List Int} {keys : Array Value} {e e1 : Nat} {P : PySem.Fin → Shared → Prop} {tau : Value → Int}
theorem st_tail_ {st : SortSt} (F : Fr h₀ L s.heap m) (N : News h₀ L s.heap (news ++ [(kS, seqObj "list" keys e), (a, seqObj "list" #[] e1)])) (hka : kS ≠ a) (hnk : ∀ p ∈ news, p.1 ≠ kS) (hna : ∀ p ∈ news, p.1 ≠ a)
    (hk : IntsAre keys.toList kz) (hlen : kz.length = vs.length) (h64 : vs.length < 64) (hp : (arrOf st).Perm (keys.zip vs.toArray)) (hs : StTo tau (arrOf st) (arrOf st).size) (hfl : failedOf st = none)
    (h : ∀ h' tk out c, Fr h₀ L h' m → News h₀ L h' ((a, seqObj "list" out c) :: news) → StOut tau kz vs out.toList → P (.done (.ret .none)) { s with heap := h', toks := tk }) :
    wpAny (model prog w) A (ksk_tail a false e1 (.ref kS) st) P E s := by
  have nk := N (kS, seqObj "list" keys e) (List.mem_append_right _ (.head _))
  have na := N (a, seqObj "list" #[] e1) (List.mem_append_right _ (.tail _ (.head _)))
  have Nn : News h₀ L s.heap news := fun p hp => N p (List.mem_append_left _ hp)
  have hsz : keys.size = vs.length := by
    have h1 := hk.length
    rw [Array.length_toList] at h1
    omega
  have hout : ((arrOf st).map (·.2)).size = vs.length := by
    rw [Array.size_map, hp.size_eq, Array.size_zip, hsz, List.size_toArray, Nat.min_self]
  have s1 := Heap.SameBut.update s.heap kS (Obj.mapSeq fun _ => (#[] : Array Value))
  have na1 : (s.heap.update kS (Obj.mapSeq fun _ => (#[] : Array Value))).get? a = some (seqObj "list" #[] e1) := (s1.2 a hka.symm).trans na.1
  have s2 := Heap.SameBut.update (s.heap.update kS (Obj.mapSeq fun _ => (#[] : Array Value))) a (Obj.mapSeq fun _ => (arrOf st).map (·.2))
  obtain ⟨c2, hc2⟩ : ∃ c2, ((s.heap.update kS (Obj.mapSeq fun _ => (#[] : Array Value))).update a (Obj.mapSeq fun _ => (arrOf st).map (·.2))).get? a = some (seqObj "list" ((arrOf st).map (·.2)) c2) := ⟨_, get?_update_seq na1 fun _ => (arrOf st).map (·.2)⟩
  have N2 := ksk_news (ksk_news Nn s1 hnk) s2 hna
  unfold ksk_tail
  (try dsimp only)
  refine wpAny_bind (listUpdate_at nk.1 rfl ?_ (by rw [hsz, sizeLine_eq]; omega) (Nat.zero_le _))
  refine wpAny_bind (wpAny_letGo ?_)
  refine wpAny_bind (seqEpoch_at na1 rfl ?_)
  refine wpAny_bind (listUpdate_at na1 rfl ?_ (Nat.zero_le _) (by show ((arrOf st).map (·.2)).size ≤ _; rw [hout, sizeLine_eq]; omega))
  rw [hfl]
  simp only [bne_self_eq_false, Bool.false_eq_true, if_false]
  refine wpAny_pure (h _ _ ((arrOf st).map (·.2)) c2 (ksk_fr (ksk_fr F s1 nk.2.1 nk.2.2) s2 na.2.1 na.2.2) (fun p hp => ?_) (st_out hk hp hs))
  rcases List.mem_cons.mp hp with rfl | hp
  · exact ⟨hc2, na.2⟩
  · exact N2 p hp
theorem st_end_ (F : Fr h₀ L s.heap m) (N : News h₀ L s.heap (news ++ [(kS, seqObj "list" keys e), (a, seqObj "list" #[] e1)])) (hka : kS ≠ a) (hnk : ∀ p ∈ news, p.1 ≠ kS) (hna : ∀ p ∈ news, p.1 ≠ a)
    (hk : IntsAre keys.toList kz) (hlen : kz.length = vs.length) (h64 : vs.length < 64) (h2 : 2 ≤ vs.length) (hT : vs.Pairwise fun x y => tau x < tau y)
    (h : ∀ h' tk out c, Fr h₀ L h' m → News h₀ L h' ((a, seqObj "list" out c) :: news) → StOut tau kz vs out.toList → P (.done (.ret .none)) { s with heap := h', toks := tk }) :
    wpAny (model prog w) A (ksk_end a false vs.toArray e1 (.ref kS) keys) P E s := by
  have hsz : keys.size = vs.length := by
    have h1 := hk.length
    rw [Array.length_toList] at h1
    omega
  have hzs : (keys.zip vs.toArray).size = vs.length := by rw [Array.size_zip, hsz, List.size_toArray, Nat.min_self]
  have hn2 : ¬ vs.toArray.size < 2 := by rw [List.size_toArray]; omega
  unfold ksk_end
  (try dsimp only)
  simp only [Bool.false_eq_true, if_false, if_neg hn2]
  rw [ksk_kind hk (by rw [hsz]; omega)]
  refine wpAny_bind (wpAny_pure ?_)
  refine wpAny_bind (wpAny_mono (st_sortRuns (tau := tau) (a₀ := keys.zip vs.toArray) (st := SortSt.mk' oneType' (keys.zip vs.toArray) #[] 7 none)
    (Q := fun _ st' => (arrOf st').Perm (keys.zip vs.toArray) ∧ failedOf st' = none ∧ StTo tau (arrOf st') (keys.zip vs.toArray).size)
    (ksk_intKeys hk) ⟨Array.Perm.refl _, rfl, rfl, rfl⟩ (by rw [hzs]; omega) (by rw [hzs]; exact h64) (st_later hT hsz) fun st' a1 a2 a3 => ⟨a1, a2, a3⟩) ?_ fun _ _ e => e)
  rintro ⟨⟨⟩, st'⟩ s' ⟨rfl, hp, hf, hs⟩
  (try dsimp only)
  exact st_tail_ F N hka hnk hna hk hlen h64 hp (by rw [hp.size_eq]; exact hs) hf h
theorem st_rest_ {f : Value} (F : Fr h₀ L s.heap m) (N : News h₀ L s.heap (news ++ [(kS, seqObj "list" #[] 0), (a, seqObj "list" #[] e1)])) (hka : kS ≠ a) (hnk : ∀ p ∈ news, p.1 ≠ kS) (hna : ∀ p ∈ news, p.1 ≠ a)
    (hlen : kz.length = vs.length) (h64 : vs.length < 64) (h2 : 2 ≤ vs.length) (hT : vs.Pairwise fun x y => tau x < tau y)
    (turn : ∀ (i : Nat) (v : Value) (k : Int), vs[i]? = some v → kz[i]? = some k → ∀ (h : Heap) (tk : Nat) (own : List (Addr × Obj)), Fr h₀ L h m → News h₀ L h (news ++ own) →
      wpAny (model prog w) A (call f [v]) (KskEnd h₀ L m (news ++ own) k { s with heap := h, toks := tk }) (fun _ _ => False) { s with heap := h, toks := tk })
    (h : ∀ h' tk out c, Fr h₀ L h' m → News h₀ L h' ((a, seqObj "list" out c) :: news) → StOut tau kz vs out.toList → P (.done (.ret .none)) { s with heap := h', toks := tk }) :
    wpAny (model prog w) A (ksk_rest a f false vs.toArray e1 (.ref kS)) P E s := by
  unfold ksk_rest
  refine wpAny_bind (wpAny_rule ?_)
  first
    | rw [List.forIn_toArray]
    | rw [← Array.forIn_toList]
  refine wpAny_bind (ksk_fold (fun i s' => ∃ h' tk kA e, s' = { s with heap := h', toks := tk } ∧ Fr h₀ L h' m ∧ News h₀ L h' (news ++ [(kS, seqObj "list" kA e), (a, seqObj "list" #[] e1)]) ∧ IntsAre kA.toList (kz.take i)) vs 0 s
    ⟨s.heap, s.toks, #[], 0, rfl, F, N, by simpa using IntsAre.nil⟩ ?step ?done)
  case done =>
    rintro s' ⟨h', tk, kA, e, rfl, F', N', hk⟩
    rw [List.take_of_length_le (by omega)] at hk
    (try dsimp only)
    exact wpAny_bind (listItems_at (N' (kS, seqObj "list" kA e) (List.mem_append_right _ (.head _))).1 rfl (st_end_ F' N' hka hnk hna hk hlen h64 h2 hT fun h3 tk3 out c F3 N3 k3 => h h3 tk3 out c F3 N3 k3))
  case step =>
    rintro j x s' hx ⟨h', tk, kA, e, rfl, F', N', hk⟩
    simp only [Nat.zero_add] at hk ⊢
    have hj : j < vs.length := (List.getElem?_eq_some_iff.mp hx).1
    have hkj : kz[j]? = some (kz[j]'(by omega)) := List.getElem?_eq_getElem (by omega)
    generalize kz[j]'(by omega) = k at hkj
    have hz : kA.size ≤ vs.length := by
      have h1 := hk.length
      rw [Array.length_toList, List.length_take] at h1
      omega
    refine wpAny_bind (wpAny_attempt (wpAny_mono (turn j x k hx hkj h' tk _ F' N') (fun v s'' he => ?_) fun _ _ hF => hF.elim))
    obtain ⟨g, tk2, t2, rfl, rfl, F2, N2⟩ := he
    (try dsimp only)
    have nk := N2 (kS, seqObj "list" kA e) (List.mem_append_right _ (.head _))
    have na := N2 (a, seqObj "list" #[] e1) (List.mem_append_right _ (.tail _ (.head _)))
    have s1 := Heap.SameBut.update g kS (Obj.mapSeq (·.push (.int k t2)))
    obtain ⟨c2, hc2⟩ : ∃ c2, (g.update kS (Obj.mapSeq (·.push (.int k t2)))).get? kS = some (seqObj "list" (kA.push (.int k t2)) c2) := ⟨_, get?_update_seq nk.1 (·.push (.int k t2))⟩
    have hk2 : IntsAre (kA.push (Value.int k t2)).toList (kz.take (j + 1)) := by
      rw [List.take_add_one, hkj, Array.toList_push]
      exact ksk_snoc hk
    refine wpAny_bind (listUpdate_at nk.1 rfl ?_ (by rw [sizeLine_eq]; omega) (Nat.le_trans (Nat.le_of_eq (Array.size_push ..)) (by rw [sizeLine_eq]; omega)))
    refine wpAny_pure ⟨rfl, _, _, kA.push (.int k t2), c2, rfl, ksk_fr F2 s1 nk.2.1 nk.2.2, fun p hp => ?_, hk2⟩
    rcases List.mem_append.mp hp with hp | hp
    · exact ksk_news (fun q hq => N2 q (List.mem_append_left _ hq)) s1 hnk p hp
    · rcases List.mem_cons.mp hp with rfl | hp
      · exact ⟨hc2, nk.2⟩
      · rw [List.mem_singleton.mp hp]
        exact ⟨(s1.2 a hka.symm).trans na.1, na.2⟩
theorem st_sort {f : Value} {n : Nat} (F : Fr h₀ L s.heap m) (N : News h₀ L s.heap news) (ho : s.heap.get? a = some (seqObj "list" vs.toArray n)) (haL : a ≠ L) (ha0 : h₀.get? a = none) (hna : ∀ p ∈ news, p.1 ≠ a)
    (hlen : kz.length = vs.length) (h64 : vs.length < 64) (h2 : 2 ≤ vs.length) (hT : vs.Pairwise fun x y => tau x < tau y)
    (turn : ∀ (i : Nat) (v : Value) (k : Int), vs[i]? = some v → kz[i]? = some k → ∀ (h : Heap) (tk : Nat) (own : List (Addr × Obj)), Fr h₀ L h m → News h₀ L h (news ++ own) →
      wpAny (model prog w) A (call f [v]) (KskEnd h₀ L m (news ++ own) k { s with heap := h, toks := tk }) (fun _ _ => False) { s with heap := h, toks := tk })
    (h : ∀ h' tk out c, Fr h₀ L h' m → News h₀ L h' ((a, seqObj "list" out c) :: news) → StOut tau kz vs out.toList → P (.done (.ret .none)) { s with heap := h', toks := tk }) :
    wpAny (model prog w) A (ksk_tree a f false) P E s := by
  have ha : a < s.heap.objs.size := Heap.lt_size ho
  have s1 := Heap.SameBut.update s.heap a (Obj.mapSeq fun _ => (#[] : Array Value))
  obtain ⟨e1, ho1⟩ : ∃ e1, (s.heap.update a (Obj.mapSeq fun _ => (#[] : Array Value))).get? a = some (seqObj "list" #[] e1) := ⟨_, get?_update_seq ho fun _ => #[]⟩
  have F1 := ksk_fr F s1 haL ha0
  have N1 := ksk_news N s1 hna
  have hkS : ((s.heap.update a (Obj.mapSeq fun _ => (#[] : Array Value))).push (seqObj "tuple" vs.toArray 0)).objs.size = s.heap.objs.size + 1 := by rw [size_push', Heap.size_update]
  have hLk : L < ((s.heap.update a (Obj.mapSeq fun _ => (#[] : Array Value))).push (seqObj "tuple" vs.toArray 0)).objs.size := (F1.push _).ns.lt
  unfold ksk_tree
  refine wpAny_bind (listItems_at ho rfl (wpAny_bind (listUpdate_at ho rfl ?_ (by rw [List.size_toArray, sizeLine_eq]; omega) (Nat.zero_le _))))
  refine wpAny_bind (seqEpoch_at ho1 rfl (wpAny_bind (wpAny_newTuple ?_ (by show vs.length ≤ _; rw [sizeLine_eq]; omega))))
  refine wpAny_bind (wpAny_newList (wpAny_holding ?_) (Nat.zero_le _))
  refine st_rest_ (s := { s with heap := ((s.heap.update a (Obj.mapSeq fun _ => (#[] : Array Value))).push (seqObj "tuple" vs.toArray 0)).push (seqObj "list" #[] 0) }) (kS := ((s.heap.update a (Obj.mapSeq fun _ => (#[] : Array Value))).push (seqObj "tuple" vs.toArray 0)).objs.size)
    ((F1.push _).push _) (fun p hp => ?_) (by rw [hkS]; exact Nat.ne_of_gt (Nat.lt_succ_of_lt ha)) (fun p hp => by rw [hkS]; exact Nat.ne_of_lt (Nat.lt_succ_of_lt (Heap.lt_size (N p hp).1))) hna hlen h64 h2 hT turn h
  rcases List.mem_append.mp hp with hp | hp
  · exact ⟨Heap.get?_push_of_some _ (Heap.get?_push_of_some _ (N1 p hp).1), (N1 p hp).2⟩
  · rcases List.mem_cons.mp hp with rfl | hp
    · exact ⟨Heap.get?_push_size _ rfl, Nat.ne_of_gt hLk, Heap.get?_none_of_le (Nat.le_trans F.above (Nat.le_of_lt hLk))⟩
    · rw [List.mem_singleton.mp hp]
      exact ⟨Heap.get?_push_of_some _ (Heap.get?_push_of_some _ ho1), haL, ha0⟩
end
section
variable {prog : Program} {w : World} {A : Around} {E : Value → Shared → Prop} {s : Shared} {h₀ : Heap} {L l : Addr} {m : Str → Option Value} {news : List (Addr × Obj)} {vs : List Value} {Q : Value → Shared → Prop} {tau : Value → Int}
theorem st_sorted {kz : List Int} {q : Addr} (F : Fr h₀ L s.heap m) (N : News h₀ L s.heap news) (hl : s.heap.IsList l vs.toArray) (hlen : kz.length = vs.length) (h64 : vs.length < 64) (h2 : 2 ≤ vs.length) (hT : vs.Pairwise fun x y => tau x < tau y)
    (turn : ∀ (i : Nat) (v : Value) (k : Int), vs[i]? = some v → kz[i]? = some k → ∀ (h : Heap) (tk : Nat) (own : List (Addr × Obj)), Fr h₀ L h m → News h₀ L h (news ++ own) →
      wpAny (model prog w) A.in1.in1 (call (.ref q) [v]) (KskEnd h₀ L m (news ++ own) k { s with heap := h, toks := tk }) (fun _ _ => False) { s with heap := h, toks := tk })
    (h : ∀ D h' tk out c, Fr h₀ L h' m → News h₀ L h' ((D, seqObj "list" out c) :: news) → (∀ q ∈ news, q.1 < D) → StOut tau kz vs out.toList → Q (.ref D) { s with heap := h', toks := tk }) :
    wpAny (model prog w) A (call (.builtin "sorted") [.ref l] [(Str.ofString "key", .ref q)]) Q E s := by
  refine call_function_entry_kw kind_sorted plain_sorted entry_sorted (ksk_s1 _ _) ?_
  unfold Builtin.«sorted»
  refine wpAny_bind (m := checkCount "sorted" 1 1 _) (wpAny_pure ?_)
  refine wpAny_bind (collect_list hl (wpAny_bind (wpAny_newList ?_ (by rw [sizeLine_eq]; omega))) (by rw [sizeLine_eq]; omega))
  have hsz : ((s.heap.push (seqObj "list" #[] 0)).update s.heap.objs.size (Obj.mapSeq (· ++ vs.toArray))).objs.size = s.heap.objs.size + 1 := by
    rw [Heap.size_update, size_push']
  have hoL : (((s.heap.push (seqObj "list" #[] 0)).update s.heap.objs.size (Obj.mapSeq (· ++ vs.toArray))).push (seqObj "list" vs.toArray 0)).get? (s.heap.objs.size + 1) = some (seqObj "list" vs.toArray 0) := by
    rw [← hsz]; exact Heap.get?_push_size _ rfl
  have keep : ∀ b o, s.heap.get? b = some o → (((s.heap.push (seqObj "list" #[] 0)).update s.heap.objs.size (Obj.mapSeq (· ++ vs.toArray))).push (seqObj "list" vs.toArray 0)).get? b = some o := fun b o q => by
    have hlt : b < s.heap.objs.size := Heap.lt_size q
    rw [Heap.get?_push_ne _ _ _ (by rw [hsz]; exact Nat.ne_of_lt (Nat.lt_succ_of_lt hlt)), Heap.get?_update_ne _ _ _ _ (Nat.ne_of_lt hlt), Heap.get?_push_ne _ _ _ (Nat.ne_of_lt hlt)]
    exact q
  have hL : L < s.heap.objs.size := F.ns.lt
  have hN : ∀ p ∈ news, p.1 < s.heap.objs.size + 1 := fun p hp => Nat.lt_succ_of_lt (Heap.lt_size (N p hp).1)
  show wpAny _ _ _ _ _ { s with heap := ((s.heap.push (seqObj "list" #[] 0)).update s.heap.objs.size (Obj.mapSeq (· ++ vs.toArray))).push (seqObj "list" vs.toArray 0) }
  rw [hsz]
  refine wpAny_bind (wpAny_holding (wpAny_call_entry_kw slot_list_sort ⟨_, hoL, rfl⟩ entry_list_sort ?body (ksk_l1 _ _)))
  show wpAny (model prog w) A.in1.in1 (Builtin.«list.sort» ⟨[.ref (s.heap.objs.size + 1)], [(Str.ofString "key", .ref q)]⟩) _ _ _
  rw [ksk_t1]
  refine st_sort (s := { s with heap := ((s.heap.push (seqObj "list" #[] 0)).update s.heap.objs.size (Obj.mapSeq (· ++ vs.toArray))).push (seqObj "list" vs.toArray 0) })
    (F.kept keep) (N.grown keep) hoL (Nat.ne_of_gt (Nat.lt_succ_of_lt hL)) (Heap.get?_none_of_le (Nat.le_trans F.above (Nat.le_succ_of_le (Nat.le_of_lt hL)))) (fun p hp => Nat.ne_of_lt (hN p hp)) hlen h64 h2 hT turn fun h' tk out c F' N' k' => ⟨_, rfl, ?_⟩
  exact wpAny_pure ⟨_, rfl, h _ h' tk out c F' N' hN k'⟩
end
/-! ints: keys by kf, places by the list itself -/
end
section
open PySem PySem.W PyProof.Rows
set_option maxRecDepth 10000
/-! the threads are distinct -/
theorem row_perm (mark : Int) : ∀ (ms ds : List Int) (th : Int), ds.length = ms.length → ((rowGo mark ms ds th).2 :: (rowGo mark ms ds th).1).Perm (th :: ds) ∧ (rowGo mark ms ds th).1.length = ms.length
  | [], [], th, _ => ⟨List.Perm.refl _, rfl⟩
  | mk :: ms, d :: ds, th, h => by
    have hl : ds.length = ms.length := by simpa using h
    unfold rowGo
    split
    · obtain ⟨i1, i2⟩ := row_perm mark ms ds d hl
      exact ⟨((List.Perm.swap _ _ _).trans (List.Perm.cons _ i1)), by simp [i2]⟩
    · obtain ⟨i1, i2⟩ := row_perm mark ms ds th hl
      exact ⟨((List.Perm.swap _ _ _).trans (List.Perm.cons _ i1)).trans (List.Perm.swap _ _ _), by simp [i2]⟩
  | [], _ :: _, _, h => by simp at h
  | _ :: _, [], _, h => by simp at h
noncomputable def lefts (n : Nat) : List Int := (List.range n).map fun i : Nat => -1 - (i : Int)
theorem lefts_succ (n : Nat) : lefts (n + 1) = lefts n ++ [-1 - (n : Int)] := by simp [lefts, List.range_succ]
theorem net_perm (tm : List Int) : ∀ (rows dn rt base : List Int), dn.length = tm.length → (dn ++ rt).Perm (base ++ lefts rt.length) →
    ((rows.foldl (outStep tm) (dn, rt)).1 ++ (rows.foldl (outStep tm) (dn, rt)).2).Perm (base ++ lefts (rt.length + rows.length)) ∧ (rows.foldl (outStep tm) (dn, rt)).1.length = tm.length
  | [], dn, rt, base, hl, hp => ⟨by simpa using hp, hl⟩
  | mark :: rows, dn, rt, base, hl, hp => by
    obtain ⟨i1, i2⟩ := row_perm mark tm dn (-1 - (rt.length : Int)) hl
    have ih := net_perm tm rows (rowGo mark tm dn (-1 - (rt.length : Int))).1 (rt ++ [(rowGo mark tm dn (-1 - (rt.length : Int))).2]) base i2 (by
      rw [List.length_append, List.length_singleton, lefts_succ, ← List.append_assoc, ← List.append_assoc]
      refine (List.perm_append_singleton _ _).trans (((List.Perm.append_right rt i1) : _).trans ?_)
      exact (List.Perm.cons _ hp).trans (List.perm_append_singleton _ _).symm)
    rw [List.foldl_cons, outStep]
    rw [List.length_append, List.length_singleton] at ih
    rw [List.length_cons, show rt.length + (rows.length + 1) = rt.length + 1 + rows.length by omega]
    exact ih
theorem out_perm (wm tm : List Int) : (outOf wm tm).Perm (rangeKs 0 tm.length ++ lefts wm.length) := by
  have h := (net_perm tm wm (rangeKs 0 tm.length) [] (rangeKs 0 tm.length) (rangeKs_length _ _) (List.Perm.refl _)).1
  simp only [List.length_nil, Nat.zero_add] at h
  exact (List.Perm.append_left _ (List.reverse_perm _)).trans h
theorem out_len (wf tf : List Int) : (outOf (marksOf wf) (marksOf tf)).length = 4 * tf.length + 4 * wf.length := by
  rw [(out_perm _ _).length_eq, List.length_append, rangeKs_length, lefts, List.length_map, List.length_range, marks_len, marks_len]
theorem out_nodup (wm tm : List Int) : (outOf wm tm).Nodup := by
  rw [(out_perm _ _).nodup_iff, List.nodup_append]
  refine ⟨?_, ?_, fun a ha b hb => ?_⟩
  · unfold rangeKs
    exact List.pairwise_map.mpr (List.nodup_range.imp fun {a b} h h2 => h (by omega))
  · unfold lefts
    exact List.pairwise_map.mpr (List.nodup_range.imp fun {a b} h h2 => h (by omega))
  · have h1 := mem_rangeKs ha
    obtain ⟨i, _, rfl⟩ := List.mem_map.mp hb
    omega
/-! the one order -/
noncomputable def placeOf (ns : List Int) (v : Value) : Int := ((ns.idxOf (numOf v) : Nat) : Int)
noncomputable def ordK (ns : List Int) (x y : Int) : Prop := kf x < kf y ∨ (kf x = kf y ∧ ns.idxOf x < ns.idxOf y)
theorem place_up {vs : List Value} {ns : List Int} (hi : IntsAre vs ns) (hn : ns.Nodup) : vs.Pairwise fun x y => placeOf ns x < placeOf ns y := by
  have h : (vs.map numOf).Pairwise fun x y => ((ns.idxOf x : Nat) : Int) < ((ns.idxOf y : Nat) : Int) := by
    rw [hi.nums, List.pairwise_iff_getElem]
    intro i j h1 h2 h3
    rw [hn.idxOf_getElem, hn.idxOf_getElem]
    omega
  exact (List.pairwise_map (f := numOf) (R := fun x y => ((ns.idxOf x : Nat) : Int) < ((ns.idxOf y : Nat) : Int))).mp h
theorem ins_perm (h : List Int) (x : Int) : (insK h x).Perm (x :: h) := by
  unfold insK
  refine List.perm_middle.trans (List.Perm.cons _ ?_)
  rw [List.take_append_drop]
theorem fold_perm : ∀ (os h : List Int), (os.foldl insK h).Perm (os ++ h)
  | [], h => List.Perm.refl _
  | x :: os, h => by
    rw [List.foldl_cons]
    refine (fold_perm os (insK h x)).trans ((List.Perm.append_left _ (ins_perm h x)).trans ?_)
    exact List.perm_middle
theorem held_perm (os : List Int) : (heldOf os).Perm os := by
  have := fold_perm os []
  rwa [List.append_nil] at this
theorem ord_srt {ns h : List Int} (hs : h.Pairwise (ordK ns)) : Srt h := hs.imp fun {a b} q => by
  rcases q with q | q
  · exact Int.le_of_lt q
  · exact Int.le_of_eq q.1
theorem ins_ord {ns h : List Int} {x : Int} (hs : h.Pairwise (ordK ns)) (hx : ∀ a ∈ h, ns.idxOf a < ns.idxOf x) : (insK h x).Pairwise (ordK ns) := by
  obtain ⟨h1, h2⟩ := srt_split (y := kf x) (ord_srt hs)
  unfold insK
  have hs' : (h.take (cntK h (kf x)) ++ h.drop (cntK h (kf x))).Pairwise (ordK ns) := by rw [List.take_append_drop]; exact hs
  obtain ⟨p1, p2, p3⟩ := List.pairwise_append.mp hs'
  refine List.pairwise_append.mpr ⟨p1, List.pairwise_cons.mpr ⟨fun v hv => .inl (h2 v hv), p2⟩, fun a ha b hb => ?_⟩
  rcases List.mem_cons.mp hb with rfl | hb
  · have q := h1 a ha
    have q2 := hx a (List.mem_of_mem_take ha)
    unfold ordK
    omega
  · exact p3 a ha b hb
theorem fold_ord {ns : List Int} : ∀ (os h : List Int), h.Pairwise (ordK ns) → (os.Pairwise fun a b => ns.idxOf a < ns.idxOf b) → (∀ a ∈ h, ∀ b ∈ os, ns.idxOf a < ns.idxOf b) → (os.foldl insK h).Pairwise (ordK ns)
  | [], _, hs, _, _ => hs
  | x :: os, h, hs, ho, hho => by
    rw [List.foldl_cons]
    obtain ⟨o1, o2⟩ := List.pairwise_cons.mp ho
    refine fold_ord os (insK h x) (ins_ord hs fun a ha => hho a ha x (List.mem_cons_self ..)) o2 fun a ha b hb => ?_
    rcases List.mem_cons.mp ((ins_perm h x).mem_iff.mp ha) with rfl | ha
    · exact o1 b hb
    · exact hho a ha b (List.mem_cons_of_mem _ hb)
theorem held_ord {ns : List Int} (hn : ns.Nodup) : (heldOf ns).Pairwise (ordK ns) := by
  refine fold_ord ns [] .nil ?_ (fun a ha => nomatch ha)
  rw [List.pairwise_iff_getElem]
  intro i j h1 h2 h3
  rw [hn.idxOf_getElem, hn.idxOf_getElem]
  exact h3
theorem held_only {ns ns' : List Int} (hn : ns.Nodup) (hp : ns'.Perm ns) (ho : ns'.Pairwise (ordK ns)) : ns' = heldOf ns :=
  List.Perm.eq_of_pairwise (le := ordK ns) (fun a b _ _ h1 h2 => by unfold ordK at h1 h2; omega) ho (held_ord hn) (hp.trans (held_perm ns).symm)
/-- what sorted(out, key=_law_key) hands back -/
theorem sorted_held {vs out : List Value} {ns : List Int} (hi : IntsAre vs ns) (hn : ns.Nodup) (ho : StOut (placeOf ns) (ns.map kf) vs out) : IntsAre out (heldOf ns) := by
  obtain ⟨ps, hp, rfl, hs⟩ := ho
  have hlen := hi.length
  have hrel : ∀ p, p ∈ (ns.map kf).zip vs → p.1 = kf (numOf p.2) ∧ p.2 ∈ vs := by
    rw [← hi.nums, List.map_map, List.zip_map_left]
    intro p hp
    obtain ⟨⟨u, v⟩, hq, rfl⟩ := List.mem_map.mp hp
    have h1 : u = v ∧ u ∈ vs := mem_zip_self hq
    exact ⟨congrArg (fun z => kf (numOf z)) h1.1, h1.1 ▸ h1.2⟩
  have hI : IntsAre (ps.map Prod.snd) ((ps.map Prod.snd).map numOf) := intsAre_map _ fun v hv => by
    obtain ⟨p, hp', rfl⟩ := List.mem_map.mp hv
    exact hi.all _ (hrel p (hp.mem_iff.mp hp')).2
  have hP : ((ps.map Prod.snd).map numOf).Perm ns := by
    have h1 := (hp.map Prod.snd).map numOf
    rw [List.map_snd_zip (by rw [List.length_map]; omega), hi.nums] at h1
    exact h1
  have hO : ((ps.map Prod.snd).map numOf).Pairwise (ordK ns) := by
    rw [List.pairwise_map, List.pairwise_map]
    refine hs.imp_of_mem fun {p q} hp' hq' hr => ?_
    rw [(hrel p (hp.mem_iff.mp hp')).1, (hrel q (hp.mem_iff.mp hq')).1] at hr
    unfold placeOf at hr
    unfold ordK
    omega
  rw [held_only hn hP hO] at hI
  exact hI
end
section
open PySem PySem.W PyProof.Rows
set_option maxRecDepth 100000
set_option maxHeartbeats 4000000
theorem srt_ct {w mean mg mb} (news : List (Addr × Obj)) (lo : Addr) (vo : List Value) (os : List Int) (no : Nat) (hlo : (lo, listOf vo.toArray no) ∈ news) (hio : IntsAre vo os) (hz : os.length < 64) (h2 : 2 ≤ os.length) (hn : os.Nodup)
    (dp un : Nat) (gd : Option (List Code)) (cn : Str) (cs : Scope) (a : Addr) (ccd : Value) (cl : List (Str × Addr)) (outer : List Env) (A₀ : Around) (base h₀ : Heap) (L : Addr) (m : Str → Option Value) (s : Shared) (Q E : Value → Shared → Prop)
    (B : Below A₀ base outer h₀) (F : Fr h₀ L s.heap m) (X : (hd.heap_39 w.params).In h₀) (N : News h₀ L s.heap news) (T : Top hd.view_39 LO mean mg mb h₀) (hk : cs.kind = .function)
    (hd : dp + 1 < recursionLimit) (hu : un + 2 + 8 < cLine)
    (hret : ∀ (D : Addr) (vs' : List Value) (n' : Nat) (h' : Heap) (tk' : Nat), Fr h₀ L h' m → News h₀ L h' ((D, listOf vs'.toArray n') :: news) → (∀ q ∈ news, q.1 < D) → IntsAre vs' (heldOf os) → Q (.ref D) { s with heap := h', toks := tk' }) :
    wpAny (model PR w) (ktrTop dp un gd cn cs L a ccd cl outer) (call (.builtin "sorted") [.ref lo] [(Str.ofString "key", .ref 79)]) Q E s := by
  have hlen := hio.length
  refine st_sorted (tau := placeOf os) (kz := os.map kf) F N (News.isList N hlo) (by rw [List.length_map, hlen]) (by omega) (by omega) (place_up hio hn) (fun i v k hv hk2 h tk own F' N' => ?_) fun D h' tk out c F' N' hlt hO => ?_
  · obtain ⟨x, t, rfl, hx⟩ := IntsAre.at hio i v hv
    rw [List.getElem?_map, hx] at hk2
    have hk3 : kf x = k := by simpa using hk2
    subst hk3
    refine key_ct (news ++ own) x t dp (un + 2) gd cn cs a ccd cl outer A₀ base h₀ L m { s with heap := h, toks := tk } _ _ B F' X N' T hk hd hu (fun r h3 tk3 F3 N3 hr => ?_)
    obtain ⟨t3, rfl⟩ := hr
    exact KskEnd.intro F3 N3 (fun p hp => hp)
  · have hI := sorted_held hio hn hO
    refine hret D out.toList c h' tk F' ?_ hlt hI
    rw [Array.toArray_toList]
    exact N'
end
section
open PySem PySem.W PyProof.Rows
set_option maxRecDepth 100000
set_option maxHeartbeats 4000000
noncomputable def lawDef : List PySem.Stmt × PySem.Scope := match (PySem.Challenge.pw_pu0018_01.main.body[16]? : Option PySem.Stmt) with
  | some (PySem.Stmt.FunctionDef _ _ body _ _ _ scp _ _ _) => (body, scp)
  | _ => ([], default)
noncomputable def eBody : List PySem.Stmt := match lawDef.1[7]? with
  | some (PySem.Stmt.For _ _ body _ _) => body
  | _ => []
theorem norm7 {m : Str → Option Value} {a b c d e f g : Str} {va vb vc vd ve vf vg : Value} (ha : m a = some va) (hb : m b = some vb) (hc : m c = some vc) (hd : m d = some vd) (he : m e = some ve) (hf : m f = some vf) (hg : m g = some vg) (z : Str) :
    (if z = a then some va else if z = b then some vb else if z = c then some vc else if z = d then some vd else if z = e then some ve else if z = f then some vf else if z = g then some vg else m z) = m z := by
  (repeat' split) <;> (subst_vars; simp_all)
theorem sz10 {x : Str} (h : x.length ≤ 10) : x.length ≤ sizeLine := by rw [sizeLine_eq]; omega
theorem s_loop1 {w mean mg mb} (wf tf : List Int) (hw : ∀ f ∈ wf, six f) (ht : ∀ g ∈ tf, six g) (mm nn : Int) (hm : mm = (wf.length : Int)) (hn : nn = (tf.length : Int)) (hm3 : wf.length ≤ 3) (hn4 : tf.length ≤ 4)
    (l lh : Addr) (vs vh : List Value) (ns hs : List Int) (nh : Nat) (news : List (Addr × Obj)) (hlh : (lh, listOf vh.toArray nh) ∈ news) (hi : IntsAre vs ns) (hz : ns.length ≤ 63) (hih : IntsAre vh hs) (hS : Srt hs) (hhl : hs.length ≤ 40)
    (ee : Int) (k : Nat) (hk : ee = (k : Int)) (he : ee ≤ mm + nn) (hhs : hs = heldOf ((outOf (marksOf wf) (marksOf tf)).take (4 * k)))
    (t0 t1 t2 t3 t4 : Tok)
    (dp un : Nat) (gd : Option (List Code)) (L fa : Addr) (cd : Value) (outer : List Env) (A₀ : Around) (base h₀ : Heap) (m : Str → Option Value) (s : Shared) (Q : Flow → Shared → Prop)
    (B : Below A₀ base outer h₀) (F : Fr h₀ L s.heap (fun z => if z = Str.ofString "e" then some (Value.int ee t0) else if z = Str.ofString "script" then some (Value.ref l) else if z = Str.ofString "m" then some (Value.int mm t1) else if z = Str.ofString "n" then some (Value.int nn t2) else if z = Str.ofString "word" then some (Value.str (txtOf wf) t3) else if z = Str.ofString "text" then some (Value.str (txtOf tf) t4) else if z = Str.ofString "held" then some (Value.ref lh) else m z)) (X : (hd.heap_39 w.params).In h₀) (N : News h₀ L s.heap news) (T : Top hd.view_39 LO mean mg mb h₀)
    (hd : dp + 5 < recursionLimit) (hu : un + 40 < cLine) (hL : h₀.IsList l vs.toArray)
    (hQ : ∀ (h : Heap) (tk : Nat) (u : Str → Option Value), Fr h₀ L h (fun y => if y = Str.ofString "s" then u y else if [Str.ofString "due", Str.ofString "one"].contains y then u y else if y = Str.ofString "e" then some (Value.int ee t0) else if y = Str.ofString "script" then some (Value.ref l) else if y = Str.ofString "m" then some (Value.int mm t1) else if y = Str.ofString "n" then some (Value.int nn t2) else if y = Str.ofString "word" then some (Value.str (txtOf wf) t3) else if y = Str.ofString "text" then some (Value.str (txtOf tf) t4) else if y = Str.ofString "held" then some (Value.ref lh) else m y) → News h₀ L h news → Q .next { s with heap := h, toks := tk }) :
    wpAny (model PR w) (ktrTop dp un gd (Str.ofString "law") lawDef.2 L fa cd [] outer) (execs eBody.tail (envOf (Str.ofString "law") lawDef.2 L fa cd)) Q (fun _ _ => False) s := by
  unfold eBody lawDef PR
  dsimp only [PySem.Challenge.pw_pu0018_01, List.getElem?_cons_succ, List.getElem?_cons_zero, List.tail_cons]
  revert X
  w_top off
  k_with_none
  k_with "my call ref" => (k_dflt (refine' bis_ct _ _ _ _ _ _ _ ?hl ?hi ?hz ?hs _ _ _ _ _ _ _ _ _ _ _ _ _ _ _ _ _ ?k1 ?k2 ?k3 ?k4 ?k5 ?kK ?kd ?ku ?_; (case k1 => k_asm); (case k2 => k_asm); (case k3 => k_asm); (case k4 => k_asm); (case k5 => k_asm); (case hl => k_mem); (case hi => assumption); (case hz => omega); (case hs => assumption); (case kK => first | exact rfl | assumption); (case kd => ktr_room); (case ku => ktr_units)); intro r9 h9 tk9 F9 N9 hp9; obtain ⟨t9, e8⟩ := hp9; subst e8; (try dsimp only); (try k_fold))
  k_with "my pyIter ref" => (refine Hold.out ?_)
  k_with "my k_mem" => assumption
  k_with "my k_mem" => (refine' List.mem_append.mpr (Or.inl ?_); k_mem)
  k_with "my k_mem" => (refine' List.mem_append.mpr (Or.inr ?_); k_mem)
  k_with "my news_mem" => k_mem
  k_with "my subscriptTail Name Slice str ref" => ((with_reducible show wpAny _ _ (subscriptTail _ (Expr.Slice (some _) (some _) none _) _ _) _ _ _); (with_reducible rename Fr _ _ _ _ => F'); (with_reducible rename News _ _ _ _ => N'); (refine slice_strN_ss_len (hsz := ?hsz) (s := ⟨_, _, _, _, _⟩) F' N' ?_); (case hsz => exact sz10 (by assumption)); intro _ _ _ _ _ _)
  k_with "my call ref" => ((with_reducible show wpAny _ _ (call (Value.ref 86) [Value.str _ _, Value.str _ _, Value.int _ _, Value.int _ _] _) _ _ _); refine Hold.out ?_)
  k_fill
  intro X
  have hwl : (txtOf wf).length ≤ 10 := by rw [txtOf_len]; omega
  have htl : (txtOf tf).length ≤ 10 := by rw [txtOf_len]; omega
  k_with_none
  k_with "my call ref" => (k_dflt (refine' bis_ct _ _ _ _ _ _ _ ?hl ?hi ?hz ?hs _ _ _ _ _ _ _ _ _ _ _ _ _ _ _ _ _ ?k1 ?k2 ?k3 ?k4 ?k5 ?kK ?kd ?ku ?_; (case k1 => k_asm); (case k2 => k_asm); (case k3 => k_asm); (case k4 => k_asm); (case k5 => k_asm); (case hl => k_mem); (case hi => assumption); (case hz => omega); (case hs => assumption); (case kK => first | exact rfl | assumption); (case kd => ktr_room); (case ku => ktr_units)); intro r9 h9 tk9 F9 N9 hp9; obtain ⟨t9, e8⟩ := hp9; subst e8; (try dsimp only); (try k_fold))
  k_with "my pyIter ref" => (refine Hold.out ?_)
  k_with "my k_mem" => assumption
  k_with "my k_mem" => (refine' List.mem_append.mpr (Or.inl ?_); k_mem)
  k_with "my k_mem" => (refine' List.mem_append.mpr (Or.inr ?_); k_mem)
  k_with "my news_mem" => k_mem
  k_with "my subscriptTail Name Slice str ref" => ((with_reducible show wpAny _ _ (subscriptTail _ (Expr.Slice (some _) (some _) none _) _ _) _ _ _); (with_reducible rename Fr _ _ _ _ => F'); (with_reducible rename News _ _ _ _ => N'); (refine slice_strN_ss_len (hsz := ?hsz) (s := ⟨_, _, _, _, _⟩) F' N' ?_); (case hsz => exact sz10 (by assumption)); intro _ _ _ _ _ _)
  k_with "my call ref" => ((with_reducible show wpAny _ _ (call (Value.ref 86) [Value.str _ _, Value.str _ _, Value.int _ _, Value.int _ _] _) _ _ _); refine Hold.out ?_)
  (try k_fold)
  k_steps
  unfold Hold
  have hlo : (if ee - mm - nn > -mm then ee - mm - nn else -mm) = max (-mm) (ee - mm - nn) := by split <;> omega
  have hhi : (if nn < ee then nn else ee) = min ee nn := by split <;> omega
  rename IsRange _ _ _ _ _ _ _ _ => rgX
  rename Fr _ _ _ _ => lF
  rename News _ _ _ _ => lN
  rw [hlo, hhi] at rgX
  clear hlo hhi
  with_unfolding_all refine' kst_range (fun _ : Unit => news) (fun _ => []) (fun _ => True) [Str.ofString "due", Str.ofString "one"] (fun _ _ => True) () (by rfl) rgX (by exact small_one (by omega) (by omega) (by omega) (by omega)) (by exact rangeSize_nat _ _) lF lN trivial (fun p hp => nomatch hp) trivial ?_ ?_
  · intro c pre kN kT u h tk own hkN hlt hoff _ _ F1 N1
    dsimp only [kstB] at F1
    clear lF lN
    k_steps
    unfold Hold
    have hD : 2 * (mm + kN - ee) + ((cntK hs (-kN) : Nat) : Int) = levS (Txt.slice (txtOf wf) (some (if -kN > 0 then -kN else 0)) (some (mm - if ee - nn > 0 then ee - nn else 0))) (Txt.slice (txtOf tf) (some (if kN > 0 then kN else 0)) (some ee)) := by
      rw [hhs, hm]
      rw [hm] at hkN hlt he
      rw [hn] at hkN hlt he ⊢
      exact due_eq hw ht hk (by omega) (by omega) (by omega) (by omega) (by omega) (by split <;> omega) (by split <;> omega) (by split <;> omega)
    k_dflt (refine' tel_ct _ _ _ _ _ _ _ _ _ ?hx ?hy hD ?hm _ _ _ _ _ _ _ _ _ _ _ _ _ _ _ _ _ ?k1 ?k2 ?k3 ?k4 ?k5 ?kK ?kd ?ku ?_; (case hx => exact Nat.le_trans (Txt.slice_le _ _ _) hwl); (case hy => exact Nat.le_trans (Txt.slice_le _ _ _) htl); (case hm => exact Int.fmod_nonneg_of_pos _ (by decide)); (case k1 => k_asm); (case k2 => k_asm); (case k3 => k_asm); (case k4 => k_asm); (case k5 => k_asm); (case kK => first | exact rfl | assumption); (case kd => ktr_room); (case ku => ktr_units))
    intro r9 h9 tk9 F9 N9 e8
    subst e8
    (try dsimp only); (try k_fold)
    k_steps
  · intro c u h tk _ _ F1 N1
    dsimp only [kstB] at F1
    show wpAny _ _ (execs [] _) _ _ _
    k_steps
    exact hQ _ _ u (by assumption) (by assumption)
theorem s_loop {w mean mg mb} (wf tf : List Int) (hw : ∀ f ∈ wf, six f) (ht : ∀ g ∈ tf, six g) (mm nn : Int) (hm : mm = (wf.length : Int)) (hn : nn = (tf.length : Int)) (hm3 : wf.length ≤ 3) (hn4 : tf.length ≤ 4)
    (l lh : Addr) (vs vh : List Value) (ns hs : List Int) (nh : Nat) (news : List (Addr × Obj)) (hlh : (lh, listOf vh.toArray nh) ∈ news) (hi : IntsAre vs ns) (hz : ns.length ≤ 63) (hih : IntsAre vh hs) (hS : Srt hs) (hhl : hs.length ≤ 40)
    (ee : Int) (k : Nat) (hk : ee = (k : Int)) (he : ee ≤ mm + nn) (hhs : hs = heldOf ((outOf (marksOf wf) (marksOf tf)).take (4 * k)))
    (t0 t1 t2 t3 t4 : Tok)
    (dp un : Nat) (gd : Option (List Code)) (L fa : Addr) (cd : Value) (outer : List Env) (A₀ : Around) (base h₀ : Heap) (m : Str → Option Value) (s : Shared) (Q : Flow → Shared → Prop)
    (B : Below A₀ base outer h₀) (F : Fr h₀ L s.heap m) (X : (hd.heap_39 w.params).In h₀) (N : News h₀ L s.heap news) (T : Top hd.view_39 LO mean mg mb h₀)
    (hd : dp + 5 < recursionLimit) (hu : un + 40 < cLine) (hL : h₀.IsList l vs.toArray)
    (e0 : m (Str.ofString "e") = some (.int ee t0)) (e1 : m (Str.ofString "script") = some (.ref l)) (e2 : m (Str.ofString "m") = some (.int mm t1)) (e3 : m (Str.ofString "n") = some (.int nn t2)) (e4 : m (Str.ofString "word") = some (.str (txtOf wf) t3)) (e5 : m (Str.ofString "text") = some (.str (txtOf tf) t4)) (e6 : m (Str.ofString "held") = some (.ref lh))
    (hQ : ∀ (h : Heap) (tk : Nat) (u : Str → Option Value), Fr h₀ L h (fun y => if y = Str.ofString "s" then u y else if [Str.ofString "due", Str.ofString "one"].contains y then u y else m y) → News h₀ L h news → Q .next { s with heap := h, toks := tk }) :
    wpAny (model PR w) (ktrTop dp un gd (Str.ofString "law") lawDef.2 L fa cd [] outer) (execs eBody.tail (envOf (Str.ofString "law") lawDef.2 L fa cd)) Q (fun _ _ => False) s := by
  have em := norm7 e0 e1 e2 e3 e4 e5 e6
  refine s_loop1 wf tf hw ht mm nn hm hn hm3 hn4 l lh vs vh ns hs nh news hlh hi hz hih hS hhl ee k hk he hhs t0 t1 t2 t3 t4 dp un gd L fa cd outer A₀ base h₀ m s Q B ?_ X N T hd hu hL (fun h tk u F5 N5 => hQ h tk u ?_ N5)
  · rw [show (fun z => if z = Str.ofString "e" then some (Value.int ee t0) else if z = Str.ofString "script" then some (Value.ref l) else if z = Str.ofString "m" then some (Value.int mm t1) else if z = Str.ofString "n" then some (Value.int nn t2) else if z = Str.ofString "word" then some (Value.str (txtOf wf) t3) else if z = Str.ofString "text" then some (Value.str (txtOf tf) t4) else if z = Str.ofString "held" then some (Value.ref lh) else m z) = m from funext em]
    exact F
  · simp only [em] at F5
    exact F5
end
section
open PySem PySem.W PyProof.Rows
set_option maxRecDepth 100000
set_option maxHeartbeats 4000000
theorem thr_turn {held0 pre held : List Int} {x : Int} (h1 : held = pre.foldl insK held0) (h2 : Srt held) (h3 : held.length = held0.length + pre.length) :
    insK held x = (pre ++ [x]).foldl insK held0 ∧ Srt (insK held x) ∧ (insK held x).length = held0.length + (pre ++ [x]).length := by
  refine ⟨by rw [List.foldl_append, ← h1]; rfl, ins_srt h2, ?_⟩
  rw [ins_len, h3, List.length_append, List.length_singleton]; omega
theorem thr_room {l pre post held held0 : List Int} {x : Int} (h : l = pre ++ x :: post) (hl : l.length ≤ 40) (h3 : held.length = held0.length + pre.length) (h0 : held0.length ≤ 50) : held.length ≤ 100 := by
  rw [h, List.length_append] at hl
  omega
theorem arr_room40 {vs : List Value} {ns : List Int} (hi : IntsAre vs ns) (hz : ns.length ≤ 40) : vs.toArray.size ≤ sizeLine := by
  have h := hi.length
  rw [sizeLine_eq, List.size_toArray]
  omega
theorem slice_x (e : Int) (_he : 0 ≤ e) : 0 ≤ (if 4 * e - 4 > 0 then 4 * e - 4 else 0) := by split <;> omega
theorem take_mid (os : List Int) {a b : Nat} (h : a ≤ b) : os.take a ++ (os.drop a).take (min b os.length - a) = os.take b := by
  obtain ⟨d, rfl⟩ := Nat.exists_eq_add_of_le h
  rw [List.take_add]
  congr 1
  rw [List.take_eq_take_iff, List.length_drop]
  omega
/-- the threads of one sign, laid onto those before -/
theorem held_next (os : List Int) (k : Nat) {ee : Int} (hk : ee = (k : Int)) : ((os.drop (if 4 * ee - 4 > 0 then 4 * ee - 4 else 0).toNat).take (min (4 * ee).toNat os.length - (if 4 * ee - 4 > 0 then 4 * ee - 4 else 0).toNat)).foldl insK (heldOf (os.take (4 * k - 4))) = heldOf (os.take (4 * k)) := by
  have e1 : (if 4 * ee - 4 > 0 then 4 * ee - 4 else 0).toNat = 4 * k - 4 := by split <;> omega
  have e2 : (4 * ee).toNat = 4 * k := by omega
  rw [e1, e2]
  unfold heldOf
  rw [← List.foldl_append, take_mid os (by omega)]
theorem fr_swap {u u3 M : Str → Option Value} {th sN d o : Str} (h1 : th ≠ sN) (h2 : th ≠ d) (h3 : th ≠ o) :
    (fun y => if y = sN then u3 y else if [d, o].contains y then u3 y else if y = th then u y else if ([] : List Str).contains y then u y else M y) = fun y => if [th, sN, d, o].contains y then (if y = th then u y else u3 y) else M y := by
  funext y
  by_cases hy : y = th
  · subst hy
    simp [h1, h2, h3]
  · by_cases a : y = sN <;> by_cases b : y = d <;> by_cases c : y = o <;> simp_all
theorem e_turn1 {w mean mg mb} (wf tf : List Int) (hw : ∀ f ∈ wf, six f) (ht : ∀ g ∈ tf, six g) (mm nn : Int) (hm : mm = (wf.length : Int)) (hn : nn = (tf.length : Int)) (hm3 : wf.length ≤ 3) (hn4 : tf.length ≤ 4)
    (l lh lo : Addr) (vs vh vo : List Value) (ns hs : List Int) (nh no : Nat) (news : List (Addr × Obj)) (hlo : (lo, listOf vo.toArray no) ∈ news) (hne : ∀ p ∈ news, p.1 ≠ lh) (hi : IntsAre vs ns) (hz : ns.length ≤ 63) (hio : IntsAre vo (outOf (marksOf wf) (marksOf tf))) (hol : (outOf (marksOf wf) (marksOf tf)).length ≤ 40) (hih : IntsAre vh hs)
    (ee : Int) (k : Nat) (hk : ee = (k : Int)) (he : ee ≤ mm + nn) (hhs : hs = heldOf ((outOf (marksOf wf) (marksOf tf)).take (4 * k - 4)))
    (t0 t1 t2 t3 t4 : Tok)
    (dp un : Nat) (gd : Option (List Code)) (L fa : Addr) (cd : Value) (outer : List Env) (A₀ : Around) (base h₀ : Heap) (m : Str → Option Value) (s : Shared) (Q : Flow → Shared → Prop)
    (B : Below A₀ base outer h₀) (F : Fr h₀ L s.heap (fun z => if z = Str.ofString "e" then some (Value.int ee t0) else if z = Str.ofString "script" then some (Value.ref l) else if z = Str.ofString "m" then some (Value.int mm t1) else if z = Str.ofString "n" then some (Value.int nn t2) else if z = Str.ofString "word" then some (Value.str (txtOf wf) t3) else if z = Str.ofString "text" then some (Value.str (txtOf tf) t4) else if z = Str.ofString "held" then some (Value.ref lh) else if z = Str.ofString "out" then some (Value.ref lo) else m z)) (X : (hd.heap_39 w.params).In h₀) (N : News h₀ L s.heap ((lh, listOf vh.toArray nh) :: news)) (T : Top hd.view_39 LO mean mg mb h₀)
    (hd : dp + 5 < recursionLimit) (hu : un + 40 < cLine) (hL : h₀.IsList l vs.toArray)
    (hQ : ∀ (h : Heap) (tk : Nat) (u : Str → Option Value) (vh' : List Value) (nh' : Nat), Fr h₀ L h (fun y => if [Str.ofString "thread", Str.ofString "s", Str.ofString "due", Str.ofString "one"].contains y then u y else if y = Str.ofString "e" then some (Value.int ee t0) else if y = Str.ofString "script" then some (Value.ref l) else if y = Str.ofString "m" then some (Value.int mm t1) else if y = Str.ofString "n" then some (Value.int nn t2) else if y = Str.ofString "word" then some (Value.str (txtOf wf) t3) else if y = Str.ofString "text" then some (Value.str (txtOf tf) t4) else if y = Str.ofString "held" then some (Value.ref lh) else if y = Str.ofString "out" then some (Value.ref lo) else m y) → News h₀ L h ((lh, listOf vh'.toArray nh') :: news) → IntsAre vh' (heldOf ((outOf (marksOf wf) (marksOf tf)).take (4 * k))) → Q .next { s with heap := h, toks := tk }) :
    wpAny (model PR w) (ktrTop dp un gd (Str.ofString "law") lawDef.2 L fa cd [] outer) (execs eBody (envOf (Str.ofString "law") lawDef.2 L fa cd)) Q (fun _ _ => False) s := by
  have hSrt : Srt hs := by rw [hhs]; exact held_srt _
  have hhl : hs.length ≤ 40 := by rw [hhs, heldOf, fold_len, List.length_take, List.length_nil]; omega
  unfold eBody lawDef PR
  dsimp only [PySem.Challenge.pw_pu0018_01, List.getElem?_cons_succ, List.getElem?_cons_zero, List.tail_cons]
  revert X
  w_top off
  k_with_none
  k_with "my call ref" => (refine Hold.out ?_)
  k_with "my pyIter ref" => (refine Hold.out ?_)
  k_with "my k_mem" => assumption
  k_with "my k_mem" => (refine' List.mem_append.mpr (Or.inl ?_); k_mem)
  k_with "my k_mem" => (refine' List.mem_append.mpr (Or.inr ?_); k_mem)
  k_with "my news_mem" => k_mem
  k_with "my subscriptTail Name Slice ref ref" => ((with_reducible show wpAny _ _ (subscriptTail _ (PySem.Expr.Slice (some _) (some _) none _) (Value.ref _) (Value.ref _)) _ _ _); refine Hold.out ?_)
  k_with "my exec For Name Subscript cons nil" => ((rename Fr _ _ _ _ => lF'); (with_unfolding_all refine' For_invVF lF' ?k1 ?k2 ?_; (case k1 => exact rfl); (case k2 => exact rfl)))
  k_fill
  intro X
  k_with_none
  k_with "my call ref" => (refine Hold.out ?_)
  k_with "my pyIter ref" => (refine Hold.out ?_)
  k_with "my k_mem" => assumption
  k_with "my k_mem" => (refine' List.mem_append.mpr (Or.inl ?_); k_mem)
  k_with "my k_mem" => (refine' List.mem_append.mpr (Or.inr ?_); k_mem)
  k_with "my news_mem" => k_mem
  k_with "my subscriptTail Name Slice ref ref" => ((with_reducible show wpAny _ _ (subscriptTail _ (PySem.Expr.Slice (some _) (some _) none _) (Value.ref _) (Value.ref _)) _ _ _); refine Hold.out ?_)
  k_with "my exec For Name Subscript cons nil" => ((rename Fr _ _ _ _ => lF'); (with_unfolding_all refine' For_invVF lF' ?k1 ?k2 ?_; (case k1 => exact rfl); (case k2 => exact rfl)))
  (try k_fold)
  k_steps
  unfold Hold
  have hx0 := slice_x ee (by omega)
  have hy0 : 0 ≤ 4 * ee := by omega
  have hrun := kmk_run hio hx0 hy0
  have hroom := arr_room40 hio hol
  k_dflt (refine' kmk_slice_ints ?sF ?sN ?sl ?sp ?sq hio hrun rfl ?sR ?ss ?st hroom)
  case sF => k_asm
  case sN => k_asm
  case sl => kmk_list
  case sp => kmk_part
  case sq => kmk_part
  case ss => with_unfolding_all rfl
  case st => kmk_pure
  intro D1 ws1 h1 F1 N1 l1 hI1 hC1 hL1
  clear hC1 hrun hroom
  have hL40 := Nat.le_trans hL1 hol
  have hD1 : lh < D1 := l1 _ (.head _)
  have hD2 : ∀ p ∈ news, p.1 < D1 := fun p hp => l1 p (.tail _ hp)
  clear l1
  k_steps
  unfold Hold
  rename Fr _ _ _ _ => lF
  rename News _ _ _ _ => lN
  have hdone := held_next (outOf (marksOf wf) (marksOf tf)) k hk
  rw [← hhs] at hdone
  with_unfolding_all refine' kst_listL (σ := List Value × List Int × Nat) (fun c => (D1, listOf ws1.toArray 0) :: (lh, listOf c.1.toArray c.2.2) :: news) (fun _ => []) (fun c => IntsAre c.1 c.2.1) [] (fun pre c => c.2.1 = pre.foldl insK hs ∧ Srt c.2.1 ∧ c.2.1.length = hs.length + pre.length) (vh, hs, nh) (by rfl) (fun _ => .head _) hI1 lF lN hih (fun p hp => nomatch hp) ⟨rfl, hSrt, rfl⟩ ?_ ?_
  · clear lF lN hQ
    rintro ⟨cv, ci, cn⟩ pre post n t u h tk own hsp hmem hoff hcI hP F1 N1
    dsimp only [kstB] at F1 hcI hP N1
    obtain ⟨hP1, hP2, hP3⟩ := hP
    have hlen := thr_room hsp hL40 hP3 (by omega)
    k_steps
    unfold Hold
    have hne2 : ∀ p ∈ news ++ own, p.1 ≠ lh := by
      intro p hp
      rcases List.mem_append.mp hp with hp | hp
      · exact hne p hp
      · exact hoff.ne (List.Mem.tail _ (List.Mem.head _)) p hp
    have hU : Upd lh (listOf cv.toArray cn) (listOf (kl_ins cv ((cntK ci (-(n.fdiv 4)) : Nat) : Int) (.int n t)).toArray (cn + 1)) ((D1, listOf ws1.toArray 0) :: (lh, listOf cv.toArray cn) :: (news ++ own)) ((D1, listOf ws1.toArray 0) :: (lh, listOf (kl_ins cv ((cntK ci (-(n.fdiv 4)) : Nat) : Int) (.int n t)).toArray (cn + 1)) :: (news ++ own)) := Upd.tail (Nat.ne_of_gt hD1) (Upd.head hne2)
    k_dflt (refine' ins_ct _ _ _ _ _ _ _ _ hU hcI hlen hP2 _ _ _ _ _ _ _ _ _ _ _ _ _ _ _ _ _ ?k1 ?k2 ?k3 ?k4 ?k5 ?kK ?kd ?ku ?_; (case k1 => k_asm); (case k2 => k_asm); (case k3 => k_asm); (case k4 => k_asm); (case k5 => k_asm); (case kK => first | exact rfl | assumption); (case kd => ktr_room); (case ku => ktr_units))
    intro r9 h9 tk9 F9 N9 e8
    subst e8
    (try dsimp only); (try k_fold)
    have hI9 := ints_ins (x := n) (t := t) hcI
    have hT9 := thr_turn (x := n) hP1 hP2 hP3
    k_with "state" => exact hT9
    k_steps
  · rintro ⟨cv, ci, cn⟩ u h tk hcI ⟨hP1, hP2, hP3⟩ F2 N2
    dsimp only [kstB] at F2 hcI hP1 hP2 hP3 N2
    clear lF lN
    rw [hdone] at hP1
    have hci40 : ci.length ≤ 40 := by rw [hP1, heldOf, fold_len, List.length_take, List.length_nil]; omega
    refine s_loop wf tf hw ht mm nn hm hn hm3 hn4 l lh vs cv ns ci cn _ (.tail _ (.head _)) hi hz hcI hP2 hci40 ee k hk he hP1 t0 t1 t2 t3 t4 dp un gd L fa cd outer A₀ base h₀ _ _ _ B F2 X N2 T hd hu hL rfl rfl rfl rfl rfl rfl rfl (fun h3 tk3 u3 F3 N3 => ?_)
    rw [fr_swap (by decide +kernel) (by decide +kernel) (by decide +kernel)] at F3
    exact hQ h3 tk3 _ cv cn F3 (kst_newsOf N3 (fun p hp => .tail _ hp)) (hP1 ▸ hcI)
end
section
open PySem PySem.W PyProof.Rows
set_option maxRecDepth 100000
set_option maxHeartbeats 4000000
theorem norm8 {m : Str → Option Value} {a b c d e f g h : Str} {va vb vc vd ve vf vg vh : Value} (ha : m a = some va) (hb : m b = some vb) (hc : m c = some vc) (hd : m d = some vd) (he : m e = some ve) (hf : m f = some vf) (hg : m g = some vg) (hh : m h = some vh) (z : Str) :
    (if z = a then some va else if z = b then some vb else if z = c then some vc else if z = d then some vd else if z = e then some ve else if z = f then some vf else if z = g then some vg else if z = h then some vh else m z) = m z := by
  (repeat' split) <;> (subst_vars; simp_all)
theorem e_turn {w mean mg mb} (wf tf : List Int) (hw : ∀ f ∈ wf, six f) (ht : ∀ g ∈ tf, six g) (mm nn : Int) (hm : mm = (wf.length : Int)) (hn : nn = (tf.length : Int)) (hm3 : wf.length ≤ 3) (hn4 : tf.length ≤ 4)
    (l lh lo : Addr) (vs vh vo : List Value) (ns hs : List Int) (nh no : Nat) (news : List (Addr × Obj)) (hlo : (lo, listOf vo.toArray no) ∈ news) (hne : ∀ p ∈ news, p.1 ≠ lh) (hi : IntsAre vs ns) (hz : ns.length ≤ 63) (hio : IntsAre vo (outOf (marksOf wf) (marksOf tf))) (hol : (outOf (marksOf wf) (marksOf tf)).length ≤ 40) (hih : IntsAre vh hs)
    (ee : Int) (k : Nat) (hk : ee = (k : Int)) (he : ee ≤ mm + nn) (hhs : hs = heldOf ((outOf (marksOf wf) (marksOf tf)).take (4 * k - 4)))
    (t0 t1 t2 t3 t4 : Tok)
    (dp un : Nat) (gd : Option (List Code)) (L fa : Addr) (cd : Value) (outer : List Env) (A₀ : Around) (base h₀ : Heap) (m : Str → Option Value) (s : Shared) (Q : Flow → Shared → Prop)
    (B : Below A₀ base outer h₀) (F : Fr h₀ L s.heap m) (X : (hd.heap_39 w.params).In h₀) (N : News h₀ L s.heap ((lh, listOf vh.toArray nh) :: news)) (T : Top hd.view_39 LO mean mg mb h₀)
    (hd : dp + 5 < recursionLimit) (hu : un + 40 < cLine) (hL : h₀.IsList l vs.toArray)
    (e0 : m (Str.ofString "e") = some (.int ee t0)) (e1 : m (Str.ofString "script") = some (.ref l)) (e2 : m (Str.ofString "m") = some (.int mm t1)) (e3 : m (Str.ofString "n") = some (.int nn t2)) (e4 : m (Str.ofString "word") = some (.str (txtOf wf) t3)) (e5 : m (Str.ofString "text") = some (.str (txtOf tf) t4)) (e6 : m (Str.ofString "held") = some (.ref lh)) (e7 : m (Str.ofString "out") = some (.ref lo))
    (hQ : ∀ (h : Heap) (tk : Nat) (u : Str → Option Value) (vh' : List Value) (nh' : Nat), Fr h₀ L h (fun y => if [Str.ofString "thread", Str.ofString "s", Str.ofString "due", Str.ofString "one"].contains y then u y else m y) → News h₀ L h ((lh, listOf vh'.toArray nh') :: news) → IntsAre vh' (heldOf ((outOf (marksOf wf) (marksOf tf)).take (4 * k))) → Q .next { s with heap := h, toks := tk }) :
    wpAny (model PR w) (ktrTop dp un gd (Str.ofString "law") lawDef.2 L fa cd [] outer) (execs eBody (envOf (Str.ofString "law") lawDef.2 L fa cd)) Q (fun _ _ => False) s := by
  have em := norm8 e0 e1 e2 e3 e4 e5 e6 e7
  refine e_turn1 wf tf hw ht mm nn hm hn hm3 hn4 l lh lo vs vh vo ns hs nh no news hlo hne hi hz hio hol hih ee k hk he hhs t0 t1 t2 t3 t4 dp un gd L fa cd outer A₀ base h₀ m s Q B ?_ X N T hd hu hL (fun h tk u vh' nh' F5 N5 I5 => hQ h tk u vh' nh' ?_ N5 I5)
  · rw [show (fun z => if z = Str.ofString "e" then some (Value.int ee t0) else if z = Str.ofString "script" then some (Value.ref l) else if z = Str.ofString "m" then some (Value.int mm t1) else if z = Str.ofString "n" then some (Value.int nn t2) else if z = Str.ofString "word" then some (Value.str (txtOf wf) t3) else if z = Str.ofString "text" then some (Value.str (txtOf tf) t4) else if z = Str.ofString "held" then some (Value.ref lh) else if z = Str.ofString "out" then some (Value.ref lo) else m z) = m from funext em]
    exact F
  · simp only [em] at F5
    exact F5
end
section
open PySem PySem.W PyProof.Rows
set_option maxRecDepth 100000
set_option maxHeartbeats 4000000
theorem law_tail1 {w mean mg mb} (wf tf : List Int) (hw : ∀ f ∈ wf, six f) (ht : ∀ g ∈ tf, six g) (mm nn : Int) (hm : mm = (wf.length : Int)) (hn : nn = (tf.length : Int)) (hm3 : wf.length ≤ 3) (hn4 : tf.length ≤ 4) (hn1 : 1 ≤ tf.length)
    (l lo : Addr) (vs vo : List Value) (ns : List Int) (no : Nat) (news : List (Addr × Obj)) (hlo : (lo, listOf vo.toArray no) ∈ news) (hi : IntsAre vs ns) (hz : ns.length ≤ 63) (hio : IntsAre vo (outOf (marksOf wf) (marksOf tf)))
    (t1 t2 t3 t4 : Tok)
    (dp un : Nat) (gd : Option (List Code)) (L fa : Addr) (cd : Value) (outer : List Env) (A₀ : Around) (base h₀ : Heap) (m : Str → Option Value) (s : Shared) (Q : Flow → Shared → Prop)
    (B : Below A₀ base outer h₀) (F : Fr h₀ L s.heap (fun z => if z = Str.ofString "script" then some (Value.ref l) else if z = Str.ofString "m" then some (Value.int mm t1) else if z = Str.ofString "n" then some (Value.int nn t2) else if z = Str.ofString "word" then some (Value.str (txtOf wf) t3) else if z = Str.ofString "text" then some (Value.str (txtOf tf) t4) else if z = Str.ofString "out" then some (Value.ref lo) else m z)) (X : (hd.heap_39 w.params).In h₀) (N : News h₀ L s.heap news) (T : Top hd.view_39 LO mean mg mb h₀)
    (hd : dp + 5 < recursionLimit) (hu : un + 100 < cLine) (hL : h₀.IsList l vs.toArray)
    (hQ : ∀ (h : Heap) (tk : Nat) (m' : Str → Option Value) (news' : List (Addr × Obj)), Fr h₀ L h m' → News h₀ L h news' → Q (.ret (.bool true)) { s with heap := h, toks := tk }) :
    wpAny (model PR w) (ktrTop dp un gd (Str.ofString "law") lawDef.2 L fa cd [] outer) (execs lawDef.1.tail.tail.tail.tail.tail.tail (envOf (Str.ofString "law") lawDef.2 L fa cd)) Q (fun _ _ => False) s := by
  have hol : (outOf (marksOf wf) (marksOf tf)).length ≤ 40 := by rw [out_len]; omega
  have ho2 : 2 ≤ (outOf (marksOf wf) (marksOf tf)).length := by rw [out_len]; omega
  have hnd := out_nodup (marksOf wf) (marksOf tf)
  have htk : (outOf (marksOf wf) (marksOf tf)).take (4 * (rangeKs 0 (mm + nn + 1).toNat).length - 4) = outOf (marksOf wf) (marksOf tf) := by
    rw [rangeKs_length]
    exact List.take_of_length_le (by rw [out_len]; omega)
  unfold lawDef PR
  dsimp only [PySem.Challenge.pw_pu0018_01, List.getElem?_cons_succ, List.getElem?_cons_zero, List.tail_cons]
  revert X
  w_top off
  k_with_none
  k_with "my pyIter ref" => (refine Hold.out ?_)
  k_with "my call builtin:sorted" => (refine Hold.out ?_)
  k_with "my k_mem" => assumption
  k_with "my k_mem" => (refine' List.mem_append.mpr (Or.inl ?_); k_mem)
  k_with "my k_mem" => (refine' List.mem_append.mpr (Or.inr ?_); k_mem)
  k_with "my news_mem" => k_mem
  k_fill
  intro X
  k_with_none
  k_with "my pyIter ref" => (refine Hold.out ?_)
  k_with "my call builtin:sorted" => (refine Hold.out ?_)
  k_with "my k_mem" => assumption
  k_with "my k_mem" => (refine' List.mem_append.mpr (Or.inl ?_); k_mem)
  k_with "my k_mem" => (refine' List.mem_append.mpr (Or.inr ?_); k_mem)
  k_with "my news_mem" => k_mem
  (try k_fold)
  k_steps
  unfold Hold
  rename IsRange _ _ _ _ _ _ _ _ => rgX
  rename Fr _ _ _ _ => lF
  rename News _ _ _ _ => lN
  rename ∀ p ∈ news, _ => hlt0
  rename_i lh q1 q2 q3 q4 q5 q6 q7 q8 q9 q10
  have hne0 : ∀ p ∈ news, p.1 ≠ lh := fun p hp => Nat.ne_of_lt (hlt0 p hp)
  with_unfolding_all refine' kst_range (σ := List Value × Nat) (fun c => (lh, listOf c.1.toArray c.2) :: news) (fun _ => []) (fun _ => True) [Str.ofString "thread", Str.ofString "s", Str.ofString "due", Str.ofString "one"] (fun pre c => IntsAre c.1 (heldOf ((outOf (marksOf wf) (marksOf tf)).take (4 * pre.length - 4)))) ([], 0) (by rfl) rgX (by exact small_one (by omega) (by omega) (by omega) (by omega)) (by exact rangeSize_nat _ _) lF lN trivial (fun p hp => nomatch hp) .nil ?_ ?_
  · clear lF lN hQ
    rintro ⟨vh, nh⟩ pre kN kT u h tk own hkN hlt hoff _ hP F1 N1
    dsimp only [kstB] at F1 hP N1
    have hne2 : ∀ p ∈ news ++ own, p.1 ≠ lh := by
      intro p hp
      rcases List.mem_append.mp hp with hp | hp
      · exact hne0 p hp
      · exact hoff.ne (List.Mem.head _) p hp
    refine e_turn wf tf hw ht mm nn hm hn hm3 hn4 l lh lo vs vh vo ns _ nh no (news ++ own) (List.mem_append_left _ hlo) hne2 hi hz hio hol hP kN pre.length (by omega) (by omega) rfl kT t1 t2 t3 t4 dp un gd L fa cd outer A₀ base h₀ _ _ _ B F1 X N1 T hd (by omega) hL rfl rfl rfl rfl rfl rfl rfl rfl (fun h3 tk3 u3 vh3 nh3 F3 N3 I3 => ?_)
    show InvEndN _ _ _ _ _ _ _
    refine kst_end (vh3, nh3) F3 N3 (fun p hp => ?_) (fun p hp => List.mem_cons_of_mem _ (List.mem_append_right _ hp)) rfl trivial (fun p hp => nomatch hp) (fun z h1 _ h2 => ?_) ?_
    · rcases List.mem_cons.mp hp with rfl | hp
      · exact List.mem_cons_self ..
      · exact List.mem_cons_of_mem _ (List.mem_append_left _ hp)
    · simp only [h2, if_neg h1, Bool.false_eq_true, if_false]
    · rw [List.length_append, List.length_singleton, show 4 * (pre.length + 1) - 4 = 4 * pre.length by omega]
      exact I3
  · rintro ⟨vh, nh⟩ u h tk _ hP F1 N1
    dsimp only [kstB] at F1 hP N1
    rw [show (mm + nn + 1 - 0) = mm + nn + 1 by omega, htk] at hP
    clear lF lN q3 q4 q10 rgX hlt0
    k_steps
    unfold Hold
    show wpAny _ _ (call (Value.builtin "sorted") [Value.ref lo] [(PySem.Str.ofString "key", Value.ref 79)]) _ _ _
    k_dflt (refine' srt_ct ((lh, listOf vh.toArray nh) :: news) lo vo (outOf (marksOf wf) (marksOf tf)) no ?hl hio (by omega) ho2 hnd _ _ _ _ _ _ _ _ _ _ _ _ _ _ _ _ _ ?k1 ?k2 ?k3 ?k4 ?k5 ?kK ?kd ?ku ?_; (case hl => exact List.mem_cons_of_mem _ hlo); (case k1 => k_asm); (case k2 => k_asm); (case k3 => k_asm); (case k4 => k_asm); (case k5 => k_asm); (case kK => first | exact rfl | assumption); (case kd => ktr_room); (case ku => ktr_units))
    intro D9 vs9 n9 h9 tk9 F9 N9 l9 I9
    (try k_lt l9)
    (try dsimp only)
    (try k_fold)
    refine ke_eq_ints (News.isList N9 (.tail _ (.head _))) (News.isList N9 (.head _)) hP I9 (by show un + 64 < cLine; omega) ?_
    rw [decide_eq_true rfl]
    exact hQ _ _ _ _ F9 N9
theorem norm6 {m : Str → Option Value} {a b c d e f : Str} {va vb vc vd ve vf : Value} (ha : m a = some va) (hb : m b = some vb) (hc : m c = some vc) (hd : m d = some vd) (he : m e = some ve) (hf : m f = some vf) (z : Str) :
    (if z = a then some va else if z = b then some vb else if z = c then some vc else if z = d then some vd else if z = e then some ve else if z = f then some vf else m z) = m z := by
  (repeat' split) <;> (subst_vars; simp_all)
theorem law_tail {w mean mg mb} (wf tf : List Int) (hw : ∀ f ∈ wf, six f) (ht : ∀ g ∈ tf, six g) (mm nn : Int) (hm : mm = (wf.length : Int)) (hn : nn = (tf.length : Int)) (hm3 : wf.length ≤ 3) (hn4 : tf.length ≤ 4) (hn1 : 1 ≤ tf.length)
    (l lo : Addr) (vs vo : List Value) (ns : List Int) (no : Nat) (news : List (Addr × Obj)) (hlo : (lo, listOf vo.toArray no) ∈ news) (hi : IntsAre vs ns) (hz : ns.length ≤ 63) (hio : IntsAre vo (outOf (marksOf wf) (marksOf tf)))
    (t1 t2 t3 t4 : Tok)
    (dp un : Nat) (gd : Option (List Code)) (L fa : Addr) (cd : Value) (outer : List Env) (A₀ : Around) (base h₀ : Heap) (m : Str → Option Value) (s : Shared) (Q : Flow → Shared → Prop)
    (B : Below A₀ base outer h₀) (F : Fr h₀ L s.heap m) (X : (hd.heap_39 w.params).In h₀) (N : News h₀ L s.heap news) (T : Top hd.view_39 LO mean mg mb h₀)
    (hd : dp + 5 < recursionLimit) (hu : un + 100 < cLine) (hL : h₀.IsList l vs.toArray)
    (e1 : m (Str.ofString "script") = some (.ref l)) (e2 : m (Str.ofString "m") = some (.int mm t1)) (e3 : m (Str.ofString "n") = some (.int nn t2)) (e4 : m (Str.ofString "word") = some (.str (txtOf wf) t3)) (e5 : m (Str.ofString "text") = some (.str (txtOf tf) t4)) (e6 : m (Str.ofString "out") = some (.ref lo))
    (hQ : ∀ (h : Heap) (tk : Nat) (m' : Str → Option Value) (news' : List (Addr × Obj)), Fr h₀ L h m' → News h₀ L h news' → Q (.ret (.bool true)) { s with heap := h, toks := tk }) :
    wpAny (model PR w) (ktrTop dp un gd (Str.ofString "law") lawDef.2 L fa cd [] outer) (execs lawDef.1.tail.tail.tail.tail.tail.tail (envOf (Str.ofString "law") lawDef.2 L fa cd)) Q (fun _ _ => False) s := by
  have em := norm6 e1 e2 e3 e4 e5 e6
  refine law_tail1 wf tf hw ht mm nn hm hn hm3 hn4 hn1 l lo vs vo ns no news hlo hi hz hio t1 t2 t3 t4 dp un gd L fa cd outer A₀ base h₀ m s Q B ?_ X N T hd hu hL hQ
  rw [show (fun z => if z = Str.ofString "script" then some (Value.ref l) else if z = Str.ofString "m" then some (Value.int mm t1) else if z = Str.ofString "n" then some (Value.int nn t2) else if z = Str.ofString "word" then some (Value.str (txtOf wf) t3) else if z = Str.ofString "text" then some (Value.str (txtOf tf) t4) else if z = Str.ofString "out" then some (Value.ref lo) else m z) = m from funext em]
  exact F
end
section
open PySem PySem.W PyProof.Rows
set_option maxRecDepth 100000
set_option maxHeartbeats 4000000
theorem mid_hr1 {fs : List Int} {a : Nat} (h : ∀ f ∈ fs, 0 ≤ f ∧ f < 6) : ∀ f ∈ fs.take a, 0 ≤ f ∧ f < 6 := fun f hf => h f (List.mem_of_mem_take hf)
theorem mid_hr2 {fs : List Int} {a b : Nat} (h : ∀ f ∈ fs, 0 ≤ f ∧ f < 6) : ∀ f ∈ (fs.drop a).take b, 0 ≤ f ∧ f < 6 := fun f hf => h f (List.mem_of_mem_drop (List.mem_of_mem_take hf))
theorem mid_len {mm nn : Int} {fs : List Int} (hm2 : 2 ≤ mm) (hm3 : mm ≤ 3) (hn3 : 3 ≤ nn) (hn4 : nn ≤ 4) (hf7 : fs.length = 7) :
    mm = ((List.take mm.toNat fs).length : Int) ∧ nn = ((List.take (min (mm + nn).toNat fs.length - mm.toNat) (List.drop mm.toNat fs)).length : Int) := by
  have h1 : min (mm + nn).toNat 7 = (mm + nn).toNat := Nat.min_eq_left (by omega)
  rw [List.length_take, List.length_take, List.length_drop, hf7, h1, Nat.min_eq_left (by omega), Nat.min_eq_left (by omega)]
  omega
theorem mid_le {a : Int} {x : Nat} (h : a = (x : Int)) {c d : Nat} (h1 : (c : Int) ≤ a) (h2 : a ≤ (d : Int)) : c ≤ x ∧ x ≤ d := by omega
theorem law_mid1 {w mean mg mb} (mm nn : Int) (hm2 : 2 ≤ mm) (hm3 : mm ≤ 3) (hn3 : 3 ≤ nn) (hn4 : nn ≤ 4) (fs : List Int) (hf7 : fs.length = 7) (hf6 : ∀ f ∈ fs, 0 ≤ f ∧ f < 6)
    (l lf : Addr) (vs vf : List Value) (ns : List Int) (nf : Nat) (hi : IntsAre vs ns) (hz : ns.length ≤ 63) (hif : IntsAre vf fs)
    (t1 t2 : Tok)
    (dp un : Nat) (gd : Option (List Code)) (L fa : Addr) (cd : Value) (outer : List Env) (A₀ : Around) (base h₀ : Heap) (m : Str → Option Value) (s : Shared) (Q : Flow → Shared → Prop)
    (B : Below A₀ base outer h₀) (F : Fr h₀ L s.heap (fun z => if z = Str.ofString "n" then some (Value.int nn t2) else if z = Str.ofString "m" then some (Value.int mm t1) else if z = Str.ofString "figures" then some (Value.ref lf) else if z = Str.ofString "script" then some (Value.ref l) else m z)) (X : (hd.heap_39 w.params).In h₀) (N : News h₀ L s.heap [(lf, listOf vf.toArray nf)]) (T : Top hd.view_39 LO mean mg mb h₀)
    (hd : dp + 5 < recursionLimit) (hu : un + 100 < cLine) (hL : h₀.IsList l vs.toArray)
    (hQ : ∀ (h : Heap) (tk : Nat) (m' : Str → Option Value) (news' : List (Addr × Obj)), Fr h₀ L h m' → News h₀ L h news' → Q (.ret (.bool true)) { s with heap := h, toks := tk }) :
    wpAny (model PR w) (ktrTop dp un gd (Str.ofString "law") lawDef.2 L fa cd [] outer) (execs lawDef.1.tail.tail.tail (envOf (Str.ofString "law") lawDef.2 L fa cd)) Q (fun _ _ => False) s := by
  unfold lawDef PR
  dsimp only [PySem.Challenge.pw_pu0018_01, List.getElem?_cons_succ, List.getElem?_cons_zero, List.tail_cons]
  revert X
  w_top off
  k_with_none
  k_with "my call ref" => (refine Hold.out ?_)
  k_with "my k_mem" => assumption
  k_with "my k_mem" => (refine' List.mem_append.mpr (Or.inl ?_); k_mem)
  k_with "my k_mem" => (refine' List.mem_append.mpr (Or.inr ?_); k_mem)
  k_with "my news_mem" => k_mem
  k_with "my execs cons" => ((with_reducible show wpAny _ _ (execs (PySem.Stmt.Assign [PySem.Expr.Name (PySem.Str.ofString "held") _] _ _ :: _) _) _ _ _); refine Hold.out ?_)
  k_with "my call ref" => ((with_reducible show wpAny _ _ (call (Value.ref 58) [Value.ref _]) _ _ _); k_dflt (refine' txt_ct _ _ _ _ _ ?hl ?hi ?hz ?hr _ _ _ _ _ _ _ _ _ _ _ _ _ _ _ _ _ ?k1 ?k2 ?k3 ?k4 ?k5 ?kK ?kd ?ku ?_; (case k1 => k_asm); (case k2 => k_asm); (case k3 => k_asm); (case k4 => k_asm); (case k5 => k_asm); (case hl => first | exact List.mem_cons_self .. | k_mem); (case hi => assumption); (case hz => omega); (case hr => first | exact mid_hr1 (by assumption) | exact mid_hr2 (by assumption)); (case kK => first | exact rfl | assumption); (case kd => ktr_room); (case ku => ktr_units)); intro r9 h9 tk9 F9 N9 hp9; obtain ⟨t9, e8⟩ := hp9; subst e8; (try dsimp only); (try k_fold))
  k_fill
  intro X
  k_with_none
  k_with "my call ref" => (refine Hold.out ?_)
  k_with "my k_mem" => assumption
  k_with "my k_mem" => (refine' List.mem_append.mpr (Or.inl ?_); k_mem)
  k_with "my k_mem" => (refine' List.mem_append.mpr (Or.inr ?_); k_mem)
  k_with "my news_mem" => k_mem
  k_with "my execs cons" => ((with_reducible show wpAny _ _ (execs (PySem.Stmt.Assign [PySem.Expr.Name (PySem.Str.ofString "held") _] _ _ :: _) _) _ _ _); refine Hold.out ?_)
  k_with "my call ref" => ((with_reducible show wpAny _ _ (call (Value.ref 58) [Value.ref _]) _ _ _); k_dflt (refine' txt_ct _ _ _ _ _ ?hl ?hi ?hz ?hr _ _ _ _ _ _ _ _ _ _ _ _ _ _ _ _ _ ?k1 ?k2 ?k3 ?k4 ?k5 ?kK ?kd ?ku ?_; (case k1 => k_asm); (case k2 => k_asm); (case k3 => k_asm); (case k4 => k_asm); (case k5 => k_asm); (case hl => first | exact List.mem_cons_self .. | k_mem); (case hi => assumption); (case hz => omega); (case hr => first | exact mid_hr1 (by assumption) | exact mid_hr2 (by assumption)); (case kK => first | exact rfl | assumption); (case kd => ktr_room); (case ku => ktr_units)); intro r9 h9 tk9 F9 N9 hp9; obtain ⟨t9, e8⟩ := hp9; subst e8; (try dsimp only); (try k_fold))
  (try k_fold)
  k_steps
  unfold Hold
  rename_i D1 ws1 h1 hI1 hC1 hL1 l11 D0 ws0 h0 F0 N0 hI0 hC0 hL0 l10
  k_dflt (refine' out_ct _ D1 D0 ws1 ws0 (List.take mm.toNat fs) (List.take (min (mm + nn).toNat fs.length - mm.toNat) (List.drop mm.toNat fs)) 0 0 ?hl ?hl2 hI1 hI0 ?hz ?hz2 ?hr ?hr2 _ _ _ _ _ _ _ _ _ _ _ _ _ _ _ _ _ ?k1 ?k2 ?k3 ?k4 ?k5 ?kK ?kd ?ku ?_; (case k1 => k_asm); (case k2 => k_asm); (case k3 => k_asm); (case k4 => k_asm); (case k5 => k_asm); (case hl => exact .tail _ (.head _)); (case hl2 => exact .head _); (case hz => omega); (case hz2 => omega); (case hr => exact mid_hr1 hf6); (case hr2 => exact mid_hr2 hf6); (case kK => first | exact rfl | assumption); (case kd => ktr_room); (case ku => ktr_units))
  intro r9 n9 h9 tk9 F9 N9 hp9
  obtain ⟨lo, vo, no, e9, e8, hlt9, hI9⟩ := hp9
  subst e9
  subst e8
  (try k_lt hlt9)
  (try dsimp only)
  (try k_fold)
  k_steps
  unfold Hold
  obtain ⟨q1, q2⟩ := mid_len hm2 hm3 hn3 hn4 hf7
  have q3 : _ ∧ _ ≤ 3 := mid_le (c := 2) q1 hm2 hm3
  have q4 : 1 ≤ _ ∧ _ ≤ 4 := mid_le q2 (Int.le_trans (by decide) hn3) hn4
  refine law_tail (List.take mm.toNat fs) (List.take (min (mm + nn).toNat fs.length - mm.toNat) (List.drop mm.toNat fs)) (mid_hr1 hf6) (mid_hr2 hf6) mm nn q1 q2 q3.2 q4.2 q4.1 l lo vs vo ns no _ (List.Mem.head _) hi hz hI9 t1 t2 _ _ dp un gd L fa cd outer A₀ base h₀ _ _ Q B (by k_asm) X (by k_asm) T hd hu hL rfl rfl rfl rfl rfl rfl hQ
end
section
open PySem PySem.W PyProof.Rows
set_option maxRecDepth 100000
set_option maxHeartbeats 4000000
theorem law_all {w mean mg mb} (l : Addr) (vs : List Value) (ns : List Int) (hi : IntsAre vs ns) (hz : ns.length ≤ 63)
    (dp un : Nat) (gd : Option (List Code)) (L fa : Addr) (cd : Value) (outer : List Env) (A₀ : Around) (base h₀ : Heap) (s : Shared) (Q : Flow → Shared → Prop)
    (B : Below A₀ base outer h₀) (F : Fr h₀ L s.heap fun z => if z = Str.ofString "script" then some (Value.ref l) else none) (X : (hd.heap_39 w.params).In h₀) (N : News h₀ L s.heap []) (T : Top hd.view_39 LO mean mg mb h₀)
    (hd : dp + 5 < recursionLimit) (hu : un + 100 < cLine) (hL : h₀.IsList l vs.toArray) (hbL : base.IsList l vs.toArray)
    (hQ : ∀ (h : Heap) (tk : Nat) (m' : Str → Option Value) (news' : List (Addr × Obj)), Fr h₀ L h m' → News h₀ L h news' → Q (.ret (.bool true)) { s with heap := h, toks := tk }) :
    wpAny (model PR w) (ktrTop dp un gd (Str.ofString "law") lawDef.2 L fa cd [] outer) (execs lawDef.1 (envOf (Str.ofString "law") lawDef.2 L fa cd)) Q (fun _ _ => False) s := by
  unfold lawDef PR
  dsimp only [PySem.Challenge.pw_pu0018_01, List.getElem?_cons_succ, List.getElem?_cons_zero]
  revert X
  w_top off
  k_with_none
  k_with "my call ref" => (refine Hold.out ?_)
  k_with "my execs cons" => ((with_reducible show wpAny _ _ (execs (PySem.Stmt.Assign [PySem.Expr.Name (PySem.Str.ofString "word") _] _ _ :: _) _) _ _ _); refine Hold.out ?_)
  k_with "my k_mem" => assumption
  k_with "my k_mem" => (refine' List.mem_append.mpr (Or.inl ?_); k_mem)
  k_with "my k_mem" => (refine' List.mem_append.mpr (Or.inr ?_); k_mem)
  k_with "my news_mem" => k_mem
  k_fill
  intro X
  k_with_none
  k_with "my call ref" => (refine Hold.out ?_)
  k_with "my execs cons" => ((with_reducible show wpAny _ _ (execs (PySem.Stmt.Assign [PySem.Expr.Name (PySem.Str.ofString "word") _] _ _ :: _) _) _ _ _); refine Hold.out ?_)
  k_with "my k_mem" => assumption
  k_with "my k_mem" => (refine' List.mem_append.mpr (Or.inl ?_); k_mem)
  k_with "my k_mem" => (refine' List.mem_append.mpr (Or.inr ?_); k_mem)
  k_with "my news_mem" => k_mem
  (try k_fold)
  k_steps
  unfold Hold
  k_dflt (refine' fig_ct [] l vs ns hi hz _ _ _ _ _ _ _ _ _ _ _ _ _ _ _ _ _ hbL ?k1 ?k2 ?k3 ?k4 ?k5 ?kK ?kd ?ku ?_; (case k1 => k_asm); (case k2 => k_asm); (case k3 => k_asm); (case k4 => k_asm); (case k5 => k_asm); (case kK => first | exact rfl | assumption); (case kd => ktr_room); (case ku => ktr_units))
  intro lf vf fs nf h1 tk1 F1 N1 lt1 hf hf7 hf6
  (try dsimp only)
  (try k_fold)
  k_steps
  unfold Hold
  rename Fr _ _ _ _ => lF
  rename News _ _ _ _ => lN
  have hmm := Int.emod_two_eq (((ns.length : Int)) / 2)
  have hnn := Int.emod_two_eq (((ns.length : Int)) / 4)
  refine law_mid1 _ _ ?_ ?_ ?_ ?_ fs hf7 hf6 l lf vs vf ns nf hi hz hf _ _ dp un gd L fa cd outer A₀ base h₀ (fun _ => none) _ Q B lF X lN T hd hu hL hQ
  all_goals (rw [Int.fmod_eq_emod_of_nonneg _ (by decide), Int.fdiv_eq_ediv_of_nonneg _ (by decide)]; omega)
end
end Mine
open PySem PySem.W PyProof.Rows
set_option maxRecDepth 100000 in
set_option maxHeartbeats 4000000 in
theorem PySem.Challenge.cw_pu0018_01_holds : PySem.Challenge.rw_pu0018_01.Holds :=
  Mine.hd (by
  k_with_none
  k_go0
  (all_goals try k_fold)
  rename IntsAre _ _ => hI
  rename Below _ _ _ _ => K0
  rename Top _ _ _ _ _ _ => T0
  rename Heap.IsList _ _ _ => hL
  rename Frag.In _ _ => KX
  rename Fr _ _ _ _ => F
  rename News _ _ _ _ => N0
  rename ¬ _ < _ => hc
  have hz : _ ≤ 63 := Nat.le_of_not_lt fun q => hc (Int.ofNat_lt.mpr q)
  have F2 := F
  simp only [List.reverse_cons, List.reverse_nil, List.nil_append, Mine.lookup1] at F2
  refine wpAny_mono (Mine.law_all _ _ _ hI hz _ _ _ _ _ _ _ _ _ _ _ _ K0 F2 KX N0 T0 ?_ ?_ hL hL ?_) (fun _ _ q => q) (fun _ _ e => e.elim)
  · decide
  · decide
  · intro h9 tk9 m9 n9 F9 N9
    (try dsimp only)
    k_with_none
    k_steps
    all_goals w_report)

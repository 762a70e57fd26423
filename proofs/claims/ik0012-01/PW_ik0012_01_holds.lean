import PyProof.Rows.All
import PyProof.DictItems
import Wide.All
import OpenK.AllK
import Wide.FinOn
import PySem.Challenge.RW_ik0012_01
open PySem PySem.W PyProof.Rows
set_option Elab.async false
namespace Mine
set_option maxRecDepth 100000 in
set_option maxHeartbeats 8000000 in
open_top hd for PySem.Challenge.rw_ik0012_01
end Mine
namespace Mine
section
variable {prog : Program} {w : World} {A : Around} {E : Value → Shared → Prop} {s : Shared} {x y : Str} {t u : Tok} {Q : Value → Shared → Prop}

theorem addS (hsz : x.length + y.length ≤ 16777216) (h : ∀ (r : Str) (t' : Tok) (tk : Nat), r = x ++ y → r.length = x.length + y.length → Q (.str r t') { s with toks := tk }) :
    wpAny (model prog w) A (binaryOp .Add (.str x t) (.str y u)) Q E s :=
  add_str (fun t' tk => h _ t' tk rfl (Str.length_append _ _)) (by rw [sizeLine_eq]; exact hsz)
theorem iaddS (hsz : x.length + y.length ≤ 16777216) (h : ∀ (r : Str) (t' : Tok) (tk : Nat), r = x ++ y → r.length = x.length + y.length → Q (.str r t') { s with toks := tk }) :
    wpAny (model prog w) A (inplaceOp .Add (.str x t) (.str y u)) Q E s :=
  iadd_str (fun t' tk => h _ t' tk rfl (Str.length_append _ _)) (by rw [sizeLine_eq]; exact hsz)
theorem mulS {i : Int} (hx : x.length = 1) (hlo : -1000000 ≤ i) (hhi : i ≤ 1000000) (h : ∀ (r : Str) (t' : Tok) (tk : Nat), r = Txt.mul x i → r.length = i.toNat → Q (.str r t') { s with toks := tk }) :
    wpAny (model prog w) A (binaryOp .Mult (.str x t) (.int i u)) Q E s := by
  refine SB.mul (mulOk_of 16 1048576 (by omega) (by omega) (by omega) (by decide) (by decide)) fun t' tk => h _ t' tk rfl ?_
  have e := len_mul x i
  rw [hx] at e
  by_cases h0 : i < 0
  · rw [if_pos (decide_eq_true h0)] at e
    omega
  · rw [if_neg (by simpa using h0)] at e
    omega
theorem itemS {value slice : PySem.Expr} {i : Int} (h0 : 0 ≤ i) (h1 : i < (x.length : Int)) (hn : x.length ≤ 16777216)
    (h : ∀ (r : Str) (t' : Tok) (tk : Nat), r = Txt.item x i → r.length = 1 → t' = s.toks → tk = s.toks + 1 → Q (.str r t') { s with toks := tk })
    (hs : subscripted slice false (.str x t) (.int i u) = operate [.str x t, .int i u] (getItem (.str x t) (.int i u)))
    (ht : ∀ r, letTemporaryGo value (.str x t) r = pure ()) :
    wpAny (model prog w) A (subscriptTail value slice (.str x t) (.int i u)) Q E s :=
  KXi.item rfl (by omega) h1 hn (fun _ => h _ _ _ rfl rfl rfl rfl) hs ht
theorem mod16 {a : Int} (h : ∀ (r : Int) (t' : Tok) (tk : Nat), r = a.fmod 16 → 0 ≤ r → r < 16 → Q (.int r t') { s with toks := tk }) :
    wpAny (model prog w) A (binaryOp .Mod (.int a t) (.int 16 u)) Q E s :=
  mod_int' (by decide) (h _ _ _ rfl (Int.fmod_nonneg_of_pos a (by decide)) (Int.fmod_lt_of_pos a (by decide)))
end
theorem len1_plus : (Str.ofString "+").length = 1 := by decide
theorem len1_A : (Str.ofString "A").length = 1 := by decide
theorem len1_B : (Str.ofString "B").length = 1 := by decide
theorem len1_dot : (Str.ofString ".").length = 1 := by decide
theorem len16 : (Str.ofString "ABCDEFGHIJKLMNOP").length = 16 := by decide
end Mine
namespace Mine
def carryF (n m c r : Int) : Int :=
  if 16 ^ (if r < c then r else c).toNat ≤ (n.fdiv (16 ^ (c - if r < c then r else c).toNat)).fmod (16 ^ (if r < c then r else c).toNat) + (m.fdiv (16 ^ (c - if r < c then r else c).toNat)).fmod (16 ^ (if r < c then r else c).toNat) then 1 else 0

theorem p16_ne (e : Nat) : (16 : Int) ^ e ≠ 0 := by
  have : 0 < (16 : Int) ^ e := Int.pow_pos (by decide)
  omega
theorem p16_log {e : Nat} (h : e ≤ 12) : ((16 : Int) ^ e).natAbs.log2 < 9000 := by
  have : e = 0 ∨ e = 1 ∨ e = 2 ∨ e = 3 ∨ e = 4 ∨ e = 5 ∨ e = 6 ∨ e = 7 ∨ e = 8 ∨ e = 9 ∨ e = 10 ∨ e = 11 ∨ e = 12 := by omega
  rcases this with rfl|rfl|rfl|rfl|rfl|rfl|rfl|rfl|rfl|rfl|rfl|rfl|rfl <;> decide +kernel

abbrev Clm (prog : Program) (w : World) (K : Frag) (p : Program) (loose : List Str) (mean : ExcName → Option Value) (mg mb : Str → Option Value) (f : Addr) (news : List (Addr × Obj)) (rm ru : Nat) (pre : Prop) (vs : List Value) (R : Tok → Value) : Prop :=
  ∀ (dp un : Nat) (gd : Option (List Code)) (cn : Str) (cs : Scope) (a : Addr) (ccd : Value) (cl : List (Str × Addr)) (outer : List Env) (A₀ : Around) (base h₀ : Heap) (L : Addr) (m : Str → Option Value) (s : Shared) (Q E : Value → Shared → Prop),
    Below A₀ base outer h₀ → Fr h₀ L s.heap m → K.In h₀ → News h₀ L s.heap news → Top p loose mean mg mb h₀ → cs.kind = .function →
    pre → dp + rm < recursionLimit → un + ru < cLine → CbRet h₀ L m news s Q R →
      wpAny (model prog w) (ktrTop dp un gd cn cs L a ccd cl outer) (call (.ref f) vs) Q E s

theorem cbUse {prog : Program} {w : World} {K : Frag} {p : Program} {loose : List Str} {mean : ExcName → Option Value} {mg mb : Str → Option Value} {f : Addr} {news : List (Addr × Obj)} {rm ru : Nat} {pre : Prop} {vs : List Value} {R : Tok → Value}
    (h : Clm prog w K p loose mean mg mb f news rm ru pre vs R)
    {dp un : Nat} {gd : Option (List Code)} {cn : Str} {cs : Scope} {a : Addr} {ccd : Value} {cl : List (Str × Addr)} {outer : List Env} {A₀ : Around} {base h₀ : Heap} {L : Addr} {m : Str → Option Value} {s : Shared} {Q E : Value → Shared → Prop}
    (k1 : Below A₀ base outer h₀) (k2 : Fr h₀ L s.heap m) (k3 : K.In h₀) (k4 : News h₀ L s.heap news) (k5 : Top p loose mean mg mb h₀) (kK : cs.kind = .function)
    (kp : pre) (kd : dp + rm < recursionLimit) (ku : un + ru < cLine)
    (kR : ∀ (t : Tok) (h' : Heap) (tk' : Nat), s.toks ≤ tk' → Fr h₀ L h' m → News h₀ L h' news → Q (R t) { s with heap := h', toks := tk' }) :
    wpAny (model prog w) (ktrTop dp un gd cn cs L a ccd cl outer) (call (.ref f) vs) Q E s := by
  have h1 := h dp un gd cn cs a ccd cl outer A₀ base h₀ L m s (fun v s' => ∃ t h' tk', v = R t ∧ s' = { s with heap := h', toks := tk' } ∧ Fr h₀ L h' m ∧ News h₀ L h' news) E k1 k2 k3 k4 k5 kK kp kd ku
    (fun t h' tk' F N => ⟨t, h', tk', rfl, rfl, F, N⟩)
  refine wpAny_mono (wpAny_toks_of (Nat.le_refl _) h1) ?_ (fun _ _ x => x.2)
  rintro v s' ⟨hn, t, h', tk', rfl, rfl, F, N⟩
  exact kR t h' tk' hn F N

local macro_rules | `(tactic| walk_at "binaryOp FloorDiv int int") => `(tactic| (k_here; (with_reducible refine floordiv_int (p16_ne _) ?_ (Or.inl (PyProof.noPylong_of_log2 (p16_log ?hlog)))); (case hlog => omega)))
local macro_rules | `(tactic| walk_at "binaryOp Mod int int") => `(tactic| (k_here; (with_reducible refine mod_int' (p16_ne _) ?_)))

set_option maxRecDepth 100000 in
set_option maxHeartbeats 8000000 in
theorem carry_ok (w : World) (loose : List Str) (mean : ExcName → Option Value) (mg mb : Str → Option Value) (news : List (Addr × Obj)) (n m c r : Int) (t1 t2 t3 t4 : Tok) :
    Clm PySem.Challenge.rw_ik0012_01.row.prog w (hd.heap_39 w.params) hd.view_39 loose mean mg mb 49 news 1 8 (0 ≤ c ∧ c ≤ 8 ∧ 0 ≤ r ∧ r ≤ 9) [.int n t1, .int m t2, .int c t3, .int r t4] (fun t => .int (carryF n m c r) t) := by
  k_fill
  dsimp only [Clm, CbRet]
  intros
  rename_i hret
  refine wpAny_call ?_
  k_dflt cell_enter
  k_steps
  all_goals (refine cb_retI hret ?e1 ?e2 ?e3; (case e2 => k_asm); (case e3 => k_asm); (case e1 => first | exact (if_pos (by assumption)).symm | exact (if_neg (by assumption)).symm))
end Mine
namespace Mine
theorem carry_bd (n m c r : Int) : 0 ≤ carryF n m c r ∧ carryF n m c r ≤ 1 := by
  unfold carryF
  generalize (if r < c then r else c) = k
  split <;> omega

theorem carryUse {w : World} {loose : List Str} {mean : ExcName → Option Value} {mg mb : Str → Option Value} {news : List (Addr × Obj)} {n m c r : Int} {t1 t2 t3 t4 : Tok}
    {dp un : Nat} {gd : Option (List Code)} {cn : Str} {cs : Scope} {a : Addr} {ccd : Value} {cl : List (Str × Addr)} {outer : List Env} {A₀ : Around} {base h₀ : Heap} {L : Addr} {mm : Str → Option Value} {s : Shared} {Q E : Value → Shared → Prop}
    (k1 : Below A₀ base outer h₀) (k2 : Fr h₀ L s.heap mm) (k3 : (hd.heap_39 w.params).In h₀) (k4 : News h₀ L s.heap news) (k5 : Top hd.view_39 loose mean mg mb h₀) (kK : cs.kind = .function)
    (kp : 0 ≤ c ∧ c ≤ 8 ∧ 0 ≤ r ∧ r ≤ 9) (kd : dp + 1 < recursionLimit) (ku : un + 8 < cLine)
    (kR : ∀ (x : Int) (t : Tok) (h' : Heap) (tk' : Nat), x = carryF n m c r → 0 ≤ x → x ≤ 1 → Fr h₀ L h' mm → News h₀ L h' news → Q (.int x t) { s with heap := h', toks := tk' }) :
    wpAny (model PySem.Challenge.rw_ik0012_01.row.prog w) (ktrTop dp un gd cn cs L a ccd cl outer) (call (.ref 49) [.int n t1, .int m t2, .int c t3, .int r t4]) Q E s :=
  cbUse (carry_ok w loose mean mg mb news n m c r t1 t2 t3 t4) k1 k2 k3 k4 k5 kK kp kd ku fun t h' tk' _ F N => kR _ t h' tk' rfl (carry_bd n m c r).1 (carry_bd n m c r).2 F N

local macro_rules | `(tactic| walk_at "eval Call") => `(tactic| (k_here; k_dflt (refine Call_ ?_)))
local macro_rules | `(tactic| walk_at "call ref") => `(tactic| (k_here; k_dflt (refine' carryUse ?k1 ?k2 ?k3 ?k4 ?k5 ?kK ?kp ?kd ?ku ?_; (case k1 => k_asm); (case k2 => k_asm); (case k3 => k_asm); (case k4 => k_asm); (case k5 => k_asm); (case kK => first | exact rfl | assumption); (case kp => (refine ⟨?_, ?_, ?_, ?_⟩ <;> omega)); (case kd => ktr_room); (case ku => ktr_units)); intro x9 t9 h9 tk9 hx9 hlo9 hhi9 F9 N9; (try dsimp only)))
local macro_rules | `(tactic| walk_at "binaryOp FloorDiv int int") => `(tactic| (k_here; (with_reducible refine floordiv_int (p16_ne _) ?_ (Or.inl (PyProof.noPylong_of_log2 (p16_log ?hlog)))); (case hlog => omega)))
local macro_rules | `(tactic| walk_at "binaryOp Mod int int") => `(tactic| (k_here; k_dflt (refine mod16 ?_); intro r9 t9 tk9 hr9 hr0 hr16; (try dsimp only)))
local macro_rules | `(tactic| walk_at "binaryOp Mult str int") => `(tactic| (k_here; k_dflt (refine' mulS ?k1 ?k2 ?k3 ?_; (case k1 => decide); (case k2 => omega); (case k3 => omega)); intro r9 t9 tk9 hr9 hl9; (try dsimp only)))
local macro_rules | `(tactic| walk_at "binaryOp Add str str") => `(tactic| (k_here; k_dflt (refine' addS ?k1 ?_; (case k1 => ((try simp only [len1_plus, len1_A, len1_B, len1_dot]); omega))); intro r9 t9 tk9 hr9 hl9; (try simp only [len1_plus, len1_A, len1_B, len1_dot] at hl9); (try dsimp only)))
local macro_rules | `(tactic| walk_at "inplaceOp Add str str") => `(tactic| (k_here; k_dflt (refine' iaddS ?k1 ?_; (case k1 => ((try simp only [len1_plus, len1_A, len1_B, len1_dot]); omega))); intro r9 t9 tk9 hr9 hl9; (try simp only [len1_plus, len1_A, len1_B, len1_dot] at hl9); (try dsimp only)))
local macro_rules | `(tactic| walk_at "subscriptTail") => `(tactic| (k_here; (with_reducible show wpAny _ _ (subscriptTail _ _ (Value.str _ _) (Value.int _ _)) _ _ _); k_dflt (refine' itemS ?k1 ?k2 ?k3 ?_ ?k4 ?k5; (case k1 => omega); (case k2 => ((try simp only [len16]); omega)); (case k3 => decide); (case k4 => with_unfolding_all rfl); (case k5 => (intro _; with_unfolding_all rfl))); intro r9 t9 tk9 hr9 hl9 _ _; (try dsimp only)))

def pieceF (n m j k : Int) : Str :=
  if j = 1 ∧ 15 < (n.fdiv (16 ^ k.toNat)).fmod 16 + (m.fdiv (16 ^ k.toNat)).fmod 16 then
    Str.ofString "A" ++ Txt.mul (Str.ofString "+") ((n.fdiv (16 ^ k.toNat)).fmod 16 + (m.fdiv (16 ^ k.toNat)).fmod 16 - 16 + (carryF n m k j - carryF n m k (j - 1)))
  else
    Txt.item (Str.ofString "ABCDEFGHIJKLMNOP") (((n.fdiv (16 ^ k.toNat)).fmod 16 + (m.fdiv (16 ^ k.toNat)).fmod 16 + carryF n m k (j - 1)).fmod 16) ++ Txt.mul (Str.ofString "+") (carryF n m k j - carryF n m k (j - 1))
def dueRow (n m z j : Int) (pre : List Int) : Str := pre.foldl (fun row k => row ++ pieceF n m j k) (Str.ofString "." ++ Txt.mul (Str.ofString "B") (carryF n m z j))
def dueF (n m z j : Int) : Str := dueRow n m z j (downKs (z - 1) z.toNat)

theorem due_start {n m z j x : Int} {p r : Str} (hr : r = Str.ofString "." ++ p) (hp : p = Txt.mul (Str.ofString "B") x) (hx : x = carryF n m z j) : r = dueRow n m z j [] := by
  subst hr hp hx; rfl
theorem due_next {n m z j k : Int} {pre : List Int} : dueRow n m z j (pre ++ [k]) = dueRow n m z j pre ++ pieceF n m j k := by
  unfold dueRow; rw [List.foldl_append]; rfl
theorem due_A {n m z j k a b x y : Int} {pre : List Int} {r f q p : Str} (hr : r = f ++ q) (hf : f = dueRow n m z j pre) (hq : q = Str.ofString "A" ++ p) (hp : p = Txt.mul (Str.ofString "+") (a + b - 16 + (x - y)))
    (ha : a = (n.fdiv (16 ^ k.toNat)).fmod 16) (hb : b = (m.fdiv (16 ^ k.toNat)).fmod 16) (hx : x = carryF n m k j) (hy : y = carryF n m k (j - 1)) (hj : j = 1) (hl : 15 < a + b) : r = dueRow n m z j (pre ++ [k]) := by
  rw [due_next, hr, hf, hq, hp]
  unfold pieceF
  subst ha hb hx hy
  rw [if_pos ⟨hj, hl⟩]
theorem due_B {n m z j k a b x y e : Int} {pre : List Int} {r f q p i : Str} (hr : r = f ++ q) (hf : f = dueRow n m z j pre) (hq : q = i ++ p) (hi : i = Txt.item (Str.ofString "ABCDEFGHIJKLMNOP") e) (he : e = (a + b + y).fmod 16) (hp : p = Txt.mul (Str.ofString "+") (x - y))
    (ha : a = (n.fdiv (16 ^ k.toNat)).fmod 16) (hb : b = (m.fdiv (16 ^ k.toNat)).fmod 16) (hx : x = carryF n m k j) (hy : y = carryF n m k (j - 1)) (hj : j = 1 → ¬ 15 < a + b) : r = dueRow n m z j (pre ++ [k]) := by
  rw [due_next, hr, hf, hq, hi, he, hp]
  unfold pieceF
  subst ha hb hx hy
  rw [if_neg fun h => hj h.1 h.2]

set_option maxRecDepth 100000 in
set_option maxHeartbeats 8000000 in
theorem due_ok (w : World) (loose : List Str) (mean : ExcName → Option Value) (mg mb : Str → Option Value) (news : List (Addr × Obj)) (n m z j : Int) (t1 t2 t3 t4 : Tok) :
    Clm PySem.Challenge.rw_ik0012_01.row.prog w (hd.heap_39 w.params) hd.view_39 loose mean mg mb 56 news 3 16 (0 ≤ n ∧ 0 ≤ m ∧ 0 ≤ z ∧ z ≤ 8 ∧ 1 ≤ j ∧ j ≤ 9) [.int n t1, .int m t2, .int z t3, .int j t4] (fun t => .str (dueF n m z j) t) := by
  k_with "pyIter ref" => k_state (fun pre row => row = dueRow n m z j pre ∧ row.length ≤ 2 + 40 * pre.length) "row"
  k_with "state" => first
    | exact ⟨due_start (by with_reducible assumption) (by with_reducible assumption) (by with_reducible assumption), by simp only [List.length_nil]; omega⟩
    | exact ⟨due_A (by with_reducible assumption) (by with_reducible assumption) (by with_reducible assumption) (by with_reducible assumption) (by with_reducible assumption) (by with_reducible assumption) (by with_reducible assumption) (by with_reducible assumption) (by with_reducible assumption) (by with_reducible assumption), by simp only [List.length_append, List.length_cons, List.length_nil]; omega⟩
    | exact ⟨due_B (by with_reducible assumption) (by with_reducible assumption) (by with_reducible assumption) (by with_reducible assumption) (by with_reducible assumption) (by with_reducible assumption) (by with_reducible assumption) (by with_reducible assumption) (by with_reducible assumption) (by with_reducible assumption) (by first | exact fun _ => by with_reducible assumption | exact fun h => absurd h (by with_reducible assumption)), by simp only [List.length_append, List.length_cons, List.length_nil]; omega⟩
  k_fill
  dsimp only [Clm, CbRet]
  intros
  rename_i hret
  refine wpAny_call ?_
  k_dflt cell_enter
  k_steps
  all_goals (refine cb_retS hret ?e1 ?e2 ?e3; (case e2 => k_asm); (case e3 => k_asm); (case e1 => (rename (_ = dueRow _ _ _ _ (downKs _ _)) => hfin; rw [hfin, dueF, show (z - 1 - -1).toNat = z.toNat from by omega])))
end Mine
namespace Mine
def apB (k : Nat) : List UInt8 := if h : k = 0 then [] else apB (k / 16) ++ [UInt8.ofNat (65 + k % 16)]
termination_by k
decreasing_by omega
theorem apB_zero : apB 0 = [] := by rw [apB]; simp
theorem apB_pos {k : Nat} (h : k ≠ 0) : apB k = apB (k / 16) ++ [UInt8.ofNat (65 + k % 16)] := by
  conv => lhs; rw [apB]
  simp [h]
theorem apB_len : ∀ (e k : Nat), k < 16 ^ e → (apB k).length ≤ e
  | 0, k, h => by
    have : k = 0 := by simpa using h
    subst this; rw [apB_zero]; simp
  | e + 1, k, h => by
    by_cases h0 : k = 0
    · subst h0; rw [apB_zero]; simp
    · rw [apB_pos h0, List.length_append]
      have := apB_len e (k / 16) (by rw [Nat.pow_succ] at h; omega)
      simp only [List.length_cons, List.length_nil]; omega
theorem ap_start {n : Int} (hb : -(16 ^ 9) ≤ n ∧ n ≤ 16 ^ 9) : (0 ≤ if n < 0 then -n else n) ∧ (if n < 0 then -n else n) ≤ 16 ^ 9 ∧ (#[] : Array UInt8).size ≤ 10 ∧ apB (if n < 0 then -n else n).toNat ++ [] = apB n.natAbs := by
  have e : (if n < 0 then -n else n).toNat = n.natAbs := by split <;> omega
  refine ⟨by split <;> omega, by split <;> omega, by decide, ?_⟩
  rw [e, List.append_nil]
theorem ap_turn {n k q r : Int} {v c x : Array UInt8} (hn : -(16 ^ 9) ≤ n ∧ n ≤ 16 ^ 9) (hx : x = c ++ v) (hc : c = #[UInt8.ofNat (65 + r.toNat)]) (hr : r = k % 16) (hq : q = k / 16) (hq0 : 0 ≤ q)
    (h0 : 0 ≤ k) (h1 : k ≤ 16 ^ 9) (hk : k ≠ 0) (he : apB k.toNat ++ v.toList = apB n.natAbs) :
    0 ≤ q ∧ q ≤ 16 ^ 9 ∧ x.size ≤ 10 ∧ apB q.toNat ++ x.toList = apB n.natAbs := by
  have e : apB q.toNat ++ x.toList = apB n.natAbs := by
    rw [← he, apB_pos (k := k.toNat) (by omega), hx, hc, Array.toList_append, List.append_assoc]
    have e1 : k.toNat / 16 = q.toNat := by omega
    have e2 : k.toNat % 16 = r.toNat := by omega
    rw [e1, e2]
  have hl := apB_len 10 n.natAbs (by omega)
  have hl2 := congrArg List.length e
  simp only [List.length_append, Array.length_toList] at hl2
  exact ⟨hq0, by omega, by omega, e⟩
theorem ap_less {k q : Int} (hq : q = k / 16) (h0 : 0 ≤ k) (hk : k ≠ 0) : q.toNat < k.toNat := by omega
theorem ap_done {n k : Int} {v : Array UInt8} (hk : k = 0) (he : apB k.toNat ++ v.toList = apB n.natAbs) : v = (apB n.natAbs).toArray := by
  subst hk
  rw [← he, show (0 : Int).toNat = 0 from rfl, apB_zero]
  simp
theorem cb_retY {h₀ h' : Heap} {L : Addr} {m : Str → Option Value} {news : List (Addr × Obj)} {s : Shared} {Q : Value → Shared → Prop} {t : Tok} {tk' : Nat} {x y : Array UInt8}
    (hret : ∀ (t : Tok) (h' : Heap) (tk' : Nat), Fr h₀ L h' m → News h₀ L h' news → Q (.bytes x t) { s with heap := h', toks := tk' }) (e : y = x) (F : Fr h₀ L h' m) (N : News h₀ L h' news) : Q (.bytes y t) { s with heap := h', toks := tk' } := by
  subst e
  exact hret t h' tk' F N
def apK : Array UInt8 := #[65, 66, 67, 68, 69, 70, 71, 72, 73, 74, 75, 76, 77, 78, 79, 80]
theorem ap_pick {i : Int} (h0 : 0 ≤ i) (h1 : i < 16) : KBy.picked apK (some i) (some (i + 1)) = #[UInt8.ofNat (65 + i.toNat)] := by
  have : i = 0 ∨ i = 1 ∨ i = 2 ∨ i = 3 ∨ i = 4 ∨ i = 5 ∨ i = 6 ∨ i = 7 ∨ i = 8 ∨ i = 9 ∨ i = 10 ∨ i = 11 ∨ i = 12 ∨ i = 13 ∨ i = 14 ∨ i = 15 := by omega
  rcases this with rfl|rfl|rfl|rfl|rfl|rfl|rfl|rfl|rfl|rfl|rfl|rfl|rfl|rfl|rfl|rfl <;> decide +kernel
section
variable {prog : Program} {w : World} {A : Around} {E : Value → Shared → Prop} {s : Shared} {value slice : PySem.Expr} {t : Tok} {h₀ : Heap} {L : Addr} {m : PySem.Str → Option Value} {news : List (Addr × Obj)} {Q : Value → Shared → Prop} {i : Int} {u v : Tok}
theorem ap_slice (hF : Fr h₀ L s.heap m) (hN : News h₀ L s.heap news) (h0 : 0 ≤ i) (h1 : i < 16)
    (h : ∀ (r : Array UInt8) h' t' k, r = #[UInt8.ofNat (65 + i.toNat)] → r.size = 1 → Fr h₀ L h' m → News h₀ L h' news → Q (.bytes r t') { s with heap := h', toks := k })
    (hs : subscripted slice false (.bytes apK t) (.ref s.heap.objs.size) = operate [.ref s.heap.objs.size, .bytes apK t] (getItem (.bytes apK t) (.ref s.heap.objs.size)))
    (ht : ∀ r, letTemporaryGo value (.bytes apK t) r = pure ()) :
    wpAny (model prog w) A (subscriptTail value slice (.bytes apK t) (.ref s.heap.objs.size)) Q E { s with heap := s.heap.push { cls := .type "slice", data := .fields #[.int i u, .int (i + 1) v, .none] } } := by
  refine KBc.slice_K hF hN rfl (IsPart.int _ _) (IsPart.int _ _) (by decide +kernel) ?_ hs ht
  intro h' t' k F' N' _
  rw [ap_pick h0 h1]
  exact h _ h' t' k rfl rfl F' N'
theorem divmod16 {a : Int} (ha : 0 ≤ a) (F : Fr h₀ L s.heap m) (N : News h₀ L s.heap news)
    (h : ∀ (q r : Int) (t1 t2 : Tok) (tk : Nat) h', q = a / 16 → r = a % 16 → 0 ≤ r → r < 16 → 0 ≤ q → Fr h₀ L h' m → News h₀ L h' ((s.heap.objs.size, { cls := .type "tuple", data := .seq #[.int q t1, .int r t2] }) :: news) →
      Q (.ref s.heap.objs.size) { s with toks := tk, heap := h' }) :
    wpAny (model prog w) A (call (.builtin "divmod") [.int a t, .int 16 u]) Q E s := by
  refine divmod_N F N (by decide) fun h' F' N' => ?_
  refine h (a.fdiv 16) (a.fmod 16) _ _ _ h' ?_ ?_ ?_ ?_ ?_ F' N'
  · exact Int.fdiv_eq_ediv_of_nonneg a (by decide)
  · exact Int.fmod_eq_emod_of_nonneg a (by decide)
  · exact Int.fmod_nonneg_of_pos a (by decide)
  · exact Int.fmod_lt_of_pos a (by decide)
  · rw [Int.fdiv_eq_ediv_of_nonneg a (by decide)]; omega
theorem addBy {b c : Array UInt8} (hsz : b.size + c.size ≤ 16777216) (h : ∀ (r : Array UInt8) t' k, r = b ++ c → r.size = b.size + c.size → Q (.bytes r t') { s with toks := k }) :
    wpAny (model prog w) A (binaryOp .Add (.bytes b t) (.bytes c u)) Q E s :=
  KBy.add_bytes hsz fun t' k => h _ t' k rfl Array.size_append
end
local macro_rules | `(tactic| walk_at "subscriptTail") => `(tactic| (k_here; (with_reducible show wpAny _ _ (subscriptTail _ (Expr.Slice _ _ none _) (Value.bytes _ _) (Value.ref _)) _ _ _); k_dflt ((rename Fr _ _ _ _ => F'); (rename News _ _ _ _ => N'); refine' ap_slice (s := ⟨_, _, _, _, _⟩) F' N' ?k1 ?k2 ?_ ?k4 ?k5; (case k1 => omega); (case k2 => omega); (case k4 => with_unfolding_all rfl); (case k5 => (intro _; with_unfolding_all rfl))); intro r9 h9 t9 tk9 hr9 hl9 F9 N9; (try dsimp only)))
local macro_rules | `(tactic| walk_at "call builtin:divmod") => `(tactic| (k_here; k_dflt (refine' divmod16 ?k1 ?k2 ?k3 ?_; (case k1 => omega); (case k2 => k_asm); (case k3 => k_asm)); intro q9 r9 t9 t9' tk9 h9 hq9 hr9 hr0 hr16 hq0 F9 N9; (try dsimp only)))
local macro_rules | `(tactic| walk_at "binaryOp Add bytes bytes") => `(tactic| (k_here; k_dflt (refine' addBy ?k1 ?_; (case k1 => omega)); intro r9 t9 tk9 hr9 hl9; (try dsimp only)))

set_option maxRecDepth 100000 in
set_option maxHeartbeats 8000000 in
theorem ap_ok (w : World) (loose : List Str) (mean : ExcName → Option Value) (mg mb : Str → Option Value) (news : List (Addr × Obj)) (n : Int) (t1 : Tok) :
    Clm PySem.Challenge.rw_ik0012_01.row.prog w (hd.heap_39 w.params) hd.view_39 loose mean mg mb 37 news 3 16 (-(16 ^ 9) ≤ n ∧ n ≤ 16 ^ 9) [.int n t1] (fun t => .bytes (apB n.natAbs).toArray t) := by
  k_with "exec While Name cons nil" => k_while (fun _ k v => 0 ≤ k ∧ k ≤ 16 ^ 9 ∧ v.size ≤ 10 ∧ apB k.toNat ++ v.toList = apB n.natAbs) (fun _ k _ => k.toNat) "num" "val"
  k_with "state" => first | exact ap_start (by with_reducible assumption) | exact ap_turn (by with_reducible assumption) (by with_reducible assumption) (by with_reducible assumption) (by with_reducible assumption) (by with_reducible assumption) (by with_reducible assumption) (by with_reducible assumption) (by with_reducible assumption) (by with_reducible assumption) (by with_reducible assumption)
  k_with "measure" => exact ap_less (by with_reducible assumption) (by with_reducible assumption) (by with_reducible assumption)
  k_fill
  dsimp only [Clm, CbRet]
  intros
  rename_i hret
  refine wpAny_call ?_
  k_dflt cell_enter
  k_steps
  all_goals (refine cb_retY hret ?e1 ?e2 ?e3; (case e2 => k_asm); (case e3 => k_asm); (case e1 => exact ap_done (by with_reducible assumption) (by with_reducible assumption)))
end Mine
namespace Mine
section
variable {prog : Program} {w : World} {A : Around} {E : Value → Shared → Prop} {s : Shared} {h₀ : Heap} {L : Addr} {m : Str → Option Value} {env : Env}
theorem ListComp_B {elt iter : Expr} {x : Str} {px : Pos} {scope : Scope} {cl : List (Str × Addr)} {pos : Pos} {Q : Value → Shared → Prop} (F₀ : Fr h₀ L s.heap m)
    (hclos : closureFor scope env = pure cl) (hcell : ∀ y ∈ scope.names, y.2 ≠ .cell) (hkind : scope.kind = .function)
    (hnames : ∀ y ∈ scope.names, y.2 = .local → scope.names.lookup y.1 = some .local) (hx : scope.names.lookup x = some .local)
    (h : wpAny (model prog w) A (eval iter env) (fun xv s₁ => ∃ b t news, xv = .bytes b t ∧ A.handled = none ∧ Fr h₀ L s₁.heap m ∧ News h₀ L s₁.heap news ∧ b.size ≤ sizeLine ∧
      ∀ g, LCg.CompRest prog w A h₀ L m env elt x scope cl { s₁ with heap := g } (fun _ => True) (fun i v => ∃ c u, b[i]? = some c ∧ v = .int (c.toNat : Int) u) (LCg.FinE h₀ L m { s₁ with heap := g } Q) b.size 0 [] news) E s)
    (hs : ∀ x, foldedSetIterable iter env x = pure x := by intro _; rfl) :
    wpAny (model prog w) A (eval (.ListComp elt [⟨.Name x px, iter, [], 0⟩] scope pos) env) Q E s := by
  rw [eval_ListComp]
  refine wpAny_comprehension_free (use := none) rfl hs hclos hkind hnames (wpAny_mono h (fun xv s₁ h₁ => ?_) fun _ _ e => e)
  obtain ⟨b, t, news, rfl, hh, F, N, hsz, R⟩ := h₁
  refine KBw.pyIter_bytes ?_
  have up : ∀ a o, s₁.heap.get? a = some o → (s₁.heap.push { cls := .type "bytes_iterator", data := .fields #[.bytes b t, .int 0 0] }).get? a = some o := fun a o e => Heap.get?_push_of_some _ e
  refine LCg.block_U (KBw.walks hh s₁.heap.objs.size b t) hsz (fun i h st => ?_) (fun i h h' o nw st e e' _ _ _ => ?_) hcell hkind hx ⟨_, Heap.get?_push_size _ rfl, rfl, rfl⟩ (fun a ha => ?_)
    (F.keeps up) (N.grown up) (Nat.ne_of_lt F.ns.lt) (next_is_new F) (fun p hp => Nat.ne_of_lt (Heap.lt_size (N p hp).1)) trivial (R _) ?_
  · obtain ⟨o, e, _⟩ := st; exact ⟨o, e⟩
  · obtain ⟨o', q, r⟩ := st; rw [e] at q; cases q; exact ⟨o, e', r⟩
  · rw [List.mem_singleton.mp ha]
    show s₁.heap.objs.size < (s₁.heap.push _).objs.size
    rw [Heap.size_push]; exact Nat.lt_succ_self _
  · intro D C h tk m' ys news' F' N' o1 hn hC₀ hD₀ hCL hDL hCD offC fin
    refine ⟨m', hn, fun h'' hs'' => fin D h'' tk (F'.change hs'' hCL hC₀) (fun p hp => ?_) o1⟩
    refine ⟨hs''.extBut _ _ ?_ (N' p hp).1, (N' p hp).2⟩
    rcases List.mem_cons.mp hp with rfl | hp
    · exact Ne.symm hCD
    · exact offC p hp
end

def chrS (k : Int) : Str := ⟨#[k.toNat]⟩
def wordS (n : Int) : Str := ⟨((apB n.natAbs).map UInt8.toNat).toArray⟩
theorem join_empty : ∀ (ys : List Str), Txt.join (Str.ofString "") ys = ⟨(ys.flatMap fun y => y.cps.toList).toArray⟩ := by
  intro ys
  have key : ∀ (rest : List Str) (acc : Array Nat), rest.foldl (fun acc p => acc ++ (Str.ofString "").cps ++ p.cps) acc = acc ++ (rest.flatMap fun y => y.cps.toList).toArray := by
    intro rest
    induction rest with
    | nil => intro acc; simp
    | cons p r ih =>
      intro acc
      rw [List.foldl_cons, ih]
      have e : (Str.ofString "").cps = #[] := by decide
      rw [e]
      apply Array.ext'
      simp
  unfold Txt.join Builtin.Str.glued
  cases ys with
  | nil => rfl
  | cons p r =>
    show (⟨(r.foldl _ p.cps)⟩ : Str) = _
    rw [key]
    congr 1
    apply Array.ext'
    simp
theorem word_join (n : Int) : Txt.join (Str.ofString "") (((apB n.natAbs).map fun c => (c.toNat : Int)).map chrS) = wordS n := by
  rw [join_empty]
  unfold wordS
  congr 2
  generalize apB n.natAbs = l
  induction l with
  | nil => rfl
  | cons c r ih =>
    simp only [List.map_cons, List.flatMap_cons, ih]
    rfl
theorem ap_size {n : Int} (hn : -(16 ^ 9) ≤ n ∧ n ≤ 16 ^ 9) : (apB n.natAbs).length ≤ 10 := apB_len 10 _ (by omega)
theorem ap_mem {n k : Int} (h : k ∈ (apB n.natAbs).map fun c => (c.toNat : Int)) : 0 ≤ k ∧ k < 256 := by
  obtain ⟨c, _, rfl⟩ := List.mem_map.mp h
  have := c.toNat_lt
  omega
theorem ap_at {n : Int} (i : Nat) (v : Value) (hv : ∃ c u, (apB n.natAbs).toArray[i]? = some c ∧ v = .int (c.toNat : Int) u) :
    ∃ k t, ((apB n.natAbs).map fun c => (c.toNat : Int))[i]? = some k ∧ v = .int k t := by
  obtain ⟨c, u, hc, rfl⟩ := hv
  refine ⟨_, u, ?_, rfl⟩
  rw [List.getElem?_map]
  simp at hc
  rw [hc]; rfl
section
variable {prog : Program} {w : World} {A : Around} {E : Value → Shared → Prop} {s : Shared} {t u : Tok} {Q : Value → Shared → Prop}
theorem word_joinR {n : Int} {h₀ : Heap} {L D : Addr} {news : List (Addr × Obj)} {ys : List Value} (hn : -(16 ^ 9) ≤ n ∧ n ≤ 16 ^ 9) (N : News h₀ L s.heap ((D, LCg.lst ys) :: news))
    (hc : CarriedAll ys (((apB n.natAbs).map fun c => (c.toNat : Int)).map fun k => PyData.str (chrS k)))
    (h : ∀ t' k, Q (.str (wordS n) t') { s with toks := k }) : wpAny (model prog w) A (call (.builtin "str.join") [.str (Str.ofString "") t, .ref D]) Q E s := by
  refine join_list (items := ys.toArray) (ys := ((apB n.natAbs).map fun c => (c.toNat : Int)).map chrS) (News.isList N (.head _)) (by simpa using hc.strsOf) ?_ ?_
  · have e : ∀ l : List Int, ((l.map chrS).map (·.length)).sum = l.length := by
      intro l
      induction l with
      | nil => rfl
      | cons a r ih => simp only [List.map_cons, List.sum_cons, ih, List.length_cons]; show 1 + _ = _; omega
    rw [e, List.length_map, show (Str.ofString "").length = 0 from by decide]
    have := ap_size hn
    omega
  · rw [word_join]; exact h
end

local macro_rules | `(tactic| walk_at "eval Call") => `(tactic| (k_here; k_dflt (refine Call_ ?_)))
local macro_rules | `(tactic| walk_at "call ref") => `(tactic| (k_here; k_dflt (refine' cbUse (ap_ok _ _ _ _ _ _ _ _) ?k1 ?k2 ?k3 ?k4 ?k5 ?kK ?kp ?kd ?ku ?_; (case k1 => k_asm); (case k2 => k_asm); (case k3 => k_asm); (case k4 => k_asm); (case k5 => k_asm); (case kK => first | exact rfl | assumption); (case kp => (constructor <;> omega)); (case kd => ktr_room); (case ku => ktr_units)); intro t9 h9 tk9 htk9 F9 N9; (try dsimp only)))
local macro_rules | `(tactic| walk_at "eval ListComp") => `(tactic| (k_here; k_dflt (refine ListComp_B (F₀ := by k_asm) (by with_unfolding_all rfl) (by decide) (by rfl) (by decide) (by rfl) ?_)))
local macro_rules | `(tactic| walk_at "Exists") => `(tactic| (k_here; k_dflt (refine' ⟨_, _, _, rfl, rfl, ?k1, ?k2, ?k3, ?_⟩; (case k1 => k_asm); (case k2 => k_asm); (case k3 => (rw [List.size_toArray, sizeLine_eq]; (have hx := ap_size (by assumption)); omega))); intro g9; refine' kct_rest chrS (by rw [List.length_map, List.size_toArray]) (fun i v _ hv => ap_at i v hv) ?_ ?_; (focus (intro k' t' I' oI' C' oC' D' m' ys' h' tk' E' hk' hC' hx' F' N' off' ne' mk'; (have hkb := ap_mem hk')))))
local macro_rules | `(tactic| walk_at "call builtin:chr") => `(tactic| (k_here; k_dflt (refine chr_of_range (by omega) (by omega) ?_)))
local macro_rules | `(tactic| walk_at "CompEnd") => `(tactic| (refine LCg.CompEnd.intro (by assumption) (by assumption) _ (fun p hp => hp) (by assumption) trivial ?_))
local macro_rules | `(tactic| walk_at "KCtEl") => `(tactic| exact kct_el rfl rfl rfl)
local macro_rules | `(tactic| walk_at "KPfDone") => `(tactic| (unfold KPfDone; intro ys9 hc9 _))
local macro_rules | `(tactic| walk_at "call builtin:str.join") => `(tactic| (k_here; k_dflt (refine' word_joinR ?k1 ?k2 ?k3 ?_; (case k1 => assumption); (case k2 => assumption); (case k3 => assumption)); intro t9 tk9; (try dsimp only)))

set_option maxRecDepth 100000 in
set_option maxHeartbeats 8000000 in
theorem word_ok (w : World) (loose : List Str) (mean : ExcName → Option Value) (mg mb : Str → Option Value) (news : List (Addr × Obj)) (n : Int) (t1 : Tok) :
    Clm PySem.Challenge.rw_ik0012_01.row.prog w (hd.heap_39 w.params) hd.view_39 loose mean mg mb 42 news 5 40 (-(16 ^ 9) ≤ n ∧ n ≤ 16 ^ 9) [.int n t1] (fun t => .str (wordS n) t) := by
  k_fill
  dsimp only [Clm, CbRet]
  intros
  rename_i hret
  refine wpAny_call ?_
  k_dflt cell_enter
  k_steps
  all_goals (refine cb_retS hret rfl ?e2 ?e3; (case e2 => k_asm); (case e3 => exact cb_drop (by assumption) (fun p hp => List.Mem.tail _ hp)))
end Mine
namespace Mine
/-- replace of a pair of signs by a text, on lists -/
def rep2 (a b : Nat) (z : List Nat) : List Nat → List Nat
  | [] => []
  | [x] => [x]
  | x :: y :: r => if x = a ∧ y = b then z ++ rep2 a b z r else x :: rep2 a b z (y :: r)
theorem rep2_hit (a b : Nat) (z r : List Nat) : rep2 a b z (a :: b :: r) = z ++ rep2 a b z r := by
  rw [rep2, if_pos ⟨rfl, rfl⟩]
theorem rep2_skip (a b : Nat) (z : List Nat) (x : Nat) (t : List Nat) (h : (x :: t).take 2 ≠ [a, b]) : rep2 a b z (x :: t) = x :: rep2 a b z t := by
  cases t with
  | nil => rfl
  | cons y r =>
    rw [rep2, if_neg]
    rintro ⟨rfl, rfl⟩
    exact h rfl
theorem rep2_seg (a b : Nat) (z L : List Nat) : ∀ (n i : Nat), (∀ k, i ≤ k → k < i + n → (L.drop k).take 2 ≠ [a, b]) → i + n ≤ L.length →
    rep2 a b z (L.drop i) = (L.drop i).take n ++ rep2 a b z (L.drop (i + n))
  | 0, i, _, _ => by simp
  | n + 1, i, h, hl => by
    have e : L.drop i = L[i]'(by omega) :: L.drop (i + 1) := List.drop_eq_getElem_cons (by omega)
    have h0 := h i (Nat.le_refl _) (by omega)
    have ih := rep2_seg a b z L n (i + 1) (fun k h1 h2 => h k (by omega) (by omega)) (by omega)
    rw [e] at h0 ⊢
    rw [rep2_skip a b z _ _ h0, ih, List.take_succ_cons, List.cons_append, show i + 1 + n = i + (n + 1) from by omega]
theorem rep2_tail (a b : Nat) (z L : List Nat) (i : Nat) (h : ∀ k, i ≤ k → (L.drop k).take 2 ≠ [a, b]) : rep2 a b z (L.drop i) = L.drop i := by
  by_cases hi : i ≤ L.length
  · rw [rep2_seg a b z L (L.length - i) i (fun k h1 _ => h k h1) (by omega), show i + (L.length - i) = L.length from by omega, List.drop_length, rep2, List.append_nil]
    exact List.take_of_length_le (by simp)
  · rw [List.drop_of_length_le (by omega)]; rfl
section
open Builtin Builtin.Str StrLaws
theorem at_iff (x : Str) (a b i : Nat) : At x ⟨#[a, b]⟩ x.length i ↔ (x.cps.toList.drop i).take 2 = [a, b] := by
  unfold At
  rw [subAt_eq]
  show (i + 2 ≤ x.length ∧ ((x.cps.toList.drop i).take 2 == [a, b]) = true) ↔ _
  rw [beq_iff_eq]
  constructor
  · exact fun h => h.2
  · intro h
    refine ⟨?_, h⟩
    have hl := congrArg List.length h
    rw [List.length_take, List.length_drop] at hl
    have : x.cps.toList.length = x.length := by simp [Str.length]
    simp only [List.length_cons, List.length_nil] at hl
    omega
theorem rep2_parts (x z : Str) (a b : Nat) : ∀ (cuts : List Nat) (i f : Nat), i ≤ x.length → ChainG x ⟨#[a, b]⟩ x.length i cuts f → (∀ k, f ≤ k → ¬ At x ⟨#[a, b]⟩ x.length k) →
    (Str.join z (partsFrom x 2 i cuts)).cps.toList = rep2 a b z.cps.toList (x.cps.toList.drop i)
  | [], i, f, hi, h, hn => by
    have e : f = i := h
    subst e
    show (strSub x f x.length).cps.toList = _
    rw [strSub_toList, rep2_tail _ _ _ _ _ fun k hk hA => hn k hk ((at_iff x a b k).mpr hA)]
    exact List.take_of_length_le (by simp [Str.length])
  | c :: r, i, f, hi, h, hn => by
    obtain ⟨hic, hA, hno, hr⟩ := h
    have hlen : x.cps.toList.length = x.length := by simp [Str.length]
    have hcl : c + 2 ≤ x.length := hA.1
    have ih := rep2_parts x z a b r (c + 2) f hcl hr hn
    obtain ⟨p, q, e⟩ := partsFrom_ne x 2 (c + 2) r
    show (Str.join z (strSub x i c :: partsFrom x 2 (c + 2) r)).cps.toList = _
    rw [e] at ih ⊢
    show (strSub x i c ++ z ++ Str.join z (p :: q)).cps.toList = _
    simp only [Str.cps_append, Array.toList_append]
    rw [ih, strSub_toList, rep2_seg a b _ x.cps.toList (c - i) i (fun k h1 h2 hk => hno k h1 (by omega) ((at_iff x a b k).mpr hk)) (by omega), show i + (c - i) = c from by omega]
    have hA' := (at_iff x a b c).mp hA
    have e2 : x.cps.toList.drop c = a :: b :: x.cps.toList.drop (c + 2) := by
      have e3 := List.take_append_drop 2 (x.cps.toList.drop c)
      rw [hA', List.drop_drop] at e3
      exact e3.symm
    rw [e2, rep2_hit, List.append_assoc]
theorem replace_pair (x z : Str) (a b : Nat) : Txt.replace x ⟨#[a, b]⟩ z = ⟨(rep2 a b z.cps.toList x.cps.toList).toArray⟩ := by
  obtain ⟨f, hc, hn⟩ := occ_tight x ⟨#[a, b]⟩ (by show 1 ≤ 2; omega)
  have key := rep2_parts x z a b _ 0 f (Nat.zero_le _) hc hn
  rw [List.drop_zero] at key
  unfold Txt.replace
  have h2 : ((⟨#[a, b]⟩ : Str).length == 0) = false := rfl
  rw [h2, Bool.false_and, Bool.or_false]
  cases ho : occurrences x ⟨#[a, b]⟩ 0 x.length (x.length + 1) with
  | nil =>
    rw [ho] at key
    rw [List.isEmpty_nil, if_pos rfl, ← key]
    show x = ⟨((strSub x 0 x.length).cps.toList).toArray⟩
    rw [sub_whole]
  | cons i r =>
    rw [ho] at key
    rw [List.isEmpty_cons, if_neg Bool.false_ne_true, glued_eq_join, partsBetween_eq, ← key]
    rfl
theorem rep2_len (a b : Nat) (z : List Nat) (hz : z.length ≤ 2) : ∀ L : List Nat, (rep2 a b z L).length ≤ L.length
  | [] => Nat.le_refl _
  | [_] => Nat.le_refl _
  | x :: y :: r => by
    have h1 := rep2_len a b z hz r
    have h2 := rep2_len a b z hz (y :: r)
    rw [rep2]
    split
    · rw [List.length_append]; simp only [List.length_cons]; omega
    · simp only [List.length_cons] at h2 ⊢; omega
theorem occ_nil_one (x : Str) (c : Nat) (h : c ∉ x.cps.toList) : occurrences x ⟨#[c]⟩ 0 x.length (x.length + 1) = [] := by
  rcases occ_head x ⟨#[c]⟩ (x.length + 1) (by omega) with h0 | ⟨i, r, _, hA, _⟩
  · exact h0.1
  · exact absurd (List.mem_of_getElem? ((subAt_one x c i).mp hA)) h
section
variable {prog : Program} {w : World} {A : Around} {E : Value → Shared → Prop} {s : Shared} {x y z : Str} {t u v : Tok} {Q : Value → Shared → Prop}
theorem replNone {c : Nat} (hy : y = ⟨#[c]⟩) (hx : c ∉ x.cps.toList) (hq : Q (.str x t) s) : wpAny (model prog w) A (call (.builtin "str.replace") [.str x t, .str y u, .str z v]) Q E s := by
  subst hy
  have ho := occ_nil_one x c hx
  refine call_gives F.slot_str_replace (typeIs_str _ _ _) F.entry_str_replace (F.args_str_replace_3 _ _ _)
    (gives_str_replace x ⟨#[c]⟩ z t u v fun hc => ?_) ?_
  · rw [ho] at hc; cases hc
  · rw [ho]; exact hq
theorem replPair {a b : Nat} (hy : y = ⟨#[a, b]⟩) (hu : u ≠ 0) (hv : v ≠ 0) (huv : u ≠ v) (hyz : (y == z) = false) (hz : z.length ≤ 2) (hx : x.length ≤ 10000)
    (hq : ∀ (r : Str) t' k, r = ⟨(rep2 a b z.cps.toList x.cps.toList).toArray⟩ → r.length ≤ x.length → Q (.str r t') { s with toks := k }) :
    wpAny (model prog w) A (call (.builtin "str.replace") [.str x t, .str y u, .str z v]) Q E s := by
  refine SC.replaceW hu hv huv hyz (by omega) (by omega) fun t' k => ?_
  subst hy
  rw [replace_pair]
  refine hq _ t' k rfl ?_
  show (rep2 a b z.cps.toList x.cps.toList).toArray.size ≤ x.cps.size
  rw [List.size_toArray]
  exact rep2_len a b _ (by rw [Array.length_toList]; exact hz) _
end
end
end Mine
namespace Mine
section
variable (prog : Program) (w : World)
def EntOk (e : DictEntry) (p : Str × Str) : Prop := e.hash = (strKind prog w).hash p.1 ∧ ∃ u v, e.key = .str p.1 u ∧ e.val = .str p.2 v ∧ u ≠ 0 ∧ v ≠ 0 ∧ u ≠ v
def Ents (es : List DictEntry) (l : List (Str × Str)) : Prop := es.length = l.length ∧ ∀ (i : Nat) e p, es[i]? = some e → l[i]? = some p → EntOk prog w e p
def TabO (o : Obj) (l : List (Str × Str)) : Prop := ∃ es ep, o.ExactDict ∧ o.data = .dict es ep ∧ Ents prog w es.toList l ∧ (l.map (·.1)).Nodup
end
section
variable {prog : Program} {w : World} {A : Around} {E : Value → Shared → Prop} {s : Shared}
theorem Ents.at {es : List DictEntry} {l : List (Str × Str)} (h : Ents prog w es l) {e : DictEntry} (he : e ∈ es) : ∃ p ∈ l, EntOk prog w e p := by
  obtain ⟨i, hi⟩ := List.getElem?_of_mem he
  have hlt : i < l.length := by
    rw [← h.1]
    exact (List.getElem?_eq_some_iff.mp hi).1
  exact ⟨l[i], List.getElem_mem hlt, h.2 i e _ hi (List.getElem?_eq_getElem hlt)⟩
theorem Ents.keys {es : Array DictEntry} {l : List (Str × Str)} (h : Ents prog w es.toList l) : KeysOf (strKind prog w) es := by
  intro e he
  obtain ⟨p, _, h1, u, v, h2, _⟩ := h.at (by simpa using he)
  exact ⟨p.1, by rw [h2]; exact strKind_is prog w p.1 u, h1⟩
theorem Ents.none {es : Array DictEntry} {l : List (Str × Str)} (h : Ents prog w es.toList l) {k : Str} (hk : k ∉ l.map (·.1)) : (es.findIdx? fun e => (strKind prog w).is k e.key) = .none := by
  rw [Array.findIdx?_eq_none_iff]
  intro e he
  obtain ⟨p, hp, _, u, v, h2, _⟩ := h.at (by simpa using he)
  rw [h2, KeyKind.is_eq_decide (strKind_is prog w p.1 u) k]
  exact decide_eq_false fun e => hk (e ▸ List.mem_map_of_mem hp)
theorem Ents.snoc {es : List DictEntry} {l : List (Str × Str)} (h : Ents prog w es l) {e : DictEntry} {p : Str × Str} (x : EntOk prog w e p) : Ents prog w (es ++ [e]) (l ++ [p]) := by
  refine ⟨by simp [h.1], fun i e' p' he hp => ?_⟩
  by_cases hi : i < es.length
  · rw [List.getElem?_append_left hi] at he
    rw [List.getElem?_append_left (by rw [← h.1]; exact hi)] at hp
    exact h.2 i e' p' he hp
  · rw [List.getElem?_append_right (by omega)] at he
    rw [List.getElem?_append_right (by have := h.1; omega)] at hp
    rw [h.1] at he
    cases hj : i - l.length with
    | zero => rw [hj] at he hp; cases he; cases hp; exact x
    | succ j => rw [hj] at he; cases he
theorem TabO.new : TabO prog w { cls := .type "dict", data := .dict #[] } [] := ⟨#[], 0, ⟨rfl, rfl, rfl⟩, rfl, ⟨rfl, fun i e p he _ => by simp at he⟩, by simp⟩
theorem TabO.dictAt {o : Obj} {l : List (Str × Str)} (h : TabO prog w o l) : ∃ es ep kvs, o.ExactDict ∧ o.data = .dict es ep ∧ Ents prog w es.toList l ∧ KeysOf (strKind prog w) es ∧ Pairs (strKind prog w) es.toList kvs ∧ (kvs.map (·.1)).Nodup ∧ kvs.length = l.length := by
  obtain ⟨es, ep, hx, hd, he, hn⟩ := h
  refine ⟨es, ep, ?_⟩
  have key : ∀ (es : List DictEntry) (l : List (Str × Str)), Ents prog w es l → ∃ kvs : List (Str × Value), Pairs (strKind prog w) es kvs ∧ kvs.map (·.1) = l.map (·.1) := by
    intro es
    induction es with
    | nil =>
      intro l h
      have : l = [] := List.length_eq_zero_iff.mp h.1.symm
      subst this
      exact ⟨[], .nil, rfl⟩
    | cons e r ih =>
      intro l h
      cases l with
      | nil => have := h.1; simp at this
      | cons p q =>
        obtain ⟨kvs, h1, h2⟩ := ih q ⟨by have := h.1; simpa using this, fun i e' p' a b => h.2 (i + 1) e' p' (by simpa using a) (by simpa using b)⟩
        obtain ⟨_, u, v, e1, e2, _⟩ := h.2 0 e p rfl rfl
        exact ⟨(p.1, e.val) :: kvs, .cons (by rw [e1]; exact strKind_is prog w p.1 u) rfl h1, by simp [h2]⟩
  obtain ⟨kvs, h1, h2⟩ := key es.toList l he
  exact ⟨kvs, hx, hd, he, he.keys, h1, h2 ▸ hn, by have := congrArg List.length h2; simpa using this⟩
theorem setRaw {d : Addr} {o : Obj} {l : List (Str × Str)} {k x : Str} {u v : Tok} {Q : Unit → Shared → Prop} (ho : s.heap.get? d = some o) (ht : TabO prog w o l) (hk : k ∉ l.map (·.1)) (hu : u ≠ 0) (hv : v ≠ 0) (huv : u ≠ v) (hl : l.length ≤ 1000)
    (hQ : ∀ h' o', h'.get? d = some o' → TabO prog w o' (l ++ [(k, x)]) → Heap.SameBut d s.heap h' → Q () { s with heap := h' }) :
    wpAny (model prog w) A (dictFind d (.str k u) ((strKind prog w).hash k) >>= fun r => match r with
      | some i => updateDict d (·.modify i fun e => { e with val := .str x v }) 
      | none => updateDictKeys d (·.push ⟨(strKind prog w).hash k, .str k u, .str x v⟩)) Q E s := by
  obtain ⟨es, ep, hx, hd, he, hn⟩ := ht
  refine wpAny_bind (wpAny_dictFind_of (strKind_is prog w k u) ho hd he.keys ?_)
  rw [he.none hk]
  have hes : es.size ≤ sizeLine := by have := he.1; rw [Array.length_toList] at this; rw [sizeLine_eq]; omega
  refine wpAny_updateDictKeys (hz := hes) ho hd (hQ _ _ (Heap.get?_update_self _ ho (Obj.isFreed_of_dict (Obj.data_mapDictKeys hd _))) ⟨_, ep + 1, hx.mapDictKeys _, Obj.data_mapDictKeys hd _, ?_, ?_⟩ (Heap.SameBut.update ..))
  · rw [Array.toList_push]
    exact he.snoc ⟨rfl, u, v, rfl, rfl, hu, hv, huv⟩
  · rw [List.map_append, List.nodup_append]
    refine ⟨hn, by simp, ?_⟩
    intro a ha b hb
    simp only [List.map_cons, List.map_nil, List.mem_singleton] at hb
    subst hb
    exact fun e => hk (e ▸ ha)
end
end Mine
namespace Mine
section
variable {prog : Program} {w : World} {A : Around} {E : Value → Shared → Prop} {s : Shared}
theorem findFresh {d : Addr} {o : Obj} {es : Array DictEntry} {ep : Nat} {l : List (Str × Str)} {k : Str} {u : Tok} {Q : Option Nat → Shared → Prop} (ho : s.heap.get? d = some o) (hd : o.data = .dict es ep) (he : Ents prog w es.toList l) (hk : k ∉ l.map (·.1))
    (h : Q none s) : wpAny (model prog w) A (dictFind d (.str k u) ((strKind prog w).hash k)) Q E s := by
  refine wpAny_dictFind_of (strKind_is prog w k u) ho hd he.keys ?_
  rw [he.none hk]; exact h
theorem pushFresh {d : Addr} {o : Obj} {l : List (Str × Str)} {k x : Str} {u v : Tok} {part : Option Value} {Q : Unit → Shared → Prop} (ho : s.heap.get? d = some o) (ht : TabO prog w o l) (hk : k ∉ l.map (·.1)) (hu : u ≠ 0) (hv : v ≠ 0) (huv : u ≠ v) (hl : l.length ≤ 1000)
    (hQ : ∀ h' o', h'.get? d = some o' → TabO prog w o' (l ++ [(k, x)]) → Heap.SameBut d s.heap h' → Q () { s with heap := h' }) :
    wpAny (model prog w) A (updateDictKeys d (·.push ⟨(strKind prog w).hash k, .str k u, .str x v⟩) part) Q E s := by
  obtain ⟨es, ep, hx, hd, he, hn⟩ := ht
  have hes : es.size ≤ sizeLine := by have := he.1; rw [Array.length_toList] at this; rw [sizeLine_eq]; omega
  refine wpAny_updateDictKeys (hz := hes) ho hd (hQ _ _ (Heap.get?_update_self _ ho (Obj.isFreed_of_dict (Obj.data_mapDictKeys hd _))) ⟨_, ep + 1, hx.mapDictKeys _, Obj.data_mapDictKeys hd _, ?_, ?_⟩ (Heap.SameBut.update ..))
  · rw [Array.toList_push]
    exact he.snoc ⟨rfl, u, v, rfl, rfl, hu, hv, huv⟩
  · rw [List.map_append, List.nodup_append]
    refine ⟨hn, by simp, ?_⟩
    intro a ha b hb
    simp only [List.map_cons, List.map_nil, List.mem_singleton] at hb
    subst hb
    exact fun e => hk (e ▸ ha)
theorem setFresh {d : Addr} {o : Obj} {l : List (Str × Str)} {k x : Str} {u v : Tok} {Q : Unit → Shared → Prop} (ho : s.heap.get? d = some o) (ht : TabO prog w o l) (hk : k ∉ l.map (·.1)) (hu : u ≠ 0) (hv : v ≠ 0) (huv : u ≠ v) (hl : l.length ≤ 1000)
    (hQ : ∀ h' o', h'.get? d = some o' → TabO prog w o' (l ++ [(k, x)]) → Heap.SameBut d s.heap h' → Q () { s with heap := h', toks := s.toks + 1 }) :
    wpAny (model prog w) A (dictSet d (.str k u) (.str x v)) Q E s := by
  unfold dictSet
  refine wpAny_holding ?_
  refine wpAny_bind ((strKind prog w).pyHash (strKind_is prog w k u) ?_)
  unfold dictSetHashed
  refine wpAny_holding ?_
  obtain ⟨es, ep, hx, hd, he, hn⟩ := id ht
  refine wpAny_bind (findFresh (s := { s with toks := s.toks + 1 }) ho hd he hk ?_)
  refine wpAny_bind (wpAny_rule ?_)
  exact pushFresh (s := { s with toks := s.toks + 1 }) ho ht hk hu hv huv hl hQ
theorem putFresh {d : Addr} {o : Obj} {l : List (Str × Str)} {k x : Str} {u v : Tok} {Q : Unit → Shared → Prop} (ho : s.heap.get? d = some o) (ht : TabO prog w o l) (hk : k ∉ l.map (·.1)) (hu : u ≠ 0) (hv : v ≠ 0) (huv : u ≠ v) (hl : l.length ≤ 1000)
    (hQ : ∀ h' o', h'.get? d = some o' → TabO prog w o' (l ++ [(k, x)]) → Heap.SameBut d s.heap h' → Q () { s with heap := h' }) :
    wpAny (model prog w) A (dictPut d ((strKind prog w).hash k) (.str k u) (.str x v)) Q E s := by
  unfold dictPut
  obtain ⟨es, ep, hx, hd, he, hn⟩ := id ht
  refine wpAny_bind (findFresh ho hd he hk ?_)
  exact pushFresh ho ht hk hu hv huv hl hQ
theorem tab_type {a : Addr} {o : Obj} {l : List (Str × Str)} (ho : s.heap.get? a = some o) (ht : TabO prog w o l) : s.TypeIs (.ref a) "dict" := by
  obtain ⟨_, _, hx, _⟩ := ht
  exact ⟨o, ho, hx.1⟩
theorem mergeFresh {d a : Addr} {od oa : Obj} {l l2 : List (Str × Str)} {Q : Unit → Shared → Prop} (hda : d ≠ a) (haS : (a == sysModules) = false) (hod : s.heap.get? d = some od) (htd : TabO prog w od l) (hoa : s.heap.get? a = some oa) (hta : TabO prog w oa l2)
    (hn : ((l ++ l2).map (·.1)).Nodup) (hl : l.length + l2.length ≤ 1000)
    (hQ : ∀ h' o', h'.get? d = some o' → TabO prog w o' (l ++ l2) → Heap.SameBut d s.heap h' → Q () { s with heap := h' }) :
    wpAny (model prog w) A (mergeMapping d (.ref a) false) Q E s := by
  have hT := tab_type hoa hta
  obtain ⟨es, ep, hx, hd, he, hna⟩ := id hta
  obtain ⟨esd, epd, hxd, hdd, hed, hnd⟩ := id htd
  have loop : ∀ (f : Nat → PUnit → Sem (ForInStep PUnit)), (∀ i h' (Q' : ForInStep PUnit → Shared → Prop), i < l2.length → h'.get? a = some oa → (∃ o', h'.get? d = some o' ∧ TabO prog w o' (l ++ l2.take i)) → Heap.SameBut d s.heap h' →
      (∀ h'' o'', h''.get? d = some o'' → TabO prog w o'' (l ++ l2.take (i + 1)) → Heap.SameBut d s.heap h'' → Q' (.yield PUnit.unit) { s with heap := h'' }) → wpAny (model prog w) A (f i PUnit.unit) Q' E { s with heap := h' }) →
      wpAny (model prog w) A (forIn (List.range es.size) PUnit.unit f) (fun _ s' => Q () s') E s := by
    intro f hf
    have hsz : es.size = l2.length := by have := he.1; rwa [Array.length_toList] at this
    rw [List.range_eq_range', hsz]
    refine wpAny_forIn_list _
      (fun rest _ s' => ∃ h' i, s' = { s with heap := h' } ∧ rest = List.range' i (l2.length - i) ∧ i ≤ l2.length ∧ (∃ o', h'.get? d = some o' ∧ TabO prog w o' (l ++ l2.take i)) ∧ Heap.SameBut d s.heap h')
      _ ?_ ?_ _ _ ⟨s.heap, 0, rfl, by simp, Nat.zero_le _, ⟨od, hod, by simpa using htd⟩, Heap.SameBut.refl _ _⟩
    · rintro x rest b s' ⟨h', i, rfl, hr, hi, ho', hs'⟩
      have hlt : i < l2.length := by
        rcases Nat.lt_or_ge i l2.length with h | h
        · exact h
        · rw [Nat.sub_eq_zero_of_le h] at hr; simp at hr
      obtain ⟨rfl, hrest⟩ : x = i ∧ rest = List.range' (i + 1) (l2.length - (i + 1)) := by
        have e : l2.length - i = (l2.length - (i + 1)) + 1 := by omega
        rw [e, List.range'_succ] at hr
        injection hr with h1 h2
        exact ⟨h1, h2⟩
      refine hf x h' _ hlt ((hs'.2 a (Ne.symm hda)).trans hoa) ho' hs' fun h'' o'' g1 g2 g3 => ?_
      exact ⟨h'', x + 1, rfl, hrest, hlt, ⟨o'', g1, g2⟩, g3⟩
    · rintro b s' ⟨h', i, rfl, hr, hi, ⟨o', g1, g2⟩, hs'⟩
      have hin : i = l2.length := by
        rcases Nat.lt_or_ge i l2.length with h | h
        · have e : l2.length - i = (l2.length - (i + 1)) + 1 := by omega
          rw [e, List.range'_succ] at hr; exact nomatch hr
        · exact Nat.le_antisymm hi h
      rw [hin, List.take_length] at g2
      exact hQ h' o' g1 g2 hs'
  unfold mergeMapping
  refine wpAny_bind (wpAny_isInstance hT isSubtype_dict_dict ?_)
  refine wpAny_ite ?_
  rw [if_pos rfl]
  refine wpAny_bind (wpAny_specialOf hT PySem.F.slot_dict_iter.lookup (wpAny_bind (wpAny_pure ?_)))
  rw [show ((some (Value.builtin "dict.__iter__") == some (Value.builtin "dict.__iter__")) = true) from by decide]
  refine wpAny_ite ?_
  rw [if_neg (by rw [haS]; exact Bool.false_ne_true)]
  have tail : ∀ s', s' = s → wpAny (model prog w) A (do
            let __do_lift ← dictEntries a
            have size : Nat := __do_lift.size
            let epoch ← dictEpoch a
            forIn (List.range size) PUnit.unit fun i __s => do
                let __do_lift ← dictEntries a
                match __do_lift[i]? with
                  | some e => do
                    holding [e.key, e.val]
                        (have __do_jp := fun __r => dictPut d e.hash e.key e.val;
                        if false = true then do
                          let __do_lift ← dictFind d e.key e.hash
                          if __do_lift.isSome = true then do
                              rule "dict.merge.duplicate-key"
                              let __do_lift ← newExc (Value.type "KeyError") [e.key]
                              let __r ← raiseNew __do_lift
                              __do_jp __r
                            else __do_jp ()
                        else __do_jp ())
                    let __do_lift ← dictEpoch a
                    if (__do_lift != epoch) = true then do
                        unsupported "dict.changed-during-merge"
                        pure (ForInStep.yield PUnit.unit)
                      else pure (ForInStep.yield PUnit.unit)
                  | x => do
                    unsupported "dict.changed-during-merge"
                    pure (ForInStep.yield PUnit.unit)
            pure ()) Q E s' := by
    rintro s' rfl
    refine wpAny_bind (wpAny_dictEntries hoa hd ?_)
    refine wpAny_bind (wpAny_dictEpoch hoa hd ?_)
    refine wpAny_bind (wpAny_mono (loop _ ?_) (fun _ s' q => wpAny_pure q) fun _ _ e => e)
    intro i h' Q' hi ha ⟨o', g1, g2⟩ hs' hk
    have hlt : i < es.size := by have := he.1; rw [Array.length_toList] at this; omega
    refine wpAny_bind (wpAny_dictEntries ha hd ?_)
    rw [Array.getElem?_eq_getElem hlt]
    have hp : l2[i]? = some l2[i] := List.getElem?_eq_getElem hi
    obtain ⟨e1, u, v, e2, e3, hu, hv, huv⟩ := he.2 i es[i] l2[i] (by simp [hlt]) hp
    have hfresh : l2[i].1 ∉ (l ++ l2.take i).map (·.1) := by
      have e := List.take_append_drop i l2
      rw [List.drop_eq_getElem_cons hi] at e
      rw [← e, ← List.append_assoc, List.map_append, List.map_cons, List.nodup_append] at hn
      intro hm
      exact hn.2.2 _ hm _ (List.mem_cons_self ..) rfl
    refine wpAny_bind (wpAny_holding (wpAny_ite ?_))
    rw [if_neg Bool.false_ne_true]
    show wpAny _ _ (dictPut d es[i].hash es[i].key es[i].val) _ _ _
    rw [e1, e2, e3]
    refine putFresh g1 g2 hfresh hu hv huv (by rw [List.length_append, List.length_take]; omega) fun h'' o'' k1 k2 k3 => ?_
    refine wpAny_bind (wpAny_dictEpoch ((k3.2 a (Ne.symm hda)).trans ha) hd (wpAny_ite ?_))
    rw [if_neg (by simp)]
    refine wpAny_pure (hk h'' o'' k1 ?_ (hs'.trans k3))
    rw [List.take_add_one, hp, ← List.append_assoc]
    exact k2
  refine wpAny_bind (wpAny_dictEntries hod hdd (wpAny_ite ?_))
  split
  · refine wpAny_bind (wpAny_dictEntries hoa hd ?_)
    refine wpAny_bind ?_
    rw [← Array.forIn_toList]
    refine wpAny_forIn_list _ (fun rest _ s' => s' = s ∧ ∀ e ∈ rest, e ∈ es.toList) _ ?_ ?_ _ _ ⟨rfl, fun _ h => h⟩
    · rintro e rest b s' ⟨rfl, hm⟩
      obtain ⟨p, _, _, u, v, e2, _⟩ := he.at (hm e (List.mem_cons_self ..))
      rw [e2]
      exact wpAny_pure ⟨rfl, fun x hx => hm x (List.mem_cons_of_mem _ hx)⟩
    · rintro b s' ⟨rfl, _⟩
      exact tail _ rfl
  · exact tail _ rfl
end
end Mine
namespace Mine
/-- one turn's end of a dict's comprehension whose keys and values are texts -/
def DEnd (h₀ : Heap) (L : Addr) (m : Str → Option Value) (s : Shared) (I : Addr) (oI : Obj) (C : Addr) (oC : Obj) (D : Addr) (oD : Obj) (news : List (Addr × Obj)) (p : Str × Str) (kv vv : Value) (s₅ : Shared) : Prop :=
  ∃ h' tk' u v, s₅ = { s with heap := h', toks := tk' } ∧ kv = .str p.1 u ∧ vv = .str p.2 v ∧ u ≠ 0 ∧ v ≠ 0 ∧ u ≠ v ∧ Fr h₀ L h' m ∧ News h₀ L h' ((I, oI) :: (C, oC) :: (D, oD) :: news)
section
variable {prog : Program} {w : World} {A : Around} {E : Value → Shared → Prop} {s : Shared} {h₀ : Heap} {L : Addr} {m : Str → Option Value} {env : Env}
theorem DictComp_R {kx vx iter : Expr} {x : Str} {px : Pos} {scope : Scope} {cl : List (Str × Addr)} {pos : Pos} {Q : Value → Shared → Prop} (G : Nat → Str × Str) (n : Nat)
    (hclos : closureFor scope env = pure cl) (hcell : ∀ y ∈ scope.names, y.2 ≠ .cell) (hkind : scope.kind = .function)
    (hnames : ∀ y ∈ scope.names, y.2 = .local → scope.names.lookup y.1 = some .local) (hx : scope.names.lookup x = some .local)
    (hn : n ≤ 100) (hG : (((List.range n).map G).map (·.1)).Nodup)
    (h : wpAny (model prog w) A (eval iter env) (fun xv s₁ => ∃ r t u v news, xv = .ref r ∧ A.handled = none ∧ Fr h₀ L s₁.heap m ∧ News h₀ L s₁.heap news ∧ IsRange s₁.heap r 0 n 1 t u v ∧ 1 ≤ s₁.toks ∧
      (∀ (i : Nat) t I oI C oC D oD m₂ h tk (E' : Value → Shared → Prop), i < n → LCg.NsObj oC m₂ → m₂ x = some (.int (i : Int) t) → Fr h₀ L h m → News h₀ L h ((I, oI) :: (C, oC) :: (D, oD) :: news) → LCg.Off3 I C D news → ((@Ne Nat I C) ∧ (@Ne Nat I D) ∧ (@Ne Nat C D)) → 1 ≤ tk →
        wpAny (model prog w) A (eval kx (compEnvC scope cl C env)) (fun kv s₄ => wpAny (model prog w) A (eval vx (compEnvC scope cl C env)) (DEnd h₀ L m { s₁ with heap := h, toks := tk } I oI C oC D oD news (G i) kv) E' s₄) E' { s₁ with heap := h, toks := tk }) ∧
      (∀ D oD h tk, L < D → Fr h₀ L h m → News h₀ L h ((D, oD) :: news) → LCg.Off1 D news → TabO prog w oD ((List.range n).map G) → 1 ≤ tk → Q (.ref D) { s₁ with heap := h, toks := tk })) E s)
    (hs : ∀ x, foldedSetIterable iter env x = pure x := by intro _; rfl) :
    wpAny (model prog w) A (eval (.DictComp kx vx [⟨.Name x px, iter, [], 0⟩] scope pos) env) Q E s := by
  rw [arm_eval_DictComp]
  refine wpAny_comprehension_free (use := none) rfl hs hclos hkind hnames (wpAny_mono h (fun xv s₁ h₁ => ?_) fun _ _ e => e)
  obtain ⟨r, t, u, v, news, rfl, hh, F, N, hr, hpos, turn, fin⟩ := h₁
  have hsm : Builtin.Range.small 0 (n : Int) 1 = true := small_one (by omega) (by omega) (by omega) (by omega)
  have hrs : Builtin.Range.rangeSize 0 (n : Int) 1 = (n : Int) := by rw [rangeSize_nat]; omega
  refine wpAny_pyIter_range hr hsm ?_
  have W := LCg.range_walks (prog := prog) (w := w) (I := s₁.heap.objs.size) hh 0 n
  generalize hs₂ : ({ s₁ with heap := s₁.heap.push _ } : Shared) = s₂
  have hst0 : IsRangeIter s₂.heap s₁.heap.objs.size ((0 : Int) + ((0 : Nat) : Int) * 1) ((n : Int) - ((0 : Nat) : Int)) 1 := by
    rw [← hs₂]
    show IsRangeIter _ _ _ _ _
    rw [hrs]; simpa using Heap.get?_push_size _ rfl
  have hfp : ∀ b ∈ [s₁.heap.objs.size], b < s₂.heap.objs.size := by
    intro b hb
    rw [List.mem_singleton.mp hb, ← hs₂]
    show s₁.heap.objs.size < (s₁.heap.push _).objs.size
    rw [Heap.size_push]; exact Nat.lt_succ_self _
  have F2 : Fr h₀ L s₂.heap m := by rw [← hs₂]; exact F.keeps fun _ _ e => Heap.get?_push_of_some _ e
  have N2 : News h₀ L s₂.heap news := by rw [← hs₂]; exact N.grown fun _ _ e => Heap.get?_push_of_some _ e
  have hIL : L ≠ s₁.heap.objs.size := Nat.ne_of_lt F.ns.lt
  have hI₀ : h₀.get? s₁.heap.objs.size = none := next_is_new F
  have off : ∀ p ∈ news, p.1 ≠ s₁.heap.objs.size := fun p hp => Nat.ne_of_lt (Heap.lt_size (N p hp).1)
  have e12 : ∀ h tk, ({ s₂ with heap := h, toks := tk } : Shared) = { s₁ with heap := h, toks := tk } := by intro h tk; rw [← hs₂]
  have hpos2 : 1 ≤ s₂.toks := by rw [← hs₂]; exact hpos
  clear hs₂ hr hsm hrs F N h
  revert hst0 hfp hIL hI₀ off W
  generalize s₁.heap.objs.size = I
  intro W hst hfp hIL hI₀ off
  refine wpAny_newObj_type (wpAny_newFunctionEnv hcell (by intro y hy; simp at hy) (fun h₁ hns₁ hsb₁ => ?_) hkind)
  dsimp only at hns₁ hsb₁ ⊢
  generalize hH2 : s₂.heap.push { cls := .type "dict", dict := none, data := .dict #[] } = H2 at hns₁ hsb₁ ⊢
  have hC : H2.objs.size = s₂.heap.objs.size + 1 := by rw [← hH2, Heap.size_push]
  have hDC : s₂.heap.objs.size ≠ H2.objs.size := by rw [hC]; exact Nat.ne_of_lt (Nat.lt_succ_self _)
  have below : ∀ b, b < s₂.heap.objs.size → b ≠ H2.objs.size ∧ b ≠ s₂.heap.objs.size := fun b hb => ⟨by rw [hC]; exact Nat.ne_of_lt (Nat.lt_succ_of_lt hb), Nat.ne_of_lt hb⟩
  have hDf : s₂.heap.objs.size ∉ [I] := fun hm => Nat.lt_irrefl _ (hfp _ hm)
  have hCf : H2.objs.size ∉ [I] := fun hm => by have := hfp _ hm; rw [hC] at this; exact Nat.lt_irrefl _ (Nat.lt_of_succ_lt this)
  have hIlt : I < s₂.heap.objs.size := hfp I (List.mem_singleton.mpr rfl)
  have old : ∀ b o, s₂.heap.get? b = some o → h₁.get? b = some o := fun b o e => hsb₁.extBut b o (below b (Heap.lt_size e)).1 (Heap.get?_push_of_some _ (hH2 ▸ Heap.get?_push_of_some _ e))
  have hacc : h₁.get? s₂.heap.objs.size = some { cls := .type "dict", dict := none, data := .dict #[] } := hsb₁.extBut _ _ hDC (Heap.get?_push_of_some _ (hH2 ▸ Heap.get?_push_size _ rfl))
  have hst₁ := W.frame _ _ _ hst fun b _ o e => old b o e
  have fresh : ∀ a, s₂.heap.objs.size ≤ a → s₂.heap.get? a = none := fun a ha => by
    cases e : s₂.heap.get? a with
    | none => rfl
    | some o' => exact absurd (Heap.lt_size e) (Nat.not_lt.mpr ha)
  have fresh₀ : ∀ a, s₂.heap.objs.size ≤ a → h₀.get? a = none := fun a ha => by
    cases e : h₀.get? a with
    | none => rfl
    | some o' => have := F2.keep a o' e; rw [fresh a ha] at this; cases this
  have hD₀ : h₀.get? s₂.heap.objs.size = none := fresh₀ _ (Nat.le_refl _)
  have hC₀ : h₀.get? H2.objs.size = none := fresh₀ _ (by rw [hC]; exact Nat.le_succ _)
  have hLlt : L < s₂.heap.objs.size := F2.ns.lt
  have hDL : s₂.heap.objs.size ≠ L := Ne.symm (below L hLlt).2
  have hCL : H2.objs.size ≠ L := Ne.symm (below L hLlt).1
  have hCI : I ≠ H2.objs.size := (below I hIlt).1
  have hDI : I ≠ s₂.heap.objs.size := (below I hIlt).2
  have off₀ : LCg.Off3 I H2.objs.size s₂.heap.objs.size news := LCg.Off3.of fun p hp => ⟨off p hp, (below _ (Heap.lt_size (N2 p hp).1)).1, (below _ (Heap.lt_size (N2 p hp).1)).2⟩
  have off3 := off₀.mem
  have loop : ∀ s₃ : Shared, s₃ = { s₂ with heap := h₁, toks := s₂.toks + ([] : List (Str × Value)).length } →
      codeAny (model prog w) A (.compLoop (.DictComp kx vx [⟨.Name x px, iter, [], 0⟩] scope pos) 0 (.ref I) (.ref s₂.heap.objs.size) (compEnvC scope cl H2.objs.size env))
        (compPost (model prog w) A E none Q (.ref s₂.heap.objs.size) H2.objs.size) s₃ := by
    rintro s₃ rfl
    refine codeAny_compLoop_testsD
      (fun k s' => ∃ h' tk i oD m', s' = { s₂ with heap := h', toks := tk } ∧ i ≤ n ∧ k = n + 1 - i ∧ IsRangeIter h' I ((0 : Int) + (i : Nat) * 1) ((n : Int) - (i : Nat)) 1 ∧ Fr h₀ L h' m ∧ h'.Ns H2.objs.size m' ∧ News h₀ L h' ((s₂.heap.objs.size, oD) :: news) ∧
        TabO prog w oD ((List.range i).map G) ∧ 1 ≤ tk) ?_ (n + 1)
      ⟨h₁, _, 0, _, _, rfl, Nat.zero_le _, rfl, hst₁, F2.keeps old, hns₁, ?_, TabO.new, hpos2⟩
    · rintro k s' ⟨h', tk, i, oD, m', rfl, hi, rfl, hst', F', hn', N', ht, hp1⟩
      by_cases hlt : i < n
      · refine wpAny_mono (wpAny_toks_of (n := 1) hp1 (W.item i _ (fun r s₃ => ∃ v h₂ tk₂, r = some v ∧ s₃ = { s₂ with heap := h₂, toks := tk₂ } ∧ (∃ t, v = .int (0 + (i : Int)) t) ∧ IsRangeIter h₂ I ((0 : Int) + ((i + 1 : Nat) : Int) * 1) ((n : Int) - ((i + 1 : Nat) : Int)) 1 ∧ ∀ b o, b ∉ [I] → h'.get? b = some o → h₂.get? b = some o) _ hlt hst' fun v h₂ tk₂ hPv hst₂ hk₂ => ⟨v, h₂, tk₂, rfl, rfl, hPv, hst₂, hk₂⟩)) (fun r s₃ hq => ?_) fun _ _ e => e.2
        obtain ⟨hp2, v, h₂, tk₂, rfl, rfl, ⟨tv, rfl⟩, hst₂, hk₂⟩ := hq
        refine wpAny_assign_Name (wpAny_storeName_local (lookup_relabel_local hx) (hn'.at' fun o e => hk₂ _ o (by simpa using Ne.symm hCI) e) (fun h₃ hn₃ hs₃ => ?_) (by simp [compEnvC, relabel, hkind]))
        refine wpAny_tests_nil ?_
        simp only [if_true]
        have hst₃ := W.frame _ _ h₃ hst₂ fun b hb o e => hs₃.extBut b o (fun q => hCf (by have q' : b = H2.objs.size := q; rw [← q']; exact hb)) e
        obtain ⟨oI, heI⟩ : ∃ oI, h₃.get? I = some oI := ⟨_, hst₃⟩
        obtain ⟨oC, heC, hoC⟩ := LCg.ns_obj hn₃
        have F₃ : Fr h₀ L h₃ m := (LCg.fr_but F' hk₂ hIL hI₀).change hs₃ hCL hC₀
        have N₂ : News h₀ L h₂ ((s₂.heap.objs.size, oD) :: news) := LCg.news_but N' hk₂ fun p hp => by
          rcases List.mem_cons.mp hp with rfl | hp
          · exact Ne.symm hDI
          · exact (off3 p hp).1
        have N₃ : News h₀ L h₃ ((I, oI) :: (H2.objs.size, oC) :: (s₂.heap.objs.size, oD) :: news) := fun p hp => by
          rcases List.mem_cons.mp hp with rfl | hp
          · exact ⟨heI, Ne.symm hIL, hI₀⟩
          · rcases List.mem_cons.mp hp with rfl | hp
            · exact ⟨heC, hCL, hC₀⟩
            · have z := N₂ p hp
              refine ⟨hs₃.extBut _ _ ?_ z.1, z.2⟩
              rcases List.mem_cons.mp hp with rfl | hp
              · exact hDC
              · exact (off3 p hp).2.1
        have T := turn i tv I oI H2.objs.size oC s₂.heap.objs.size oD _ h₃ (tk₂ + 1) (notedBy (model prog w) A (compEnvC scope cl H2.objs.size env) fun e s' => compPost (model prog w) A E none Q (.ref s₂.heap.objs.size) H2.objs.size (.error e) s') hlt hoC (by simp) F₃ N₃ off₀ ⟨hCI, hDI, Ne.symm hDC⟩ (Nat.le_add_left 1 tk₂)
        rw [← e12] at T
        refine wpAny_mono (wpAny_toks_of (n := 1) (Nat.le_add_left 1 tk₂) T) (fun kv s₄ q₄ => ?_) fun _ _ e => e.2
        refine wpAny_mono (wpAny_toks_of (n := 1) q₄.1 q₄.2) (fun vv s₅ q₅ => ?_) fun _ _ e => e.2
        obtain ⟨hp5, h₅, tk₅, u, v, e₅, rfl, rfl, hu, hv, huv, F₅, N₅⟩ := q₅
        have e₅' : s₅ = { s₂ with heap := h₅, toks := tk₅ } := by rw [e₅]
        subst e₅'
        clear e₅
        have hfr : (G i).1 ∉ ((List.range i).map G).map (·.1) := by
          have hlen : i < (((List.range n).map G).map (·.1)).length := by simp [hlt]
          intro hm
          rw [List.map_map] at hm
          obtain ⟨j, hj, hje⟩ := List.mem_map.mp hm
          have hji := List.mem_range.mp hj
          have hpw := List.pairwise_iff_getElem.mp hG j i (by simp; omega) hlen hji
          simp at hpw
          exact hpw (by simpa using hje)
        have zI := (N₅ (I, oI) List.mem_cons_self).1
        have zC := (N₅ (H2.objs.size, oC) (List.mem_cons_of_mem _ List.mem_cons_self)).1
        have zD := (N₅ (s₂.heap.objs.size, oD) (List.mem_cons_of_mem _ (List.mem_cons_of_mem _ List.mem_cons_self))).1
        refine setFresh zD ht hfr hu hv huv (by simp; omega) fun h₆ o₆ g1 g2 hs₆ => ?_
        refine ⟨n + 1 - (i + 1), by omega, h₆, tk₅ + 1, i + 1, o₆, _, rfl, hlt, rfl, ?_, F₅.change hs₆ hDL hD₀, (hoC.ns zC).sameBut hs₆ (Ne.symm hDC), fun p hp => ?_, ?_, Nat.le_add_left 1 tk₅⟩
        · have st5 : IsRangeIter h₃ I ((0 : Int) + ((i + 1 : Nat) : Int) * 1) ((n : Int) - ((i + 1 : Nat) : Int)) 1 := hst₃
          show h₆.get? I = some _
          have e7 : h₃.get? I = some _ := st5
          rw [heI] at e7
          rw [← e7]
          exact hs₆.extBut _ _ hDI zI
        · rcases List.mem_cons.mp hp with rfl | hp
          · exact ⟨g1, hDL, hD₀⟩
          · have z := N₅ p (List.mem_cons_of_mem _ (List.mem_cons_of_mem _ (List.mem_cons_of_mem _ hp)))
            exact ⟨hs₆.extBut _ _ (off3 p hp).2.2 z.1, z.2⟩
        · rw [List.range_succ, List.map_append]
          exact g2
      · obtain rfl : i = n := Nat.le_antisymm hi (Nat.not_lt.mp hlt)
        refine wpAny_mono (wpAny_toks_of (n := 1) hp1 (W.done _ (fun r s₃ => r = none ∧ ∃ h₂ tk₂, s₃ = { s₂ with heap := h₂, toks := tk₂ } ∧ ∀ b o, b ∉ [I] → h'.get? b = some o → h₂.get? b = some o) _ hst' fun h₂ tk₂ hk₂ => ⟨rfl, h₂, tk₂, rfl, hk₂⟩)) (fun r s₃ hq => ?_) fun _ _ e => e.2
        obtain ⟨hp2, rfl, h₂, tk₂, rfl, hk₂⟩ := hq
        have F₂ := LCg.fr_but F' hk₂ hIL hI₀
        have N₂ : News h₀ L h₂ ((s₂.heap.objs.size, oD) :: news) := LCg.news_but N' hk₂ fun p hp => by
          rcases List.mem_cons.mp hp with rfl | hp
          · exact Ne.symm hDI
          · exact (off3 p hp).1
        refine ⟨_, hn'.at' fun o e => hk₂ _ o (by simpa using Ne.symm hCI) e, fun h₉ hs₉ => ?_⟩
        have fin' := fin s₂.heap.objs.size oD h₉ tk₂ hLlt (F₂.change hs₉ hCL hC₀) (fun p hp => ?_) off₀.one ht hp2
        · rw [← e12] at fin'
          exact fin'
        · refine ⟨hs₉.extBut _ _ ?_ (N₂ p hp).1, (N₂ p hp).2⟩
          rcases List.mem_cons.mp hp with rfl | hp
          · exact hDC
          · exact (off3 p hp).2.1
    · intro p hp
      rcases List.mem_cons.mp hp with rfl | hp
      · exact ⟨hacc, hDL, hD₀⟩
      · exact ⟨old _ _ (N2 p hp).1, (N2 p hp).2⟩
  exact codeAny_compStart_dict (loop _ rfl) (W.self 0 _ _ _ hst₁ (loop _ rfl))
end
end Mine
namespace Mine
abbrev emptyD : Obj := { cls := .type "dict", data := .dict #[] }
section
variable {prog : Program} {w : World} {A : Around} {E : Value → Shared → Prop} {s : Shared} {h₀ : Heap} {L : Addr} {m : Str → Option Value} {news : List (Addr × Obj)}
/-- the trees of a written text: its token is the next one -/
def TextTree (prog : Program) (w : World) (A : Around) (E : Value → Shared → Prop) (c : Sem Value) (x : Str) : Prop :=
  ∀ (s : Shared) (Q : Value → Shared → Prop), Q (.str x s.toks) { s with toks := s.toks + 1 } → wpAny (model prog w) A c Q E s
theorem fr_same {h h' : Heap} {d : Addr} (F : Fr h₀ L h m) (hs : Heap.SameBut d h h') (hd : d ≠ L) (hd0 : h₀.get? d = none) : Fr h₀ L h' m := F.change hs hd hd0
theorem subDict_R {k1 v1 k2 v2 : Sem Value} {K1 V1 K2 V2 : Str} {Q : Addr → Shared → Prop} (F : Fr h₀ L s.heap m) (N : News h₀ L s.heap news)
    (hk1 : TextTree prog w A E k1 K1) (hv1 : TextTree prog w A E v1 V1) (hk2 : TextTree prog w A E k2 K2) (hv2 : TextTree prog w A E v2 V2) (h12 : K1 ≠ K2) (hp : 1 ≤ s.toks)
    (h : ∀ D oD h' tk', L < D → Fr h₀ L h' m → News h₀ L h' ((D, oD) :: news) → (∀ p ∈ news, p.1 < D) → TabO prog w oD [(K1, V1), (K2, V2)] → 1 ≤ tk' → Q D { s with heap := h', toks := tk' }) :
    wpAny (model prog w) A (subDict [(k1, v1), (k2, v2)]) Q E s := by
  unfold subDict
  refine wpAny_bind (wpAny_alloc ?_)
  refine wpAny_bind (wpAny_holding ?_)
  rw [if_pos (by simp)]
  have hD : L < s.heap.objs.size := F.ns.lt
  have hD0 : h₀.get? s.heap.objs.size = none := next_is_new F
  have F1 : Fr h₀ L (s.heap.push emptyD) m := F.push _
  have N1 : News h₀ L (s.heap.push emptyD) ((s.heap.objs.size, emptyD) :: news) := News.push F N _
  have low : ∀ p ∈ news, p.1 < s.heap.objs.size := fun p hp => Heap.lt_size (N p hp).1
  refine wpAny_bind (show wpAny (model prog w) A (evalPairs [(k1, v1), (k2, v2)]) _ _ _ from ?_)
  unfold evalPairs
  refine wpAny_bind (hk1 _ _ (wpAny_bind (wpAny_holding (hv1 _ _ (wpAny_bind (wpAny_holding ?_))))))
  unfold evalPairs
  refine wpAny_bind (hk2 _ _ (wpAny_bind (wpAny_holding (hv2 _ _ (wpAny_bind (wpAny_holding ?_))))))
  unfold evalPairs
  refine wpAny_pure (wpAny_pure (wpAny_pure ?_))
  refine wpAny_holding ?_
  dsimp only
  refine wpAny_bind ?_
  rw [List.forIn_cons]
  refine wpAny_bind (wpAny_bind ?_)
  refine setFresh (N1.get (.head _)) TabO.new (by simp) (show s.toks ≠ 0 by omega) (show s.toks + 1 ≠ 0 by omega) (show s.toks ≠ s.toks + 1 by omega) (by simp) fun h1 o1 g1 t1 s1 => ?_
  refine wpAny_pure ?_
  dsimp only
  rw [List.forIn_cons]
  refine wpAny_bind (wpAny_bind ?_)
  refine setFresh (s := ⟨h1, _, _, _, _⟩) g1 t1 (by simpa using Ne.symm h12) (show s.toks + 1 + 1 ≠ 0 by omega) (show s.toks + 1 + 1 + 1 ≠ 0 by omega) (show s.toks + 1 + 1 ≠ s.toks + 1 + 1 + 1 by omega) (by simp) fun h2 o2 g2 t2 s2 => ?_
  refine wpAny_pure ?_
  dsimp only
  rw [List.forIn_nil]
  refine wpAny_pure (wpAny_pure (wpAny_pure ?_))
  have s12 : Heap.SameBut s.heap.objs.size (s.heap.push emptyD) h2 := s1.trans s2
  refine h _ o2 h2 _ hD (F1.change s12 (Nat.ne_of_gt hD) hD0) (fun p hp => ?_) low t2 (by omega)
  rcases List.mem_cons.mp hp with rfl | hp
  · exact ⟨g2, Nat.ne_of_gt hD, hD0⟩
  · have z := N1 p (List.mem_cons_of_mem _ hp)
    exact ⟨s12.extBut _ _ (Nat.ne_of_lt (low p hp)) z.1, z.2⟩
theorem display_R {c0 k1 v1 k2 v2 : Sem Value} {K1 V1 K2 V2 : Str} {l : List (Str × Str)} {Q : Value → Shared → Prop} (F : Fr h₀ L s.heap m) (N : News h₀ L s.heap news) (hbig : h₀.NoLimit)
    (hk1 : ∀ E, TextTree prog w A E k1 K1) (hv1 : ∀ E, TextTree prog w A E v1 V1) (hk2 : ∀ E, TextTree prog w A E k2 K2) (hv2 : ∀ E, TextTree prog w A E v2 V2) (hn : ((l ++ [(K1, V1), (K2, V2)]).map (·.1)).Nodup) (hl : l.length ≤ 100)
    (hc : ∀ D h', L < D → (∀ p ∈ news, p.1 < D) → Fr h₀ L h' m → News h₀ L h' ((D, emptyD) :: news) →
      wpAny (model prog w) A c0 (fun mv s₁ => ∃ a oa h₁ tk₁, mv = .ref a ∧ s₁ = { s with heap := h₁, toks := tk₁ } ∧ L < a ∧ a ≠ D ∧ (∀ p ∈ news, p.1 ≠ a) ∧ Fr h₀ L h₁ m ∧ News h₀ L h₁ ((a, oa) :: (D, emptyD) :: news) ∧ TabO prog w oa l ∧ 1 ≤ tk₁) E { s with heap := h' })
    (h : ∀ D oD h' tk', L < D → (∀ p ∈ news, p.1 < D) → Fr h₀ L h' m → News h₀ L h' ((D, oD) :: news) → TabO prog w oD (l ++ [(K1, V1), (K2, V2)]) → 1 ≤ tk' → Q (.ref D) { s with heap := h', toks := tk' }) :
    wpAny (model prog w) A (dictDisplay [(none, c0), (some k1, v1), (some k2, v2)]) Q E s := by
  unfold dictDisplay
  dsimp only
  rw [List.forIn_cons]
  simp only [List.isEmpty_nil, if_true, pure_bind, bind_pure_comp]
  refine wpAny_bind (wpAny_bind (wpAny_bind (wpAny_alloc ?_)))
  have hD : L < s.heap.objs.size := F.ns.lt
  have hD0 : h₀.get? s.heap.objs.size = none := next_is_new F
  have low : ∀ p ∈ news, p.1 < s.heap.objs.size := fun p hp => Heap.lt_size (N p hp).1
  have hLs : ∀ a, L < a → (a == sysModules) = false := fun a ha => by
    have h1 := modules_low hbig
    have h2 := F.above
    exact beq_eq_false_iff_ne.mpr (Nat.ne_of_gt (Nat.lt_trans h1 (Nat.lt_of_le_of_lt h2 ha)))
  refine wpAny_bind (wpAny_holding (wpAny_mono (hc s.heap.objs.size (s.heap.push emptyD) hD low (F.push _) (News.push F N _)) ?_ fun _ _ e => e))
  rintro mv s₁ ⟨a, oa, h₁, tk₁, rfl, rfl, hLa, haD, hna, F₁, N₁, ta, hp⟩
  have hnl : (l.map (·.1)).Nodup := by
    rw [List.map_append, List.nodup_append] at hn
    exact hn.1
  refine wpAny_map ?_
  refine wpAny_onRaise (wpAny_tryCatch (wpAny_onRaise (wpAny_holding ?_)))
  refine mergeFresh (s := ⟨h₁, _, _, _, _⟩) (Ne.symm haD) (hLs a hLa) (N₁.get (.tail _ (.head _))) TabO.new (N₁.get (.head _)) ta (by simpa using hnl) (by simp; omega) fun h₂ o₂ g₂ t₂ s₂ => ?_
  rw [List.nil_append] at t₂
  have F₂ : Fr h₀ L h₂ m := F₁.change s₂ (Nat.ne_of_gt hD) hD0
  have N₂ : News h₀ L h₂ ((s.heap.objs.size, o₂) :: news) := fun p hp => by
    rcases List.mem_cons.mp hp with rfl | hp
    · exact ⟨g₂, Nat.ne_of_gt hD, hD0⟩
    · have z := N₁ p (List.mem_cons_of_mem _ (List.mem_cons_of_mem _ hp))
      exact ⟨s₂.extBut _ _ (Nat.ne_of_lt (low p hp)) z.1, z.2⟩
  dsimp only
  rw [List.forIn_cons]
  dsimp only
  have l1 : (([] ++ [(k1, v1)] : List (Sem Value × Sem Value)).length == 17) = false := by simp
  rw [l1]
  simp only [Bool.false_eq_true, if_false, pure_bind]
  rw [List.forIn_cons]
  dsimp only
  have l2 : (([] ++ [(k1, v1)] ++ [(k2, v2)] : List (Sem Value × Sem Value)).length == 17) = false := by simp
  rw [l2]
  simp only [Bool.false_eq_true, if_false, pure_bind]
  rw [List.forIn_nil]
  refine wpAny_pure ?_
  dsimp only
  simp only [List.nil_append, List.cons_append, List.isEmpty_cons, Bool.false_eq_true, if_false]
  refine wpAny_bind (wpAny_bind (wpAny_holding (subDict_R (s := ⟨h₂, _, _, _, _⟩) F₂ N₂ (hk1 _) (hv1 _) (hk2 _) (hv2 _) ?_ hp fun D oD h₃ tk₃ hLD F₃ N₃ low₃ t₃ hp₃ => ?_)))
  · intro e
    rw [List.map_append, List.nodup_append] at hn
    have := hn.2.1
    simp at this
    exact this e
  · refine wpAny_map ?_
    refine wpAny_onRaise (wpAny_holding ?_)
    have hDD : s.heap.objs.size ≠ D := Nat.ne_of_lt (low₃ _ (.head _))
    refine mergeFresh (s := ⟨h₃, _, _, _, _⟩) hDD (hLs D hLD) (N₃.get (.tail _ (.head _))) t₂ (N₃.get (.head _)) t₃ hn (by simp; omega) fun h₄ o₄ g₄ t₄ s₄ => ?_
    refine wpAny_pure ?_
    refine h _ o₄ h₄ tk₃ hD low (F₃.change s₄ (Nat.ne_of_gt hD) hD0) (fun p hp => ?_) t₄ hp₃
    rcases List.mem_cons.mp hp with rfl | hp
    · exact ⟨g₄, Nat.ne_of_gt hD, hD0⟩
    · have z := N₃ p (List.mem_cons_of_mem _ (List.mem_cons_of_mem _ hp))
      exact ⟨s₄.extBut _ _ (Nat.ne_of_lt (low p hp)) z.1, z.2⟩
end
end Mine
namespace Mine
section
variable {prog : Program} {w : World} {A : Around} {E : Value → Shared → Prop} {s : Shared}
theorem nextItem {it d : Addr} {i n ep : Nat} {od : Obj} {es : Array DictEntry} {ok ov : Value} {Q : Option Value → Shared → Prop} (hit : IsItemIter s.heap it d i n ep ok ov)
    (hod : s.heap.get? d = some od) (hdd : od.data = .dict es ep) (hsz : es.size = n) (hlt : i < es.size)
    (hQ : ∀ h', IsItemIterOut h' it d (i + 1) n ep es[i].key es[i].val s.heap.objs.size →
      h'.get? s.heap.objs.size = some { cls := .type "tuple", data := .seq #[es[i].key, es[i].val] } → h'.objs.size = s.heap.objs.size + 1 →
      (∀ b o, b ≠ it → s.heap.get? b = some o → h'.get? b = some o) → Q (some (.ref s.heap.objs.size)) { s with heap := h' }) :
    wpAny (model prog w) A (pyNext (.ref it)) Q E s := by
  obtain ⟨hp, g, dr, tk, os⟩ := s
  have hT : Shared.TypeIs ⟨hp, g, dr, tk, os⟩ (.ref it) "dict_itemiterator" := ⟨_, hit, rfl⟩
  unfold pyNext
  refine wpAny_bind (wpAny_attempt (wpAny_callSpecial?_slot (name := Str.ofString "__next__") hT PySem.F.slot_dict_itemiterator_next
    (wpAny_call_entry PySem.F.slot_dict_itemiterator_next hT PySem.F.entry_dict_itemiterator_next ?_ (PySem.F.args_dict_itemiterator_next_1 _))))
  refine wpAny_bind (wpAny_pure (wpAny_bind (wpAny_bind ?_)))
  first
    | refine wpAny_bind (wpAny_typeNameOfWhole_itemiter hT (wpAny_pure ?_))
    | refine wpAny_bind (wpAny_typeNameOf_itemiter hT (wpAny_pure ?_))
  refine wpAny_bind (wpAny_fieldsOf hit rfl ?_)
  simp only [show Builtin.Dict_items.ownsTuple "dict_itemiterator" = true from by decide, if_true]
  refine wpAny_ite ?_
  rw [if_neg (show ¬ ((Value.ref d == Value.none) = true) from Bool.false_ne_true)]
  refine wpAny_bind (wpAny_pure (wpAny_bind (wpAny_dictEntries hod hdd ?_)))
  refine wpAny_ite ?_
  rw [if_neg (by rw [hsz]; simp)]
  refine wpAny_bind (wpAny_pure (wpAny_bind (wpAny_dictEpoch hod hdd ?_)))
  refine wpAny_ite ?_
  rw [if_neg (by simp)]
  refine wpAny_pure ?_
  simp only [show ¬ ((i : Int) < 0) from by omega, if_false, Int.toNat_natCast, Array.getElem?_eq_getElem hlt]
  refine wpAny_bind ?_
  first
    | refine wpAny_bind (wpAny_typeNameOfWhole_itemiter hT (wpAny_pure ?_))
    | refine wpAny_bind (wpAny_typeNameOf_itemiter hT (wpAny_pure ?_))
  refine wpAny_bind (wpAny_isOneOf_itemiter hT ?_)
  show wpAny _ _ (setField (.ref it) 3 (rawInt ((i : Int) + 1)) >>= _) _ _ _
  refine wpAny_bind (wpAny_setField_rec hit (by simp) fun h₁ he₁ hs₁ => ?_)
  replace hs₁ : Heap.SameBut it hp h₁ := hs₁
  have he₁' : IsItemIter h₁ it d (i + 1) n ep ok ov := by
    have e : ((i + 1 : Nat) : Int) = (i : Int) + 1 := by omega
    unfold IsItemIter; rw [e]; simpa [rawInt] using he₁
  clear he₁
  have hT₁ : Shared.TypeIs ⟨h₁, g, dr, tk, os⟩ (.ref it) "dict_itemiterator" := ⟨_, he₁', rfl⟩
  refine wpAny_bind (wpAny_holding ?_)
  refine wpAny_bind (wpAny_isOneOf_itemiter hT₁ (wpAny_bind (wpAny_isOneOf_itemiter hT₁ ?_)))
  show wpAny _ _ (Builtin.Dict_items.pairFromOwner (.ref it) 6 es[i].key es[i].val) _ _ _
  unfold Builtin.Dict_items.pairFromOwner
  refine wpAny_bind (wpAny_newTuple ?_)
  have hil : it < hp.objs.size := Heap.lt_size hit
  have hz₁ : h₁.objs.size = hp.objs.size := hs₁.1
  have he₂ : IsItemIter (h₁.push { cls := .type "tuple", data := .seq #[es[i].key, es[i].val] }) it d (i + 1) n ep ok ov := Heap.get?_push_of_some _ he₁'
  have ht₂ : (h₁.push { cls := .type "tuple", data := .seq #[es[i].key, es[i].val] }).get? hp.objs.size = some { cls := .type "tuple", data := .seq #[es[i].key, es[i].val] } := hz₁ ▸ Heap.get?_push_size h₁ rfl
  have hz₂ : (h₁.push { cls := .type "tuple", data := .seq #[es[i].key, es[i].val] }).objs.size = hp.objs.size + 1 := by rw [Heap.size_push, hz₁]
  have hk₂ : ∀ b o, b ≠ it → hp.get? b = some o → (h₁.push { cls := .type "tuple", data := .seq #[es[i].key, es[i].val] }).get? b = some o := fun b o hb e => Heap.get?_push_of_some _ (hs₁.extBut b o hb e)
  rw [← hz₁] at hQ ht₂ hz₂
  show wpAny _ _ (Builtin.Dict_items.ownedTupleIsFree (.ref it) >>= _) _ _ _
  revert he₂ ht₂ hz₂ hk₂
  generalize h₁.push { cls := .type "tuple", data := .seq #[es[i].key, es[i].val] } = h₂
  intro he₂ ht₂ hz₂ hk₂
  have hne : it ≠ h₁.objs.size := by rw [hz₁]; exact Nat.ne_of_lt hil
  refine wpAny_bind ?_
  unfold Builtin.Dict_items.ownedTupleIsFree
  refine wpAny_bind (wpAny_field he₂ rfl (x := .none) rfl (wpAny_pure ?_))
  simp only [if_true]
  refine wpAny_bind (wpAny_field he₂ rfl (x := ok) rfl (wpAny_bind (wpAny_field he₂ rfl (x := ov) rfl ?_)))
  refine wpAny_bind (wpAny_setField_rec he₂ (by simp) fun h₃ he₃ hs₃ => ?_)
  replace hs₃ : Heap.SameBut it h₂ h₃ := hs₃
  replace he₃ : IsItemIter h₃ it d (i + 1) n ep es[i].key ov := he₃
  refine wpAny_bind (wpAny_setField_rec he₃ (by simp) fun h₄ he₄ hs₄ => ?_)
  replace hs₄ : Heap.SameBut it h₃ h₄ := hs₄
  replace he₄ : IsItemIter h₄ it d (i + 1) n ep es[i].key es[i].val := he₄
  refine wpAny_bind (wpAny_setField_rec he₄ (by simp) fun h₅ he₅ hs₅ => ?_)
  replace hs₅ : Heap.SameBut it h₄ h₅ := hs₅
  replace he₅ : IsItemIterOut h₅ it d (i + 1) n ep es[i].key es[i].val h₁.objs.size := he₅
  refine wpAny_bind (wpAny_setField_rec he₅ (by simp) fun h₆ he₆ hs₆ => ?_)
  replace hs₆ : Heap.SameBut it h₅ h₆ := hs₆
  replace he₆ : IsItemIterOut h₆ it d (i + 1) n ep es[i].key es[i].val h₁.objs.size := he₆
  have hs : Heap.SameBut it h₂ h₆ := ((hs₃.trans hs₄).trans hs₅).trans hs₆
  refine wpAny_bind (wpAny_letGo (wpAny_pure (wpAny_pure ⟨_, rfl, wpAny_pure ?_⟩)))
  refine hQ h₆ ?_ ?_ ?_ fun b o hb e => hs.extBut b o hb (hk₂ b o hb e)
  · exact he₆
  · exact hs.extBut _ _ (Ne.symm hne) ht₂
  · exact hs.1.trans hz₂
end
end Mine
namespace Mine
def ItEnd (h₀ : Heap) (L : Addr) (s : Shared) (led : List (Addr × Obj)) (J : (Str → Option Value) → Prop) (f : Flow) (s₄ : Shared) : Prop :=
  f = .next ∧ ∃ h' tk' m₂, s₄ = { s with heap := h', toks := tk' } ∧ Fr h₀ L h' m₂ ∧ News h₀ L h' led ∧ J m₂
theorem ItEnd.intro {h₀ h' : Heap} {L : Addr} {s : Shared} {led : List (Addr × Obj)} {J : (Str → Option Value) → Prop} {m₂ : Str → Option Value} {tk' : Nat} (F : Fr h₀ L h' m₂) (N : News h₀ L h' led) (hJ : J m₂) :
    ItEnd h₀ L s led J .next { s with heap := h', toks := tk' } := ⟨rfl, h', tk', m₂, rfl, F, N, hJ⟩
section
variable {prog : Program} {w : World} {A : Around} {E : Value → Shared → Prop} {s : Shared} {h₀ : Heap} {env : Env} {Q : Flow → Shared → Prop}
theorem rawTurns {elts : List Expr} {kk : Nat} {pos : Pos} (hh : A.handled = none) (I d : Addr) (hne : d ≠ I) {od : Obj} {l : List (Str × Str)} {es : Array DictEntry} {ep : Nat} (ht : TabO prog w od l) (hd : od.data = .dict es ep) :
    KTurns prog w A (.Tuple elts kk pos) I [I, d] [I] l.length
      (fun i v h => ∃ T e, v = .ref T ∧ es[i]? = some e ∧ h.IsTuple T #[e.key, e.val])
      (fun i v h => ∃ T e ok ov, v = .ref T ∧ es[i]? = some e ∧ h.IsTuple T #[e.key, e.val] ∧ IsItemIterOut h I d (i + 1) l.length ep ok ov T ∧ h.get? d = some od ∧ T ≠ I)
      (fun i h => (∃ ok ov, IsItemIter h I d i l.length ep ok ov) ∧ h.get? d = some od) where
  sub := fun b hb => by simp at hb; simp [hb]
  frame := fun i h h' st hk => by
    obtain ⟨⟨ok, ov, he⟩, hm⟩ := st
    exact ⟨⟨ok, ov, hk I (by simp) _ he⟩, hk d (by simp) _ hm⟩
  item := fun i s Q E hi st hQ => by
    obtain ⟨⟨ok, ov, he⟩, hm⟩ := st
    obtain ⟨es', ep', _, hd', hen, _⟩ := id ht
    rw [hd] at hd'
    injection hd' with e1 e2
    subst e1 e2
    have hsz : es.size = l.length := by have := hen.1; rwa [Array.length_toList] at this
    refine nextItem he hm hd hsz (by omega) fun h' ho hT hz hk => ?_
    exact hQ (.ref s.heap.objs.size) h' s.toks ⟨s.heap.objs.size, es[i]'(by omega), _, _, rfl, by simp [hsz, hi], ⟨_, hT, rfl, _, rfl⟩, ho, hk d _ hne hm, Nat.ne_of_gt (Heap.lt_size he)⟩ fun b o hb e => hk b o (fun h => hb (by simp [h])) e
  go := fun i v s Q E hm hQ => by
    obtain ⟨T, e, ok, ov, rfl, hx, hT, ho, hd9, hTI⟩ := hm
    refine wpAny_letOwnedTupleGo_items ho fun h' he hs => ?_
    exact hQ h' ⟨T, e, rfl, hx, hT.at fun o e => hs.extBut T o hTI e⟩ ⟨⟨ok, ov, he⟩, hs.extBut _ _ hne hd9⟩ fun b o hb e => hs.extBut b o (fun h => hb (by simp [h])) e
  done := fun s Q E st hQ => by
    obtain ⟨⟨ok, ov, he⟩, hm⟩ := st
    obtain ⟨es', ep', kvs, hx, hd', hen, hk, hp, hn, hl⟩ := ht.dictAt
    rw [hd] at hd'
    injection hd' with e1 e2
    subst e1 e2
    rw [← hl] at he
    exact wpAny_pyNext_items_end (knd := strKind prog w) hh he ⟨od, es, hm, hx, hd, hk, hp, hn⟩ (by simp) fun h' hx => hQ h' s.toks fun b o hb e => hx b o (fun h => hb (by simp [h])) e
theorem forItems {elts : List Expr} {kk : Nat} {pos : Pos} {body : List Stmt} {vw d : Addr} {od : Obj} {l : List (Str × Str)} {news : List (Addr × Obj)} {m₀ : Str → Option Value}
    (hh : A.handled = none) (F : Fr h₀ env.locals s.heap m₀) (N : News h₀ env.locals s.heap news) (hvw : s.heap.IsItemsView vw d) (hm : (d, od) ∈ news) (ht : TabO prog w od l)
    (J : Nat → (Str → Option Value) → Prop) (h0 : J 0 m₀)
    (turn : ∀ i k x u v T m₁ h tk own, l[i]? = some (k, x) → u ≠ 0 → v ≠ 0 → u ≠ v → J i m₁ → IsTup h T #[.str k u, .str x v] → Fr h₀ env.locals h m₁ → News h₀ env.locals h (own ++ news) →
      wpAny (model prog w) A (assign (.Tuple elts kk pos) env (.ref T)) (fun _ s₃ => wpAny (model prog w) A (execs body env)
        (ItEnd h₀ env.locals s (own ++ news) (J (i + 1))) E s₃) E { s with heap := h, toks := tk })
    (done : ∀ m₁ h tk, J l.length m₁ → Fr h₀ env.locals h m₁ → News h₀ env.locals h news → Q .next { s with heap := h, toks := tk }) :
    wpAny (model prog w) A (pyIter (.ref vw)) (fun it s₂ => TurnsAt prog w A h₀ env (.Tuple elts kk pos) body Q E it s₂) E s := by
  obtain ⟨es, ep, kvs, hx, hd, hen, hk, hp, hnd, hl⟩ := ht.dictAt
  have hax := N _ hm
  have hne : d ≠ s.heap.objs.size := Nat.ne_of_lt (Heap.lt_size hax.1)
  have hsz : es.size = l.length := by have := hen.1; rwa [Array.length_toList] at this
  refine wpAny_pyIter_items (knd := strKind prog w) hvw ⟨od, es, hax.1, hx, hd, hk, hp, hnd⟩ ?_
  rw [hl]
  refine ⟨s.heap.objs.size, [s.heap.objs.size, d], [s.heap.objs.size], l.length, _, _, _, m₀, news, fun i m₁ news₁ => news₁ = news ∧ J i m₁, rfl, rawTurns hh _ d hne ht hd, ?_, ?_, ?_, ⟨⟨.none, .none, Heap.get?_push_size _ rfl⟩, Heap.get?_push_of_some _ hax.1⟩, F.push _, fun p hp => ⟨Heap.get?_push_of_some _ (N p hp).1, (N p hp).2⟩, ⟨rfl, h0⟩, ?_, ?_⟩
  · intro hI
    have hb' : env.locals = s.heap.objs.size ∨ env.locals = d := by simpa using hI
    rcases hb' with e | e
    · exact absurd F.ns.lt (e ▸ Nat.lt_irrefl _)
    · exact hax.2.1 e.symm
  · intro b hb
    rw [List.mem_singleton.mp hb]
    exact next_is_new F
  · intro p hp hI
    exact absurd (Heap.lt_size (N p hp).1) ((List.mem_singleton.mp hI) ▸ Nat.lt_irrefl _)
  · rintro i v m₁ news₁ h₁ tk₁ own hi ⟨T, e, rfl, he, hT⟩ ⟨rfl, hJ⟩ hnw _ _ _ _ F₁ N₁
    obtain ⟨_, u, v, e1, e2, hu, hv, huv⟩ := hen.2 i e l[i] (by simpa using he) (List.getElem?_eq_getElem hi)
    rw [e1, e2] at hT
    refine wpAny_mono (turn i _ _ u v T m₁ h₁ tk₁ own (List.getElem?_eq_getElem hi) hu hv huv hJ hT F₁ N₁) (fun _ s₃ q => wpAny_mono q (fun f s₄ q₄ => ?_) fun _ _ e => e) fun _ _ e => e
    obtain ⟨rfl, h', tk', m₂, rfl, F', N', hJ'⟩ := q₄
    exact ⟨rfl, h', tk', m₂, _, rfl, F', N', hnw, rfl, hJ'⟩
  · rintro h' tk m' news' F' N' _ ⟨rfl, hJ⟩
    exact done m' h' tk hJ F' N'
end
end Mine
namespace Mine
def PairOk (p : Str × Str) : Prop := (∃ a b, p.1 = ⟨#[a, b]⟩) ∧ p.2.length ≤ 2 ∧ (p.1 == p.2) = false
def replAll (l : List (Str × Str)) (x : Str) : Str := l.foldl (fun r p => Txt.replace r p.1 p.2) x
section
variable {prog : Program} {w : World} {A : Around} {E : Value → Shared → Prop} {s : Shared} {x : Str} {t u v : Tok} {Q : Value → Shared → Prop}
theorem replAny {p : Str × Str} (hp : PairOk p) (hu : u ≠ 0) (hv : v ≠ 0) (huv : u ≠ v) (hx : x.length ≤ 1000)
    (hq : ∀ (r : Str) t' k, r = Txt.replace x p.1 p.2 → r.length ≤ x.length → Q (.str r t') { s with toks := k }) :
    wpAny (model prog w) A (call (.builtin "str.replace") [.str x t, .str p.1 u, .str p.2 v]) Q E s := by
  obtain ⟨⟨a, b, h1⟩, h2, h3⟩ := hp
  refine replPair h1 hu hv huv h3 h2 (by omega) fun r t' k e hl => hq r t' k ?_ hl
  rw [e, h1, replace_pair]
end
theorem TabO.isDict {prog : Program} {w : World} {o : Obj} {l : List (Str × Str)} (h : TabO prog w o l) : ∃ kvs : List (Str × Value), o.IsDictOf (strKind prog w) kvs ∧ kvs.length = l.length := by
  obtain ⟨es, ep, kvs, a, b, _, d, e, f, g⟩ := h.dictAt
  exact ⟨kvs, ⟨es, ep, a, b, d, e, f⟩, g⟩

local macro_rules | `(tactic| walk_at "exec For") => `(tactic| (k_here; k_dflt (refine For_turns (by k_asm) ?_)))
local macro_rules | `(tactic| walk_at "eval Name") => `(tactic| (k_here; k_dflt (refine' ld ?k1 ?k2 ?_; (case k1 => k_asm); (case k2 => first | assumption | ((try dsimp only); rw [if_neg (by decide), if_neg (by decide)]; assumption)); k_whole)))
local macro_rules | `(tactic| walk_at "call builtin:str.replace") => `(tactic| (k_here; k_dflt (refine' replAny (p := (_, _)) ?k1 ?k2 ?k3 ?k4 ?k5 ?_; (case k1 => assumption); (case k2 => assumption); (case k3 => assumption); (case k4 => assumption); (case k5 => assumption)); intro r9 t9 tk9 hr9 hl9; (try dsimp only)))
set_option maxRecDepth 100000 in
set_option maxHeartbeats 8000000 in
theorem dr_ok (w : World) (loose : List Str) (mean : ExcName → Option Value) (mg mb : Str → Option Value) (news : List (Addr × Obj)) (x : Str) (t1 : Tok) (D : Addr) (od : Obj) (l : List (Str × Str))
    (hx : x.length ≤ 1000) (hlo : (D == sysModules) = false) (ht : TabO PySem.Challenge.rw_ik0012_01.row.prog w od l) (hl : ∀ p ∈ l, PairOk p) :
    Clm PySem.Challenge.rw_ik0012_01.row.prog w (hd.heap_39 w.params) hd.view_39 loose mean mg mb 21 ((D, od) :: news) 3 20 True [.str x t1, .ref D] (fun t => .str (replAll l x) t) := by
  obtain ⟨kvs, hdd, hkl⟩ := ht.isDict
  k_fill
  dsimp only [Clm, CbRet]
  intros
  rename_i hret
  refine wpAny_call ?_
  k_dflt cell_enter
  k_steps
  rename Fr _ _ _ _ => lF
  rename News _ _ _ _ => lN
  refine forItems (by rfl) lF lN ⟨_, (lN _ (List.Mem.head _)).1, rfl, rfl⟩ (List.Mem.tail _ (List.Mem.head _)) ht (fun i m₁ => ∃ r t, m₁ (Str.ofString "s") = some (.str r t) ∧ r = replAll (List.take i l) x ∧ r.length ≤ 1000) ⟨x, t1, rfl, rfl, hx⟩ ?_ ?_
  · rintro i k y u v T m₁ h tk own hli hu hv huv ⟨r, t, hs, hr, hlen⟩ hT F N
    have hpo := hl _ (List.mem_of_getElem? hli)
    clear lF lN
    (try dsimp only)
    (try k_fold)
    k_steps
    refine ItEnd.intro (by assumption) (by assumption) ?_
    have e : replAll (List.take (i + 1) l) x = Txt.replace (replAll (List.take i l) x) k y := by
      rw [List.take_add_one, hli]
      unfold replAll
      rw [List.foldl_append]
      rfl
    rw [e, ← hr]
    exact ⟨_, _, rfl, by assumption, by omega⟩
  · rintro m₁ h tk ⟨r, t, hs, hr, hlen⟩ F N
    clear lF lN
    (try dsimp only)
    (try k_fold)
    k_steps
    rw [List.take_length] at hr
    refine cb_retS hret hr (by k_asm) (cb_drop (by assumption) fun p hp => List.Mem.tail _ hp)
end Mine
namespace Mine
section
variable {prog : Program} {w : World} {A : Around} {E : Value → Shared → Prop} {s : Shared} {h₀ : Heap} {L : Addr} {news : List (Addr × Obj)}
theorem truthyTab {D : Addr} {od : Obj} {l : List (Str × Str)} {Q : Bool → Shared → Prop} (hlo : (D == sysModules) = false) (N : News h₀ L s.heap ((D, od) :: news)) (ht : TabO prog w od l) (hne : l ≠ []) (hl : l.length ≤ 1000)
    (h : ∀ tk, Q true { s with toks := tk }) : wpAny (model prog w) A (truthy (.ref D)) Q E s := by
  obtain ⟨kvs, hd, hk⟩ := ht.isDict
  have hm : s.heap.DictOf (strKind prog w) D kvs := Heap.dictOf_iff.mpr ⟨od, N.get (.head _), hd⟩
  refine wpAny_truthy_dict hlo hm (by omega) ?_
  have : kvs.isEmpty = false := by
    cases kvs with
    | nil => exact absurd (List.length_eq_zero_iff.mp hk.symm) hne
    | cons _ _ => rfl
  rw [this]
  exact h _
end
local macro_rules | `(tactic| walk_at "eval Call") => `(tactic| (k_here; k_dflt (refine Call_ ?_)))
local macro_rules | `(tactic| walk_at "call builtin:str.replace") => `(tactic| (k_here; k_dflt (first | refine replNone (c := 38) (by decide) (by assumption) ?_ | refine replNone (c := 62) (by decide) (by assumption) ?_ | refine replNone (c := 60) (by decide) (by assumption) ?_)))
local macro_rules | `(tactic| walk_at "truthy ref") => `(tactic| (k_here; k_dflt (refine' truthyTab ?k1 ?k2 ?k3 ?k4 ?k5 ?_; (case k1 => assumption); (case k2 => assumption); (case k3 => assumption); (case k4 => assumption); (case k5 => assumption)); intro tk9; (try dsimp only)))
local macro_rules | `(tactic| walk_at "call ref") => `(tactic| (k_here; k_dflt (refine' cbUse (dr_ok _ _ _ _ _ _ _ _ _ _ _ ?k6 ?k7 ?k8 ?k9) ?k1 ?k2 ?k3 ?k4 ?k5 ?kK ?kp ?kd ?ku ?_; (case k6 => assumption); (case k7 => assumption); (case k8 => assumption); (case k9 => assumption); (case k1 => k_asm); (case k2 => k_asm); (case k3 => k_asm); (case k4 => k_asm); (case k5 => k_asm); (case kK => first | exact rfl | assumption); (case kp => trivial); (case kd => ktr_room); (case ku => ktr_units)); intro t9 h9 tk9 htk9 F9 N9; (try dsimp only)))
set_option maxRecDepth 100000 in
set_option maxHeartbeats 8000000 in
theorem escape_ok (w : World) (loose : List Str) (mean : ExcName → Option Value) (mg mb : Str → Option Value) (news : List (Addr × Obj)) (x : Str) (t1 : Tok) (D : Addr) (od : Obj) (l : List (Str × Str))
    (hx : x.length ≤ 1000) (h38 : 38 ∉ x.cps.toList) (h60 : 60 ∉ x.cps.toList) (h62 : 62 ∉ x.cps.toList) (hlo : (D == sysModules) = false) (ht : TabO PySem.Challenge.rw_ik0012_01.row.prog w od l) (hl : ∀ p ∈ l, PairOk p) (hne : l ≠ []) (hll : l.length ≤ 1000) :
    Clm PySem.Challenge.rw_ik0012_01.row.prog w (hd.heap_39 w.params) hd.view_39 loose mean mg mb 30 ((D, od) :: news) 5 40 True [.str x t1, .ref D] (fun t => .str (replAll l x) t) := by
  k_fill
  dsimp only [Clm, CbRet]
  intros
  rename_i hret
  refine wpAny_call ?_
  k_dflt (refine' code_def ?k1 ?k2 ?k3 ?k4 ?k5 ?kA ?kF ?kK ?k6 ?k7 ?k8 ?k9 ?kB ?_ ?c2 ?c3 ?c4 ?c5; (case kA => exact rfl); (case kF => exact rfl); (case kK => assumption); (case k1 => k_asm); (case k2 => k_asm); (case k3 => k_asm); (case k4 => k_asm); (case k5 => k_asm); (case k6 => k_is); (case k7 => k_is); (case k8 => ktr_room); (case k9 => exact binds_K (by k_in) rfl (by k_is) rfl rfl rfl); (case c5 => decide); (case kB => exact locs rfl); (case c2 => exact rfl); (case c3 => exact rfl); (case c4 => exact rfl); k_whole; intro g' L' h' FG' F' N' B' X' T'; (try dsimp only); (try k_lift B'); (try k_fold))
  k_steps
  all_goals exact cb_retS hret rfl (by k_asm) (by k_asm)
end Mine
namespace Mine
/-- a pair of ints, made by the call -/
abbrev tupO (x : Int) (tx : Tok) (y : Int) (ty : Tok) : Obj := { cls := .type "tuple", data := .seq #[.int x tx, .int y ty] }
def TupIn (R : List (Addr × Obj)) (us : List Value) (xs : List (Int × Int)) : Prop :=
  us.length = xs.length ∧ ∀ (j : Nat) u p, us[j]? = some u → xs[j]? = some p → ∃ a tx ty, u = .ref a ∧ (a, tupO p.1 tx p.2 ty) ∈ R
theorem TupIn.mono {R R' : List (Addr × Obj)} {us : List Value} {xs : List (Int × Int)} (h : TupIn R us xs) (hs : ∀ p ∈ R, p ∈ R') : TupIn R' us xs :=
  ⟨h.1, fun j u p a b => let ⟨x, tx, ty, e, hm⟩ := h.2 j u p a b; ⟨x, tx, ty, e, hs _ hm⟩⟩
theorem TupIn.snoc {R : List (Addr × Obj)} {us : List Value} {xs : List (Int × Int)} (h : TupIn R us xs) {a : Addr} {x y : Int} {tx ty : Tok} : TupIn ((a, tupO x tx y ty) :: R) (us ++ [.ref a]) (xs ++ [(x, y)]) := by
  refine ⟨by simp [h.1], fun j u p hu hp => ?_⟩
  by_cases hj : j < us.length
  · rw [List.getElem?_append_left hj] at hu
    rw [List.getElem?_append_left (by rw [← h.1]; exact hj)] at hp
    obtain ⟨b, tx, ty, e, hm⟩ := h.2 j u p hu hp
    exact ⟨b, tx, ty, e, .tail _ hm⟩
  · rw [List.getElem?_append_right (by omega)] at hu
    rw [List.getElem?_append_right (by have := h.1; omega), ← h.1] at hp
    cases hk : j - us.length with
    | zero => rw [hk] at hu hp; cases hu; cases hp; exact ⟨a, tx, ty, rfl, .head _⟩
    | succ i => rw [hk] at hu; cases hu
def Dig (xs : List (Int × Int)) : Prop := ∀ p ∈ xs, 0 ≤ p.1 ∧ p.1 < 16 ∧ 0 ≤ p.2 ∧ p.2 < 16
theorem Dig.snoc {xs : List (Int × Int)} (h : Dig xs) {x y : Int} (hx : 0 ≤ x ∧ x < 16 ∧ 0 ≤ y ∧ y < 16) : Dig (xs ++ [(x, y)]) := by
  intro p hp
  rcases List.mem_append.mp hp with hp | hp
  · exact h p hp
  · rw [List.mem_singleton.mp hp]; exact hx
/-- an int's join of two ways -/
def JEnd (h₀ : Heap) (L : Addr) (s : Shared) (m : Str → Option Value) (news : List (Addr × Obj)) (v : Value) (s' : Shared) : Prop :=
  ∃ z t h' tk, v = .int z t ∧ 0 ≤ z ∧ z < 16 ∧ s' = { s with heap := h', toks := tk } ∧ Fr h₀ L h' m ∧ News h₀ L h' news
section
variable {prog : Program} {w : World} {A : Around} {E : Value → Shared → Prop} {s : Shared} {h₀ : Heap} {L : Addr} {m : Str → Option Value} {news : List (Addr × Obj)} {env : Env}
theorem JEnd.intro {h' : Heap} {z : Int} {t : Tok} {tk : Nat} (F : Fr h₀ L h' m) (N : News h₀ L h' news) (h0 : 0 ≤ z) (h1 : z < 16) : JEnd h₀ L s m news (.int z t) { s with heap := h', toks := tk } := ⟨z, t, h', tk, rfl, h0, h1, rfl, F, N⟩
theorem joinIf {e : Expr} {Q : Value → Shared → Prop} (_F : Fr h₀ L s.heap m) (_N : News h₀ L s.heap news) (h : wpAny (model prog w) A (eval e env) (JEnd h₀ L s m news) E s)
    (hR : ∀ z t h' tk, 0 ≤ z → z < 16 → Fr h₀ L h' m → News h₀ L h' news → Q (.int z t) { s with heap := h', toks := tk }) : wpAny (model prog w) A (eval e env) Q E s := by
  refine wpAny_mono h ?_ fun _ _ x => x
  rintro v s' ⟨z, t, h', tk, rfl, h0, h1, rfl, F, N⟩
  exact hR z t h' tk h0 h1 F N
/-- a comprehension over range(n): the turn once -/
theorem crest {elt : Expr} {x : Str} {scope : Scope} {cl : List (Str × Addr)} {Fin : List Value → List (Addr × Obj) → Prop} {n : Nat} (V : Nat → Value → Prop)
    (turn : ∀ (k : Nat) t I oI C oC D m₂ ys h tk (E' : Value → Shared → Prop), k < n → LCg.NsObj oC m₂ → m₂ x = some (.int (k : Int) t) → Fr h₀ L h m → News h₀ L h ((I, oI) :: (C, oC) :: (D, LCg.lst ys) :: news) → LCg.Off3 I C D news → ((@Ne Nat I C) ∧ (@Ne Nat I D) ∧ (@Ne Nat C D)) →
      wpAny (model prog w) A (eval elt (compEnvC scope cl C env)) (LCg.CompEnd h₀ L m { s with heap := h, toks := tk } I oI C oC D (LCg.lst ys) (fun _ => True) (fun y news' => news' = news ∧ V k y)) E' { s with heap := h, toks := tk })
    (fin : ∀ ys, ys.length = n → (∀ (j : Nat) y, ys[j]? = some y → V j y) → Fin ys news) :
    LCg.CompRest prog w A h₀ L m env elt x scope cl s (fun _ => True) (fun i v => ∃ t, v = .int (0 + (i : Int)) t) Fin n 0 [] news := by
  have key : ∀ (j i : Nat) (ys : List Value), i + j = n → ys.length = i → (∀ (k : Nat) y, ys[k]? = some y → V k y) → LCg.CompRest prog w A h₀ L m env elt x scope cl s (fun _ => True) (fun i v => ∃ t, v = .int (0 + (i : Int)) t) Fin j i ys news := by
    intro j
    induction j with
    | zero =>
      intro i ys hi hl hy
      exact LCg.CompRest.zero (fin ys (by omega) hy)
    | succ j ih =>
      intro i ys hi hl hy
      refine LCg.CompRest.succ ?_
      rintro v I oI C oC D m₂ h tk E' ⟨t, rfl⟩ hC hx F N off ne
      rw [Int.zero_add] at hx
      refine wpAny_mono (turn i t I oI C oC D m₂ ys h tk E' (by omega) hC hx F N off ne) (fun y s₂ hq => ?_) fun _ _ e => e
      obtain ⟨h', tk', nw, e, F', N', off', hS, hn, hv⟩ := hq
      rw [hn] at N' off'
      refine ⟨h', tk', news, e, F', N', off', hS, ?_⟩
      refine ih (i + 1) _ (by omega) (by simp [hl]) fun k y' hk => ?_
      by_cases hki : k < ys.length
      · rw [List.getElem?_append_left hki] at hk
        exact hy k y' hk
      · rw [List.getElem?_append_right (by omega)] at hk
        cases hd : k - ys.length with
        | zero =>
          rw [hd] at hk
          have e1 : k = i := by omega
          subst e1
          cases hk
          exact hv
        | succ q => rw [hd] at hk; cases hk
  exact key n 0 [] (by omega) rfl (by simp)
end
theorem ints_of {n : Nat} (g : Nat → Int) : ∀ (ys : List Value) (i : Nat), (∀ (j : Nat) y, ys[j]? = some y → ∃ t, y = .int (g (i + j)) t) → ys.length = n → IntsAre ys ((List.range' i n).map g) := by
  induction n with
  | zero => intro ys i h hl; rw [List.length_eq_zero_iff.mp hl]; exact .nil
  | succ n ih =>
    intro ys i h hl
    cases ys with
    | nil => cases hl
    | cons y r =>
      obtain ⟨t, e⟩ := h 0 y rfl
      rw [e, List.range'_succ, List.map_cons]
      refine .cons _ _ (ih r (i + 1) (fun j z hz => ?_) (by simpa using hl))
      have := h (j + 1) z (by simpa using hz)
      rwa [show i + (j + 1) = i + 1 + j from by omega] at this
theorem strs_of {n : Nat} (g : Nat → Str) : ∀ (ys : List Value) (i : Nat), (∀ (j : Nat) y, ys[j]? = some y → ∃ t, y = .str (g (i + j)) t) → ys.length = n → StrsAre ys ((List.range' i n).map g) := by
  induction n with
  | zero => intro ys i h hl; rw [List.length_eq_zero_iff.mp hl]; exact .nil
  | succ n ih =>
    intro ys i h hl
    cases ys with
    | nil => cases hl
    | cons y r =>
      obtain ⟨t, e⟩ := h 0 y rfl
      rw [e, List.range'_succ, List.map_cons]
      refine .cons _ _ (ih r (i + 1) (fun j z hz => ?_) (by simpa using hl))
      have := h (j + 1) z (by simpa using hz)
      rwa [show i + (j + 1) = i + 1 + j from by omega] at this
end Mine
namespace Mine
def PEnd (h₀ : Heap) (L : Addr) (s : Shared) (P : Addr) (us : List Value) (nn : Nat) (rest : List (Addr × Obj)) (f : Flow) (s₂ : Shared) : Prop :=
  f = .next ∧ ∃ h' tk' m' T x y tx ty, s₂ = { s with heap := h', toks := tk' } ∧ Fr h₀ L h' m' ∧ News h₀ L h' ((T, tupO x tx y ty) :: (P, W.listOf (us ++ [Value.ref T]).toArray (nn + 1)) :: rest) ∧ T ≠ P ∧ (∀ p ∈ rest, p.1 ≠ T) ∧ (0 ≤ x ∧ x < 16 ∧ 0 ≤ y ∧ y < 16)
theorem PEnd.intro {h₀ h' : Heap} {L P T : Addr} {s : Shared} {us : List Value} {nn : Nat} {rest : List (Addr × Obj)} {m' : Str → Option Value} {x y : Int} {tx ty : Tok} {tk' : Nat} (F : Fr h₀ L h' m')
    (N : News h₀ L h' ((T, tupO x tx y ty) :: (P, W.listOf (us ++ [Value.ref T]).toArray (nn + 1)) :: rest)) (h1 : T ≠ P) (h2 : ∀ p ∈ rest, p.1 ≠ T) (h3 : 0 ≤ x ∧ x < 16 ∧ 0 ≤ y ∧ y < 16) : PEnd h₀ L s P us nn rest .next { s with heap := h', toks := tk' } :=
  ⟨rfl, h', tk', m', T, x, y, tx, ty, rfl, F, N, h1, h2, h3⟩
section
variable {prog : Program} {w : World} {A : Around} {E : Value → Shared → Prop} {s : Shared} {h₀ : Heap} {env : Env} {x : Str} {body : List Stmt} {Q : Flow → Shared → Prop}
theorem pairsLoop {S P T0 : Addr} {ws : List Value} {ns : List Int} {n0 : Nat} {rest : List (Addr × Obj)} {m₀ : Str → Option Value} {t8 t9 : Tok} (hh : A.handled = none) (F : Fr h₀ env.locals s.heap m₀)
    (N : News h₀ env.locals s.heap ((S, W.listOf ws.toArray n0) :: (P, W.listOf #[Value.ref T0] 0) :: (T0, tupO 9 t9 8 t8) :: rest)) (hI : IntsAre ws ns) (hSP : S ≠ P) (hTP : T0 ≠ P) (hrP : ∀ p ∈ rest, p.1 ≠ P) (hns : ns.length ≤ 6)
    (turn : ∀ (n : Int) t (m₁ : Str → Option Value) (us : List Value) (nn : Nat) (R : List (Addr × Obj)) h tk, Fr h₀ env.locals h (fun y => if y = x then some (.int n t) else m₁ y) → News h₀ env.locals h ((P, W.listOf us.toArray nn) :: (rest ++ R)) → (∀ p ∈ rest ++ R, p.1 ≠ P) → us.length ≤ 100 →
      wpAny (model prog w) A (execs body env) (PEnd h₀ env.locals { s with heap := h, toks := tk } P us nn (rest ++ R)) E { s with heap := h, toks := tk })
    (done : ∀ (m₁ : Str → Option Value) (us : List Value) (nn : Nat) (xs : List (Int × Int)) (R : List (Addr × Obj)) h tk, Fr h₀ env.locals h m₁ → News h₀ env.locals h ((P, W.listOf us.toArray nn) :: (rest ++ R)) → (∀ p ∈ rest ++ R, p.1 ≠ P) → TupIn R us xs → Dig xs → 1 ≤ xs.length → xs.length ≤ 7 → Q .next { s with heap := h, toks := tk }) :
    wpAny (model prog w) A (pyIter (.ref S)) (fun it s₂ => LoopAtV prog w A h₀ env x body Q E it s₂) E s := by
  refine kdl_iter (vs := ws) (nn := n0) (news := (P, W.listOf #[Value.ref T0] 0) :: (rest ++ ((S, W.listOf ws.toArray n0) :: (T0, tupO 9 t9 8 t8) :: [])))
    (fun i m₁ nx => ∃ us nn xs R, nx = (P, W.listOf us.toArray nn) :: (rest ++ R) ∧ (∀ p ∈ rest ++ R, p.1 ≠ P) ∧ TupIn R us xs ∧ Dig xs ∧ xs.length = i + 1) hh ?_ F ?_ ?_ ?_ ?_
  · exact .tail _ (List.mem_append_right _ (.head _))
  · intro p hp
    refine N p ?_
    rcases List.mem_cons.mp hp with rfl | hp
    · exact .tail _ (.head _)
    · rcases List.mem_append.mp hp with hp | hp
      · exact .tail _ (.tail _ (.tail _ hp))
      · rcases List.mem_cons.mp hp with rfl | hp
        · exact .head _
        · rw [List.mem_singleton.mp hp]
          exact .tail _ (.tail _ (.head _))
  · refine ⟨[.ref T0], 0, [(9, 8)], _, rfl, ?_, ?_, ?_, rfl⟩
    · intro p hp
      rcases List.mem_append.mp hp with hp | hp
      · exact hrP p hp
      · rcases List.mem_cons.mp hp with rfl | hp
        · exact hSP
        · rw [List.mem_singleton.mp hp]; exact hTP
    · refine ⟨rfl, fun j u p hu hp => ?_⟩
      cases j with
      | zero => cases hu; cases hp; exact ⟨T0, t9, t8, rfl, .tail _ (.head _)⟩
      | succ j => cases hu
    · intro p hp
      rw [List.mem_singleton.mp hp]
      decide
  · rintro i v m₁ nx h tk own hv hoff hS ⟨us, nn, xs, R, rfl, hR, hT, hD, hx⟩ F₁ N₁
    have hi : i < ns.length := by
      have hl := hI.length
      have := (List.getElem?_eq_some_iff.mp hv).1
      omega
    obtain ⟨n, t, e, hn⟩ := IntsAre.at hI i v hv
    subst e
    rw [List.cons_append, List.append_assoc] at N₁
    have hR' : ∀ p ∈ rest ++ (R ++ own), p.1 ≠ P := by
      intro p hp
      rw [← List.append_assoc] at hp
      rcases List.mem_append.mp hp with hp | hp
      · exact hR p hp
      · exact hoff p hp P (List.mem_cons_self ..)
    refine wpAny_mono (turn n t m₁ us nn (R ++ own) h tk F₁ N₁ hR' (by have := hT.1; omega)) (fun f s₂ q => ?_) fun _ _ e => e
    obtain ⟨rfl, h', tk', m', T, x1, y1, tx, ty, rfl, F', N', hTP', hTo, hb⟩ := q
    have hnot : (S, W.listOf ws.toArray n0) ∈ rest ++ R := by
      rcases List.mem_cons.mp hS with e | hm
      · exact absurd (congrArg Prod.fst e) hSP
      · exact hm
    refine InvEndG.intro (nx := (P, W.listOf (us ++ [Value.ref T]).toArray (nn + 1)) :: (rest ++ ((T, tupO x1 tx y1 ty) :: R))) F' N' ⟨.tail _ ?_, us ++ [.ref T], nn + 1, xs ++ [(x1, y1)], (T, tupO x1 tx y1 ty) :: R, rfl, ?_, hT.snoc, hD.snoc hb, by simp [hx]⟩ ?_ ?_ ?_
    · rcases List.mem_append.mp hnot with hm | hm
      · exact List.mem_append_left _ hm
      · exact List.mem_append_right _ (.tail _ hm)
    · intro p hp
      rcases List.mem_append.mp hp with hp | hp
      · exact hrP p hp
      · rcases List.mem_cons.mp hp with rfl | hp
        · exact hTP'
        · exact hR p (List.mem_append_right _ hp)
    · intro p hp b hb'
      obtain ⟨q, hq, rfl⟩ := List.mem_map.mp hb'
      rcases List.mem_cons.mp hq with rfl | hq
      · exact hoff p hp P (List.mem_cons_self ..)
      · rcases List.mem_append.mp hq with hq | hq
        · exact hoff p hp _ (List.mem_map.mpr ⟨q, .tail _ (List.mem_append_left _ hq), rfl⟩)
        · rcases List.mem_cons.mp hq with rfl | hq
          · exact hTo p (List.mem_append_right _ (List.mem_append_right _ hp))
          · exact hoff p hp _ (List.mem_map.mpr ⟨q, .tail _ (List.mem_append_right _ hq), rfl⟩)
    · intro p hp
      rcases List.mem_cons.mp hp with rfl | hp
      · exact .tail _ (.head _)
      · rcases List.mem_append.mp hp with hp | hp
        · exact .tail _ (.tail _ (List.mem_append_left _ hp))
        · rcases List.mem_cons.mp hp with rfl | hp
          · exact .head _
          · exact .tail _ (.tail _ (List.mem_append_right _ (List.mem_append_left _ hp)))
    · intro p hp
      exact .tail _ (.tail _ (List.mem_append_right _ (List.mem_append_right _ hp)))
  · rintro m₁ nx h tk ⟨us, nn, xs, R, rfl, hR, hT, hD, hx⟩ F₁ N₁
    have hl := hI.length
    exact done m₁ us nn xs R h tk F₁ N₁ hR hT hD (by omega) (by omega)
end
end Mine
namespace Mine
theorem PEnd.intro' {h₀ h' : Heap} {L P T : Addr} {s : Shared} {us : List Value} {nn : Nat} {rest : List (Addr × Obj)} {m' : Str → Option Value} {x y : Int} {tx ty : Tok} {tk' : Nat} (F : Fr h₀ L h' m')
    (N : News h₀ L h' ((T, tupO x tx y ty) :: (P, W.listOf (us.toArray.push (Value.ref T)) (nn + 1)) :: rest)) {o : Obj} (h1 : AllLt T ((P, o) :: rest)) (h3 : 0 ≤ x ∧ x < 16 ∧ 0 ≤ y ∧ y < 16) : PEnd h₀ L s P us nn rest .next { s with heap := h', toks := tk' } := by
  rw [List.push_toArray] at N
  refine PEnd.intro F N ?_ ?_ h3
  · exact Nat.ne_of_gt (ktn_ltOf h1 _ (.head _))
  · intro p hp
    exact Nat.ne_of_lt (ktn_ltOf h1 p (.tail _ hp))
end Mine
namespace Mine
section
variable {prog : Program} {w : World} {A : Around} {E : Value → Shared → Prop} {s : Shared} {h₀ : Heap} {L P : Addr} {m : Str → Option Value} {news : List (Addr × Obj)} {env : Env}
/-- range(n) as the source of a comprehension, with its turn once -/
theorem csrcR {elt : Expr} {x : Str} {scope : Scope} {cl : List (Str × Addr)} {Fin : Shared → List Value → List (Addr × Obj) → Prop} {n : Nat} {b : Int} {tb : Tok} (V : Nat → Value → Prop)
    (hh : A.handled = none) (F : Fr h₀ L s.heap m) (N : News h₀ L s.heap news) (hb : b = (n : Int)) (hn : n ≤ 1000)
    (turn : ∀ (k : Nat) t I oI C oC D m₂ ys h tk (E' : Value → Shared → Prop), k < n → LCg.NsObj oC m₂ → m₂ x = some (.int (k : Int) t) → Fr h₀ L h m → News h₀ L h ((I, oI) :: (C, oC) :: (D, LCg.lst ys) :: news) → LCg.Off3 I C D news → ((@Ne Nat I C) ∧ (@Ne Nat I D) ∧ (@Ne Nat C D)) →
      wpAny (model prog w) A (eval elt (compEnvC scope cl C env)) (LCg.CompEnd h₀ L m { s with heap := h, toks := tk } I oI C oC D (LCg.lst ys) (fun _ => True) (fun y news' => news' = news ∧ V k y)) E' { s with heap := h, toks := tk })
    (fin : ∀ h tk ys, ys.length = n → (∀ (j : Nat) y, ys[j]? = some y → V j y) → Fin { s with heap := h, toks := tk } ys news) :
    wpAny (model prog w) A (call (.type "range") [.int b tb]) (LCg.CompSrc prog w A h₀ L m env elt x scope cl Fin) E s := by
  subst hb
  refine range1_rows F N fun h' tk t₁ u₁ v₁ hr F' N' _ => ?_
  refine LCg.CompSrc.range hh F' N' hr ?_ ?_ (n := n) ?_ fun g => ?_
  · exact small_one (by omega) (by omega) (by omega) (by omega)
  · rw [rangeSize_nat]
    congr 1
  · rw [sizeLine_eq]; omega
  · exact crest V (fun k t I oI C oC D m₂ ys h tk E' => turn k t I oI C oC D m₂ ys h tk E') (fun ys h1 h2 => fin _ _ ys h1 h2)
/-- an item of the list of pairs -/
theorem pairAt {us : List Value} {xs : List (Int × Int)} {R : List (Addr × Obj)} {nn k : Nat} {u : Tok} {value slice : PySem.Expr} {Q : Value → Shared → Prop} (N : News h₀ L s.heap news) (hm : (P, W.listOf us.toArray nn) ∈ news) (hR : ∀ p ∈ R, p ∈ news) (hT : TupIn R us xs) (hk : k < xs.length) (hk7 : xs.length ≤ 7)
    (h : ∀ a tx ty, IsTup s.heap a [Value.int (xs.getD k (0, 0)).1 tx, Value.int (xs.getD k (0, 0)).2 ty].toArray → Q (.ref a) s)
    (hs : subscripted slice false (.ref P) (.int (k : Int) u) = operate [.ref P, .int (k : Int) u] (getItem (.ref P) (.int (k : Int) u)) := by with_unfolding_all rfl) :
    wpAny (model prog w) A (subscriptTail value slice (.ref P) (.int (k : Int) u)) Q E s := by
  have hku : k < us.length := by rw [hT.1]; exact hk
  obtain ⟨a, tx, ty, e, hmem⟩ := hT.2 k us[k] xs[k] (List.getElem?_eq_getElem hku) (List.getElem?_eq_getElem hk)
  have hg : xs.getD k (0, 0) = xs[k] := by rw [List.getD_eq_getElem?_getD, List.getElem?_eq_getElem hk]; rfl
  refine tail_any (PySem.IsL.isList (n := nn) (N _ hm).1).typeIs slot_list_getitem.lookup (wpAny_getItem_list (PySem.IsL.isList (n := nn) (N _ hm).1) (by omega) (by omega) (x := us[k]) (by simp [hku]) ?_) hs
  rw [e]
  refine h a tx ty ?_
  rw [hg]
  exact News.isTup N (hR _ hmem)
end
end Mine
namespace Mine
def dig1 (xs : List (Int × Int)) (k : Nat) : Int := (xs.getD k (0, 0)).1 * 16 ^ k
def dig2 (xs : List (Int × Int)) (k : Nat) : Int := (xs.getD k (0, 0)).2 * 16 ^ k
theorem sum16 (f : Nat → Int) (c : Nat) (hf : ∀ k, k < c → 0 ≤ f k ∧ f k < 16) : 0 ≤ ((List.range' 0 c).map fun k => f k * 16 ^ k).sum ∧ ((List.range' 0 c).map fun k => f k * 16 ^ k).sum < 16 ^ c := by
  induction c with
  | zero => exact ⟨Int.le_refl 0, show (0 : Int) < 16 ^ 0 by decide⟩
  | succ c ih =>
    have := ih fun k hk => hf k (by omega)
    rw [List.range'_1_concat, List.map_append, List.sum_append]
    simp only [List.map_cons, List.map_nil, List.sum_cons, List.sum_nil, Nat.zero_add, Int.add_zero]
    have h := hf c (by omega)
    have hp : (0 : Int) < 16 ^ c := Int.pow_pos (by decide)
    have e : (16 : Int) ^ (c + 1) = 16 * 16 ^ c := by rw [Int.pow_succ, Int.mul_comm]
    have h1 : 0 ≤ f c * 16 ^ c := Int.mul_nonneg h.1 (by omega)
    have h2 : f c * 16 ^ c ≤ 15 * 16 ^ c := Int.mul_le_mul_of_nonneg_right (by omega) (by omega)
    omega
theorem p7 {c : Nat} {z : Int} (hc : c ≤ 7) (h : z < 16 ^ c) : z < 268435456 := by
  have : (16 : Int) ^ c ≤ 16 ^ 7 := by
    have := Nat.pow_le_pow_right (n := 16) (by decide) hc
    exact_mod_cast this
  have e : (16 : Int) ^ 7 = 268435456 := by decide
  omega
theorem sum_dig1 {xs : List (Int × Int)} (hD : Dig xs) (h7 : xs.length ≤ 7) : 0 ≤ ((List.range' 0 xs.length).map (dig1 xs)).sum ∧ ((List.range' 0 xs.length).map (dig1 xs)).sum < 268435456 := by
  have := sum16 (fun k => (xs.getD k (0, 0)).1) xs.length fun k hk => by
    rw [List.getD_eq_getElem?_getD, List.getElem?_eq_getElem hk]
    have := hD xs[k] (List.getElem_mem hk)
    exact ⟨this.1, this.2.1⟩
  exact ⟨this.1, p7 h7 this.2⟩
theorem sum_dig2 {xs : List (Int × Int)} (hD : Dig xs) (h7 : xs.length ≤ 7) : 0 ≤ ((List.range' 0 xs.length).map (dig2 xs)).sum ∧ ((List.range' 0 xs.length).map (dig2 xs)).sum < 268435456 := by
  have := sum16 (fun k => (xs.getD k (0, 0)).2) xs.length fun k hk => by
    rw [List.getD_eq_getElem?_getD, List.getElem?_eq_getElem hk]
    have := hD xs[k] (List.getElem_mem hk)
    exact ⟨this.2.2.1, this.2.2.2⟩
  exact ⟨this.1, p7 h7 this.2⟩
end Mine
namespace Mine
section
variable {prog : Program} {w : World} {A : Around} {E : Value → Shared → Prop} {s : Shared} {a b : Int} {t u : Tok} {Q : Value → Shared → Prop}
theorem mulD (h0 : 0 ≤ a ∧ a < 16) (h : ∀ t' tk, Q (.int (a * b) t') { s with toks := tk }) : wpAny (model prog w) A (binaryOp .Mult (.int a t) (.int b u)) Q E s :=
  mul_int (h _ _) (IntMulOk.of_left (PySem.intBits_le_64 (by omega) (by omega)))
theorem dig_b1 {xs : List (Int × Int)} (hD : Dig xs) {k : Nat} (hk : k < xs.length) : 0 ≤ (xs.getD k (0, 0)).1 ∧ (xs.getD k (0, 0)).1 < 16 := by
  rw [List.getD_eq_getElem?_getD, List.getElem?_eq_getElem hk]
  have := hD xs[k] (List.getElem_mem hk)
  exact ⟨this.1, this.2.1⟩
theorem dig_b2 {xs : List (Int × Int)} (hD : Dig xs) {k : Nat} (hk : k < xs.length) : 0 ≤ (xs.getD k (0, 0)).2 ∧ (xs.getD k (0, 0)).2 < 16 := by
  rw [List.getD_eq_getElem?_getD, List.getElem?_eq_getElem hk]
  have := hD xs[k] (List.getElem_mem hk)
  exact ⟨this.2.2.1, this.2.2.2⟩
end
end Mine
namespace Mine
theorem news4 {h₀ h : Heap} {L : Addr} {a b c p q r s : Addr × Obj} {R : List (Addr × Obj)} (N : News h₀ L h (a :: b :: c :: p :: q :: r :: s :: R)) : News h₀ L h [p, q, r, s] := by
  intro x hx
  refine N x (.tail _ (.tail _ (.tail _ ?_)))
  exact List.mem_append_left (as := [p, q, r, s]) R hx
end Mine

namespace Mine
section
variable {prog : Program} {w : World} {A : Around} {E : Value → Shared → Prop} {s : Shared} {a b : Int} {t u : Tok} {Q : Value → Shared → Prop} {h₀ : Heap} {L : Addr} {m : Str → Option Value} {news : List (Addr × Obj)}
theorem lenS {x : Str} (hx : x.length ≤ 1000) (h : ∀ (r : Int) t' tk, r = (x.length : Int) → Q (.int r t') { s with toks := tk }) : wpAny (model prog w) A (call (.builtin "len") [.str x t]) Q E s :=
  len_str (by omega) (h _ _ _ rfl)
theorem maxI (hh : A.handled = none) (F : Fr h₀ L s.heap m) (N : News h₀ L s.heap news) (h : ∀ (r : Int) t' h' tk, a ≤ r → b ≤ r → (r = a ∨ r = b) → Fr h₀ L h' m → News h₀ L h' news → Q (.int r t') { s with heap := h', toks := tk }) :
    wpAny (model prog w) A (call (.builtin "max") [.int a t, .int b u]) Q E s :=
  max_two_N hh F N fun h' tk F' N' => h _ _ h' tk (by split <;> omega) (by split <;> omega) (by split <;> simp) F' N'
theorem wordS_len {n : Int} (e : Nat) (h : n.natAbs < 16 ^ e) : (wordS n).length ≤ e := by
  have := apB_len e n.natAbs h
  show (((apB n.natAbs).map UInt8.toNat).toArray).size ≤ e
  rw [List.size_toArray, List.length_map]
  exact this
end
end Mine
namespace Mine
/-- a column: its letter (by number) and its pluses -/
def colL (c : Nat × Nat) : List Nat := (65 + c.1) :: List.replicate c.2 43
def T (f : Nat → Nat × Nat) : Nat → List Nat
  | 0 => []
  | z + 1 => colL (f z) ++ T f z
theorem T_congr {f g : Nat → Nat × Nat} : ∀ {z : Nat}, (∀ k, k < z → f k = g k) → T f z = T g z
  | 0, _ => rfl
  | z + 1, h => by rw [T, T, h z (by omega), T_congr (fun k hk => h k (by omega))]
/-- the first sign, if any, is not this one -/
def Hd1 (b : Nat) (l : List Nat) : Prop := ∀ x r, l = x :: r → x ≠ b
theorem T_hd (f : Nat → Nat × Nat) : ∀ z, Hd1 43 (T f z)
  | 0 => fun _ _ h => by cases h
  | z + 1 => fun x r h => by
    rw [T, colL, List.cons_append] at h
    have := (List.cons.inj h).1
    omega
theorem rep2_skip1 {a b : Nat} {z : List Nat} {x : Nat} {t : List Nat} (h : x ≠ a) : rep2 a b z (x :: t) = x :: rep2 a b z t := by
  refine rep2_skip a b z x t ?_
  intro e
  cases t with
  | nil => simp at e
  | cons y r => simp at e; exact h e.1
theorem rep2_skip2 {a b : Nat} {z : List Nat} {x : Nat} {t : List Nat} (h : Hd1 b t) : rep2 a b z (x :: t) = x :: rep2 a b z t := by
  refine rep2_skip a b z x t ?_
  intro e
  cases t with
  | nil => simp at e
  | cons y r => simp at e; exact h y r rfl e.2
theorem rep2_plus {a b : Nat} {z : List Nat} (h : a ≠ 43) : ∀ (p : Nat) (t : List Nat), rep2 a b z (List.replicate p 43 ++ t) = List.replicate p 43 ++ rep2 a b z t
  | 0, t => rfl
  | p + 1, t => by rw [List.replicate_succ, List.cons_append, rep2_skip1 (Ne.symm h), rep2_plus h p t, List.cons_append]
def bump (i : Nat) (c : Nat × Nat) : Nat × Nat := if c.1 = i ∧ 0 < c.2 then (i + 1, c.2 - 1) else c
theorem rep2_col (i : Nat) (c : Nat × Nat) (t : List Nat) (ht : Hd1 43 t) : rep2 (65 + i) 43 [65 + (i + 1)] (colL c ++ t) = colL (bump i c) ++ rep2 (65 + i) 43 [65 + (i + 1)] t := by
  obtain ⟨l, p⟩ := c
  unfold bump
  by_cases h : l = i ∧ 0 < p
  · obtain ⟨rfl, hp⟩ := h
    cases p with
    | zero => omega
    | succ p =>
      rw [if_pos ⟨rfl, by simp⟩]
      show rep2 (65 + l) 43 [65 + (l + 1)] ((65 + l) :: (List.replicate (p + 1) 43 ++ t)) = _
      rw [List.replicate_succ, List.cons_append, rep2_hit, rep2_plus (by omega)]
      rfl
  · rw [if_neg h]
    show rep2 (65 + i) 43 [65 + (i + 1)] ((65 + l) :: (List.replicate p 43 ++ t)) = (65 + l) :: (List.replicate p 43 ++ _)
    by_cases hl : l = i
    · have hp : p = 0 := by
        have : ¬ 0 < p := fun q => h ⟨hl, q⟩
        omega
      subst hp
      rw [List.replicate_zero, List.nil_append, List.nil_append, rep2_skip2 ht]
    · rw [rep2_skip1 (by omega), rep2_plus (by omega)]
theorem rep2_T (i : Nat) (f : Nat → Nat × Nat) : ∀ z, rep2 (65 + i) 43 [65 + (i + 1)] (T f z) = T (fun k => bump i (f k)) z
  | 0 => rfl
  | z + 1 => by rw [T, T, rep2_col i (f z) _ (T_hd f z), rep2_T i f z]
/-- all the 15 passes -/
def bumps : Nat → Nat × Nat → Nat × Nat
  | 0, c => c
  | i + 1, c => bump i (bumps i c)
theorem bumps_eq (l p : Nat) : ∀ i, i ≤ 15 → bumps i (l, p) = if l < i then (min i (l + p), l + p - min i (l + p)) else (l, p)
  | 0, _ => by simp [bumps]
  | i + 1, h => by
    rw [bumps, bumps_eq l p i (by omega)]
    have e : ∀ a b c d : Nat, a = c → b = d → (a, b) = (c, d) := fun _ _ _ _ h1 h2 => by rw [h1, h2]
    unfold bump
    by_cases h1 : l < i
    · have q1 : l < i + 1 := by omega
      simp only [if_pos h1, if_pos q1]
      split <;> (refine e _ _ _ _ ?_ ?_ <;> omega)
    · simp only [if_neg h1]
      by_cases h2 : l = i
      · have q1 : l < i + 1 := by omega
        simp only [if_pos q1]
        split <;> (refine e _ _ _ _ ?_ ?_ <;> omega)
      · have q1 : ¬ l < i + 1 := by omega
        simp only [if_neg q1]
        split <;> (refine e _ _ _ _ ?_ ?_ <;> omega)
/-- the pass that moves a carry -/
def outN (c : Nat × Nat) : Nat := if c.1 = 15 ∧ 0 < c.2 then 1 else 0
def cutN (c : Nat × Nat) : Nat × Nat := if c.1 = 15 ∧ 0 < c.2 then (0, c.2 - 1) else c
def comeN (f : Nat → Nat × Nat) : Nat → Nat
  | 0 => 0
  | k + 1 => outN (f k)
def shiftN (f : Nat → Nat × Nat) (k : Nat) : Nat × Nat := ((cutN (f k)).1, (cutN (f k)).2 + comeN f k)
theorem rep2_outs (c : Nat × Nat) (t : List Nat) (ht : Hd1 43 t) : rep2 80 43 [43, 65] (colL c ++ t) = List.replicate (outN c) 43 ++ colL (cutN c) ++ rep2 80 43 [43, 65] t := by
  obtain ⟨l, p⟩ := c
  unfold outN cutN
  by_cases h : l = 15 ∧ 0 < p
  · obtain ⟨rfl, hp⟩ := h
    cases p with
    | zero => omega
    | succ p =>
      rw [if_pos ⟨rfl, by simp⟩, if_pos ⟨rfl, by simp⟩]
      show rep2 80 43 [43, 65] (80 :: (List.replicate (p + 1) 43 ++ t)) = _
      rw [List.replicate_succ, List.cons_append, rep2_hit, rep2_plus (by omega)]
      rfl
  · rw [if_neg h, if_neg h]
    show rep2 80 43 [43, 65] ((65 + l) :: (List.replicate p 43 ++ t)) = (65 + l) :: (List.replicate p 43 ++ _)
    by_cases hl : l = 15
    · have hp : p = 0 := by
        have : ¬ 0 < p := fun q => h ⟨hl, q⟩
        omega
      subst hp
      rw [List.replicate_zero, List.nil_append, List.nil_append, rep2_skip2 ht]
    · rw [rep2_skip1 (by omega), rep2_plus (by omega)]
theorem rep2_P (f : Nat → Nat × Nat) : ∀ z, rep2 80 43 [43, 65] (T f z) = List.replicate (comeN f z) 43 ++ T (shiftN f) z
  | 0 => rfl
  | z + 1 => by
    rw [T, rep2_outs (f z) _ (T_hd f z), rep2_P f z, T]
    show List.replicate (outN (f z)) 43 ++ colL (cutN (f z)) ++ (List.replicate (comeN f z) 43 ++ T (shiftN f) z) = List.replicate (outN (f z)) 43 ++ (colL (shiftN f z) ++ T (shiftN f) z)
    unfold shiftN colL
    simp only [List.append_assoc, List.cons_append, ← List.replicate_append_replicate]
theorem rep2_none {a b : Nat} {z : List Nat} : ∀ l : List Nat, a ∉ l → rep2 a b z l = l
  | [], _ => rfl
  | x :: t, h => by
    rw [rep2_skip1 (fun e => h (by rw [← e]; exact List.mem_cons_self ..)), rep2_none t (fun q => h (List.mem_cons_of_mem _ q))]
theorem dot_T (f : Nat → Nat × Nat) : ∀ z, 46 ∉ T f z
  | 0 => by simp [T]
  | z + 1 => by
    rw [T, colL]
    simp only [List.cons_append, List.mem_cons, List.mem_append, List.mem_replicate, not_or]
    exact ⟨by omega, by omega, dot_T f z⟩
theorem rep2_dot (f : Nat → Nat × Nat) (z o : Nat) (ho : o ≤ 1) : rep2 46 43 [46, 66] (46 :: (List.replicate o 43 ++ T f z)) = 46 :: (List.replicate o 66 ++ T f z) := by
  have : o = 0 ∨ o = 1 := by omega
  rcases this with rfl | rfl
  · show rep2 46 43 [46, 66] (46 :: T f z) = 46 :: T f z
    rw [rep2_skip2 (T_hd f z), rep2_none _ (dot_T f z)]
  · show rep2 46 43 [46, 66] (46 :: 43 :: T f z) = 46 :: 66 :: T f z
    rw [rep2_hit, rep2_none _ (dot_T f z)]
    rfl
def pass (i : Nat) (l : List Nat) : List Nat := rep2 (65 + i) 43 [65 + (i + 1)] l
def passes : Nat → List Nat → List Nat
  | 0, l => l
  | i + 1, l => pass i (passes i l)
theorem passes_T (f : Nat → Nat × Nat) (z : Nat) : ∀ i, passes i (46 :: T f z) = 46 :: T (fun k => bumps i (f k)) z
  | 0 => rfl
  | i + 1 => by
    rw [passes, passes_T f z i, pass, rep2_skip1 (by omega), rep2_T]
    rfl
/-- one call of the table, on the list -/
def stepL (l : List Nat) : List Nat := rep2 46 43 [46, 66] (rep2 80 43 [43, 65] (passes 15 l))
theorem step_T (f : Nat → Nat × Nat) (z : Nat) : stepL (46 :: T f z) = 46 :: (List.replicate (comeN (fun k => bumps 15 (f k)) z) 66 ++ T (shiftN fun k => bumps 15 (f k)) z) := by
  unfold stepL
  rw [passes_T, rep2_skip1 (by omega), rep2_P, rep2_dot]
  cases z with
  | zero => exact Nat.zero_le _
  | succ z => show outN _ ≤ 1; unfold outN; split <;> omega
end Mine
namespace Mine
def dg (N k : Nat) : Nat := N / 16 ^ k % 16
def cN (N M c r : Nat) : Nat := if 16 ^ (min c r) ≤ N / 16 ^ (c - min c r) % 16 ^ (min c r) + M / 16 ^ (c - min c r) % 16 ^ (min c r) then 1 else 0
theorem cN_le (N M c r : Nat) : cN N M c r ≤ 1 := by unfold cN; split <;> omega
theorem cN_zero (N M r : Nat) : cN N M 0 r = 0 := by
  unfold cN
  rw [Nat.zero_min]
  simp [Nat.mod_one]
theorem cN_none (N M c : Nat) : cN N M c 0 = 0 := by
  unfold cN
  rw [Nat.min_zero]
  simp [Nat.mod_one]
theorem carry_arith (P d a b : Nat) (ha : a < P) (hb : b < P) : (P * 16 ≤ (a + P * d) + b) ↔ (16 ≤ d + if P ≤ a + b then 1 else 0) := by
  have e : P * 16 = P * 15 + P := by omega
  split
  · constructor
    · intro h
      by_cases hd : 15 ≤ d
      · omega
      · have : P * d ≤ P * 14 := Nat.mul_le_mul_left P (by omega)
        omega
    · intro h
      have : P * 15 ≤ P * d := Nat.mul_le_mul_left P (by omega)
      omega
  · constructor
    · intro h
      by_cases hd : 16 ≤ d
      · omega
      · have : P * d ≤ P * 15 := Nat.mul_le_mul_left P (by omega)
        omega
    · intro h
      have : P * 16 ≤ P * d := Nat.mul_le_mul_left P (by omega)
      omega
theorem cN_rec (N M c r : Nat) : cN N M (c + 1) (r + 1) = if 16 ≤ dg N c + dg M c + cN N M c r then 1 else 0 := by
  have e1 : min (c + 1) (r + 1) = min c r + 1 := by omega
  have e2 : c + 1 - (min c r + 1) = c - min c r := by omega
  unfold cN
  rw [e1, e2]
  generalize hw : min c r = w
  have hwc : w ≤ c := by omega
  have hd : ∀ X : Nat, X / 16 ^ (c - w) % 16 ^ (w + 1) = X / 16 ^ (c - w) % 16 ^ w + 16 ^ w * dg X c := by
    intro X
    unfold dg
    rw [Nat.pow_succ, Nat.mod_mul, Nat.div_div_eq_div_mul, ← Nat.pow_add, show c - w + w = c from by omega]
  rw [hd N, hd M, Nat.pow_succ]
  have hp : 0 < 16 ^ w := Nat.pow_pos (by decide)
  have ha := Nat.mod_lt (N / 16 ^ (c - w)) hp
  have hb := Nat.mod_lt (M / 16 ^ (c - w)) hp
  have key := carry_arith (16 ^ w) (dg N c + dg M c) _ _ ha hb
  have e3 : N / 16 ^ (c - w) % 16 ^ w + 16 ^ w * dg N c + (M / 16 ^ (c - w) % 16 ^ w + 16 ^ w * dg M c) = N / 16 ^ (c - w) % 16 ^ w + 16 ^ w * (dg N c + dg M c) + M / 16 ^ (c - w) % 16 ^ w := by
    rw [Nat.mul_add]; omega
  rw [e3]
  by_cases h : 16 ^ w * 16 ≤ N / 16 ^ (c - w) % 16 ^ w + 16 ^ w * (dg N c + dg M c) + M / 16 ^ (c - w) % 16 ^ w
  · rw [if_pos h, if_pos (key.mp h)]
  · rw [if_neg h, if_neg fun q => h (key.mpr q)]
theorem cN_mono (N M : Nat) : ∀ c r, cN N M c r ≤ cN N M c (r + 1)
  | 0, r => by rw [cN_zero]; omega
  | c + 1, 0 => by rw [cN_none]; omega
  | c + 1, r + 1 => by
    have := cN_mono N M c r
    rw [cN_rec, cN_rec]
    split <;> split <;> omega
theorem cN_stab (N M c r : Nat) (h : c ≤ r) : cN N M c r = cN N M c c := by
  unfold cN
  rw [Nat.min_eq_left h, Nat.min_self]
theorem dg_lt (N k : Nat) : dg N k < 16 := Nat.mod_lt _ (by decide)
/-- column k after call j -/
def colN (N M j k : Nat) : Nat × Nat :=
  if j = 0 then (dg N k, dg M k)
  else if j = 1 ∧ 15 < dg N k + dg M k then (0, dg N k + dg M k - 16 + (cN N M k j - cN N M k (j - 1)))
  else ((dg N k + dg M k + cN N M k (j - 1)) % 16, cN N M k j - cN N M k (j - 1))
theorem colN_le (N M j k : Nat) : (colN N M j k).1 ≤ 15 := by
  unfold colN
  have := dg_lt N k
  split
  · show dg N k ≤ 15; omega
  · split
    · exact Nat.zero_le _
    · show (_ % 16) ≤ 15; omega
theorem bumps15 {c : Nat × Nat} (h : c.1 ≤ 15) : bumps 15 c = (min 15 (c.1 + c.2), c.1 + c.2 - min 15 (c.1 + c.2)) := by
  obtain ⟨l, p⟩ := c
  simp only at h
  rw [bumps_eq l p 15 (by omega)]
  split
  · rfl
  · have e : ∀ a b c d : Nat, a = c → b = d → (a, b) = (c, d) := fun _ _ _ _ h1 h2 => by rw [h1, h2]
    refine e _ _ _ _ ?_ ?_ <;> simp only <;> omega
theorem out15 {c : Nat × Nat} (h : c.1 ≤ 15) : outN (bumps 15 c) = if 16 ≤ c.1 + c.2 then 1 else 0 := by
  rw [bumps15 h]
  unfold outN
  simp only
  split <;> split <;> omega
theorem cut15 {c : Nat × Nat} (h : c.1 ≤ 15) : cutN (bumps 15 c) = if 16 ≤ c.1 + c.2 then (0, c.1 + c.2 - 16) else (c.1 + c.2, 0) := by
  rw [bumps15 h]
  have e : ∀ a b c d : Nat, a = c → b = d → (a, b) = (c, d) := fun _ _ _ _ h1 h2 => by rw [h1, h2]
  unfold cutN
  simp only
  split <;> split <;> (refine e _ _ _ _ ?_ ?_ <;> omega)
theorem colN0 (N M k : Nat) : colN N M 0 k = (dg N k, dg M k) := by unfold colN; rw [if_pos rfl]
theorem colN1a {N M k : Nat} (h : 15 < dg N k + dg M k) : colN N M 1 k = (0, dg N k + dg M k - 16 + cN N M k 1) := by
  unfold colN
  rw [if_neg (by decide), if_pos ⟨rfl, h⟩, Nat.sub_self, cN_none, Nat.sub_zero]
theorem colN1b {N M k : Nat} (h : ¬ 15 < dg N k + dg M k) : colN N M 1 k = (dg N k + dg M k, cN N M k 1) := by
  unfold colN
  rw [if_neg (by decide), if_neg fun q => h q.2, Nat.sub_self, cN_none, Nat.sub_zero, Nat.add_zero, Nat.mod_eq_of_lt (by omega)]
theorem colN2 (N M j k : Nat) : colN N M (j + 2) k = ((dg N k + dg M k + cN N M k (j + 1)) % 16, cN N M k (j + 2) - cN N M k (j + 1)) := by
  unfold colN
  rw [if_neg (by omega), if_neg fun q => by omega]
  rfl
theorem ifs {p q : Prop} [Decidable p] [Decidable q] (h : p ↔ q) : (if p then 1 else 0 : Nat) = if q then 1 else 0 := by
  by_cases hp : p
  · rw [if_pos hp, if_pos (h.mp hp)]
  · rw [if_neg hp, if_neg fun x => hp (h.mpr x)]
/-- what a column sends on -/
theorem out_col (N M j k : Nat) : (if 16 ≤ (colN N M j k).1 + (colN N M j k).2 then 1 else 0) = cN N M (k + 1) (j + 1) - cN N M (k + 1) j := by
  have ha := dg_lt N k
  have hb := dg_lt M k
  have h1 := cN_le N M k j
  have h1' := cN_le N M k (j + 1)
  have h2 := cN_mono N M k j
  rw [cN_rec]
  match j with
  | 0 =>
    rw [cN_none, cN_none, colN0]
    simp only [Nat.sub_zero]
    exact ifs (by omega)
  | 1 =>
    have e := cN_rec N M k 0
    rw [cN_none] at e
    rw [show (1 : Nat) = 0 + 1 from rfl, e]
    show (if 16 ≤ (colN N M 1 k).1 + (colN N M 1 k).2 then 1 else 0) = (if 16 ≤ dg N k + dg M k + cN N M k 1 then 1 else 0) - _
    by_cases hc : 15 < dg N k + dg M k
    · rw [colN1a hc]
      simp only
      rw [if_neg (by omega), if_pos (by omega), if_pos (by omega)]
    · rw [colN1b hc]
      simp only
      rw [if_neg (show ¬ 16 ≤ dg N k + dg M k + 0 by omega), Nat.sub_zero]
  | j + 2 =>
    have h4 := cN_le N M k (j + 1)
    have h5 : cN N M k (j + 1) ≤ cN N M k (j + 2) := cN_mono N M k (j + 1)
    rw [show cN N M (k + 1) (j + 2) = if 16 ≤ dg N k + dg M k + cN N M k (j + 1) then 1 else 0 from cN_rec N M k (j + 1), colN2]
    simp only
    by_cases q1 : 16 ≤ dg N k + dg M k + cN N M k (j + 1)
    · have q2 : ¬ 16 ≤ (dg N k + dg M k + cN N M k (j + 1)) % 16 + (cN N M k (j + 2) - cN N M k (j + 1)) := by omega
      have q3 : 16 ≤ dg N k + dg M k + cN N M k (j + 2) := by omega
      rw [if_pos q1, if_neg q2, if_pos q3]
    · rw [if_neg q1, Nat.sub_zero]
      exact ifs (by omega)
theorem come_col (N M j k : Nat) : comeN (fun k => bumps 15 (colN N M j k)) k = cN N M k (j + 1) - cN N M k j := by
  cases k with
  | zero => rw [cN_zero, cN_zero]; rfl
  | succ k =>
    show outN (bumps 15 (colN N M j k)) = _
    rw [out15 (colN_le N M j k), out_col]
theorem pair2 {a b c d : Nat} (h1 : a = c) (h2 : b = d) : (a, b) = (c, d) := by rw [h1, h2]
theorem next_col (N M j k : Nat) : shiftN (fun k => bumps 15 (colN N M j k)) k = colN N M (j + 1) k := by
  unfold shiftN
  rw [come_col, cut15 (colN_le N M j k)]
  have ha := dg_lt N k
  have hb := dg_lt M k
  have h1 := cN_le N M k j
  have h1' := cN_le N M k (j + 1)
  have h3 := cN_mono N M k j
  match j with
  | 0 =>
    rw [cN_none, colN0]
    by_cases hc : 15 < dg N k + dg M k
    · rw [colN1a hc, if_pos (show 16 ≤ dg N k + dg M k by omega)]
      exact pair2 rfl (by simp only [Nat.sub_zero, Nat.zero_add])
    · rw [colN1b hc, if_neg (show ¬ 16 ≤ dg N k + dg M k by omega)]
      exact pair2 rfl (by simp only [Nat.sub_zero, Nat.zero_add])
  | 1 =>
    rw [show colN N M (1 + 1) k = ((dg N k + dg M k + cN N M k 1) % 16, cN N M k 2 - cN N M k 1) from colN2 N M 0 k, show cN N M k (1 + 1) = cN N M k 2 from rfl]
    by_cases hc : 15 < dg N k + dg M k
    · rw [colN1a hc]
      rw [if_neg (show ¬ 16 ≤ 0 + (dg N k + dg M k - 16 + cN N M k 1) by omega)]
      exact pair2 (by simp only; omega) (by simp only [Nat.zero_add])
    · rw [colN1b hc]
      by_cases q : 16 ≤ dg N k + dg M k + cN N M k 1
      · rw [if_pos q]
        exact pair2 (by simp only; omega) (by simp only; omega)
      · rw [if_neg q]
        exact pair2 (by simp only; omega) (by simp only; omega)
  | j + 2 =>
    have h4 := cN_le N M k (j + 1)
    have h5 : cN N M k (j + 1) ≤ cN N M k (j + 2) := cN_mono N M k (j + 1)
    rw [show colN N M (j + 2 + 1) k = ((dg N k + dg M k + cN N M k (j + 2)) % 16, cN N M k (j + 3) - cN N M k (j + 2)) from colN2 N M (j + 1) k, colN2, show cN N M k (j + 2 + 1) = cN N M k (j + 3) from rfl]
    simp only
    by_cases q : 16 ≤ (dg N k + dg M k + cN N M k (j + 1)) % 16 + (cN N M k (j + 2) - cN N M k (j + 1))
    · rw [if_pos q]
      exact pair2 (by simp only; omega) (by simp only; omega)
    · rw [if_neg q]
      exact pair2 (by simp only; omega) (by simp only; omega)
theorem come_congr {f g : Nat → Nat × Nat} : ∀ z, (∀ k, k < z → f k = g k) → comeN f z = comeN g z
  | 0, _ => rfl
  | z + 1, h => by show outN (f z) = outN (g z); rw [h z (by omega)]
/-- the text after call j, as a list of signs -/
def stN (N M z j : Nat) : List Nat := 46 :: (List.replicate (cN N M z j) 66 ++ T (colN N M j) z)
theorem step_stN (N M z j : Nat) : stepL (stN N M z j) = stN N M z (j + 1) := by
  have h1 := cN_le N M z j
  have h1' := cN_le N M z (j + 1)
  have h3 := cN_mono N M z j
  have hT : T (shiftN fun k => bumps 15 (colN N M j k)) z = T (colN N M (j + 1)) z := T_congr fun k _ => next_col N M j k
  unfold stN
  by_cases h0 : cN N M z j = 0
  · rw [h0, List.replicate_zero, List.nil_append, step_T, come_col, h0, Nat.sub_zero, hT]
  · have e1 : cN N M z j = 1 := by omega
    have e2 : cN N M z (j + 1) = 1 := by omega
    rw [e1, e2]
    obtain ⟨f, hf, hz⟩ : ∃ f : Nat → Nat × Nat, (∀ k, k < z → f k = colN N M j k) ∧ f z = (1, 0) :=
      ⟨fun k => if k = z then (1, 0) else colN N M j k, fun k hk => if_neg (by omega), if_pos rfl⟩
    have es : List.replicate 1 66 ++ T (colN N M j) z = T f (z + 1) := by
      rw [T, hz, T_congr hf]; rfl
    have hb : ∀ k, k < z → (fun k => bumps 15 (f k)) k = (fun k => bumps 15 (colN N M j k)) k := fun k hk => by simp only [hf k hk]
    have ec : comeN (fun k => bumps 15 (f k)) (z + 1) = 0 := by
      show outN (bumps 15 (f z)) = 0
      rw [hz]; rfl
    have ecz : comeN (fun k => bumps 15 (f k)) z = 0 := by
      rw [come_congr z hb, come_col, e1, e2]
    have eh : shiftN (fun k => bumps 15 (f k)) z = (1, 0) := by
      unfold shiftN
      rw [ecz]
      simp only [hz]
      rfl
    have et : T (shiftN fun k => bumps 15 (f k)) z = T (colN N M (j + 1)) z := by
      refine T_congr fun k hk => ?_
      rw [← next_col]
      unfold shiftN
      rw [come_congr k fun i hi => hb i (by omega)]
      simp only [hf k hk]
    rw [es, step_T, ec, List.replicate_zero, List.nil_append, T, eh, et]
    rfl
end Mine
namespace Mine
theorem sPlus : Str.ofString "+" = ⟨#[43]⟩ := by decide +kernel
theorem sA : Str.ofString "A" = ⟨#[65]⟩ := by decide +kernel
theorem sB : Str.ofString "B" = ⟨#[66]⟩ := by decide +kernel
theorem sDot : Str.ofString "." = ⟨#[46]⟩ := by decide +kernel
theorem str_ext {x y : Str} (h : x.cps.toList = y.cps.toList) : x = y := by
  cases x; cases y
  congr 1
  exact Array.toList_inj.mp h
theorem cps_append (x y : Str) : (x ++ y).cps.toList = x.cps.toList ++ y.cps.toList := Array.toList_append
theorem fold_rep (c : Nat) : ∀ (p : Nat) (a : Array Nat), ((List.replicate p #[c]).foldl (· ++ ·) a).toList = a.toList ++ List.replicate p c
  | 0, a => by simp
  | p + 1, a => by
    rw [List.replicate_succ, List.foldl_cons, fold_rep c p, Array.toList_append, List.replicate_succ, List.append_assoc]
    rfl
theorem mul1 (c : Nat) (i : Int) : (Txt.mul ⟨#[c]⟩ i).cps.toList = List.replicate i.toNat c := by
  unfold Txt.mul
  by_cases h : i < 1
  · rw [if_pos h, show i.toNat = 0 by omega]
    rfl
  · rw [if_neg h]
    by_cases h1 : i = 1
    · subst h1
      rfl
    · have : (i == 1 || (⟨#[c]⟩ : Str).length == 0) = false := by
        have e : (i == 1) = false := by simpa using h1
        rw [e]; rfl
      rw [this]
      show ((List.replicate i.toNat #[c]).foldl (· ++ ·) #[]).toList = _
      rw [fold_rep]
      rfl
theorem T_flat (f : Nat → Nat × Nat) : ∀ z, T f z = (List.range' 0 z).flatMap fun i => colL (f (z - 1 - i))
  | 0 => rfl
  | z + 1 => by
    rw [T, T_flat f z, List.range'_succ, List.flatMap_cons, show z + 1 - 1 - 0 = z by omega, show 0 + 1 = 1 from rfl, List.range'_eq_map_range, List.range'_eq_map_range]
    congr 1
    rw [List.flatMap_map, List.flatMap_map]
    congr 1
    funext i
    rw [show z + 1 - 1 - (1 + i) = z - 1 - (0 + i) by omega]
theorem i_div (N k : Nat) : (N : Int).fdiv (16 ^ k) = ((N / 16 ^ k : Nat) : Int) := by
  rw [show ((16 : Int) ^ k) = ((16 ^ k : Nat) : Int) by push_cast; rfl]
  exact (Int.ofNat_fdiv N (16 ^ k)).symm
theorem i_mod (N k : Nat) : (N : Int).fmod (16 ^ k) = ((N % 16 ^ k : Nat) : Int) := by
  rw [show ((16 : Int) ^ k) = ((16 ^ k : Nat) : Int) by push_cast; rfl]
  exact (Int.ofNat_fmod N (16 ^ k)).symm
theorem i_mod16 (N : Nat) : (N : Int).fmod 16 = ((N % 16 : Nat) : Int) := (Int.ofNat_fmod N 16).symm
theorem carry_nat (N M c r : Nat) : carryF N M c r = (cN N M c r : Int) := by
  unfold carryF cN
  have e1 : (if (r : Int) < (c : Int) then (r : Int) else (c : Int)).toNat = min c r := by split <;> omega
  have e2 : ((c : Int) - if (r : Int) < (c : Int) then (r : Int) else (c : Int)).toNat = c - min c r := by split <;> omega
  rw [e1, e2, i_div, i_div, i_mod, i_mod, show ((16 : Int) ^ min c r) = ((16 ^ min c r : Nat) : Int) by push_cast; rfl]
  by_cases h : 16 ^ min c r ≤ N / 16 ^ (c - min c r) % 16 ^ min c r + M / 16 ^ (c - min c r) % 16 ^ min c r
  · rw [if_pos h, if_pos (by exact_mod_cast h)]
    rfl
  · rw [if_neg h, if_neg (by exact_mod_cast h)]
    rfl
theorem i_dg (N k : Nat) : ((N : Int).fdiv (16 ^ (k : Int).toNat)).fmod 16 = (dg N k : Int) := by
  rw [Int.toNat_natCast, i_div, i_mod16]
  rfl
theorem item16 (i : Nat) (h : i < 16) : Txt.item (Str.ofString "ABCDEFGHIJKLMNOP") (i : Int) = ⟨#[65 + i]⟩ := by
  have : i = 0 ∨ i = 1 ∨ i = 2 ∨ i = 3 ∨ i = 4 ∨ i = 5 ∨ i = 6 ∨ i = 7 ∨ i = 8 ∨ i = 9 ∨ i = 10 ∨ i = 11 ∨ i = 12 ∨ i = 13 ∨ i = 14 ∨ i = 15 := by omega
  rcases this with rfl|rfl|rfl|rfl|rfl|rfl|rfl|rfl|rfl|rfl|rfl|rfl|rfl|rfl|rfl|rfl <;> decide +kernel
theorem piece_nat (N M j k : Nat) (hj : 1 ≤ j) : (pieceF N M j k).cps.toList = colL (colN N M j k) := by
  have e1 : (j : Int) - 1 = ((j - 1 : Nat) : Int) := by omega
  have hm : cN N M k (j - 1) ≤ cN N M k j := by
    have := cN_mono N M k (j - 1)
    rwa [show j - 1 + 1 = j by omega] at this
  unfold pieceF colN
  rw [i_dg, i_dg, e1, carry_nat, carry_nat, if_neg (show j ≠ 0 by omega)]
  by_cases h : j = 1 ∧ 15 < dg N k + dg M k
  · rw [if_pos h, if_pos (by omega), cps_append, sA, sPlus, mul1]
    unfold colL
    show 65 :: List.replicate _ 43 = 65 :: List.replicate _ 43
    congr 2
    simp only
    omega
  · have h' : ¬ ((j : Int) = 1 ∧ 15 < (dg N k : Int) + (dg M k : Int)) := by omega
    rw [if_neg h, if_neg h', cps_append, sPlus, mul1, show (dg N k : Int) + (dg M k : Int) + (cN N M k (j - 1) : Int) = ((dg N k + dg M k + cN N M k (j - 1) : Nat) : Int) by push_cast; rfl, i_mod16, item16 _ (Nat.mod_lt _ (by decide))]
    unfold colL
    show _ :: List.replicate _ 43 = _ :: List.replicate _ 43
    congr 2
    simp only
    omega
theorem fold_rows (f : Int → Str) : ∀ (l : List Int) (a : Str), (l.foldl (fun row k => row ++ f k) a).cps.toList = a.cps.toList ++ l.flatMap fun k => (f k).cps.toList
  | [], a => by simp
  | k :: r, a => by rw [List.foldl_cons, fold_rows f r, cps_append, List.flatMap_cons, List.append_assoc]
theorem fm_congr {α β : Type} {f g : α → List β} : ∀ l : List α, (∀ x ∈ l, f x = g x) → l.flatMap f = l.flatMap g
  | [], _ => rfl
  | x :: r, h => by rw [List.flatMap_cons, List.flatMap_cons, h x (.head _), fm_congr r fun y hy => h y (.tail _ hy)]
theorem due_nat (N M z j : Nat) (hj : 1 ≤ j) : dueF N M z j = ⟨(stN N M z j).toArray⟩ := by
  refine str_ext ?_
  unfold dueF dueRow stN
  rw [fold_rows, cps_append, sDot, sB, mul1, carry_nat, Int.toNat_natCast, T_flat]
  show [46] ++ List.replicate (cN N M z j) 66 ++ _ = 46 :: (List.replicate (cN N M z j) 66 ++ _)
  rw [List.append_assoc, List.singleton_append]
  congr 2
  unfold downKs
  rw [Int.toNat_natCast, List.flatMap_map, ← List.range_eq_range']
  refine fm_congr _ fun i hi => ?_
  have := List.mem_range.mp hi
  rw [show (z : Int) - 1 - (i : Int) = ((z - 1 - i : Nat) : Int) by omega]
  exact piece_nat N M j _ hj
/-- the table -/
def tab15 (k : Nat) : Str × Str := (⟨#[65 + k, 43]⟩, ⟨#[65 + (k + 1)]⟩)
def tableL : List (Str × Str) := (List.range' 0 15).map tab15 ++ [(⟨#[80, 43]⟩, ⟨#[43, 65]⟩), (⟨#[46, 43]⟩, ⟨#[46, 66]⟩)]
theorem passes_all (x : Str) : ∀ i, ((List.range' 0 i).map tab15).foldl (fun r p => Txt.replace r p.1 p.2) x = ⟨(passes i x.cps.toList).toArray⟩
  | 0 => rfl
  | i + 1 => by
    rw [List.range'_1_concat, List.map_append, List.foldl_append, passes_all x i]
    show Txt.replace _ _ _ = _
    unfold tab15
    rw [replace_pair, passes, pass, Nat.zero_add]
theorem repl_all (x : Str) : replAll tableL x = ⟨(stepL x.cps.toList).toArray⟩ := by
  unfold replAll tableL
  rw [List.foldl_append, passes_all]
  show Txt.replace (Txt.replace _ _ _) _ _ = _
  rw [replace_pair, replace_pair]
  rfl
theorem step_due (N M z j : Nat) : replAll tableL ⟨(stN N M z j).toArray⟩ = ⟨(stN N M z (j + 1)).toArray⟩ := by
  rw [repl_all, step_stN]
end Mine
namespace Mine
/-- the figures of a number, from the left -/
def dgL (N : Nat) : Nat → List Nat
  | 0 => []
  | z + 1 => (65 + dg N z) :: dgL N z
theorem dgL_len (N : Nat) : ∀ z, (dgL N z).length = z
  | 0 => rfl
  | z + 1 => by rw [dgL, List.length_cons, dgL_len N z]
theorem dg_div (N k : Nat) : dg N (k + 1) = dg (N / 16) k := by
  unfold dg
  rw [Nat.div_div_eq_div_mul, Nat.pow_succ, Nat.mul_comm]
theorem dgL_right (N : Nat) : ∀ z, dgL N (z + 1) = dgL (N / 16) z ++ [65 + N % 16]
  | 0 => by
    show [65 + dg N 0] = _
    unfold dg
    rw [Nat.pow_zero, Nat.div_one]
    rfl
  | z + 1 => by
    rw [dgL, dgL_right N z, dg_div, dgL, List.cons_append]
theorem dgL_at (N : Nat) : ∀ z k, k < z → (dgL N z)[k]? = some (65 + dg N (z - 1 - k))
  | 0, _, h => by omega
  | z + 1, 0, _ => by rw [dgL, show z + 1 - 1 - 0 = z by omega]; rfl
  | z + 1, k + 1, h => by
    rw [dgL, List.getElem?_cons_succ, dgL_at N z k (by omega), show z + 1 - 1 - (k + 1) = z - 1 - k by omega]
theorem u8 (c : Nat) (h : c < 16) : (UInt8.ofNat (65 + c)).toNat = 65 + c := by
  rw [UInt8.toNat_ofNat']
  omega
def apN (N : Nat) : List Nat := (apB N).map UInt8.toNat
theorem apN_pos {N : Nat} (h : N ≠ 0) : apN N = apN (N / 16) ++ [65 + N % 16] := by
  unfold apN
  rw [apB_pos h, List.map_append]
  show _ ++ [(UInt8.ofNat (65 + N % 16)).toNat] = _
  rw [u8 _ (Nat.mod_lt _ (by decide))]
theorem apN_zero : apN 0 = [] := by unfold apN; rw [apB_zero]; rfl
theorem apN_len (e N : Nat) (h : N < 16 ^ e) : (apN N).length ≤ e := by unfold apN; rw [List.length_map]; exact apB_len e N h
theorem apN_ge : ∀ (e N : Nat), 16 ^ e ≤ N → e + 1 ≤ (apN N).length
  | 0, N, h => by
    have : N ≠ 0 := by simp at h; omega
    rw [apN_pos this, List.length_append]
    simp
  | e + 1, N, h => by
    have hp : 0 < 16 ^ (e + 1) := Nat.pow_pos (by decide)
    have := apN_ge e (N / 16) (by rw [Nat.pow_succ] at h; omega)
    rw [apN_pos (by omega), List.length_append]
    simp only [List.length_cons, List.length_nil]
    omega
theorem pad (N : Nat) : ∀ z, N < 16 ^ z → List.replicate (z - (apN N).length) 65 ++ apN N = dgL N z
  | 0, h => by
    have : N = 0 := by simpa using h
    subst this
    rw [apN_zero]
    rfl
  | z + 1, h => by
    rw [dgL_right]
    by_cases h0 : N = 0
    · subst h0
      have := pad 0 z (Nat.pow_pos (by decide))
      rw [apN_zero, List.append_nil] at this ⊢
      rw [Nat.zero_div, ← this]
      simp only [List.length_nil, Nat.sub_zero]
      rw [List.replicate_succ']
    · have := pad (N / 16) z (by rw [Nat.pow_succ] at h; omega)
      rw [apN_pos h0, List.length_append]
      simp only [List.length_cons, List.length_nil]
      rw [← this, List.append_assoc, show z + 1 - ((apN (N / 16)).length + (0 + 1)) = z - (apN (N / 16)).length by omega]
theorem word_nat (n : Int) : wordS n = ⟨(apN n.natAbs).toArray⟩ := rfl
theorem word_len (n : Int) : (wordS n).length = (apN n.natAbs).length := by
  rw [word_nat]
  exact List.size_toArray ..
theorem lt_of_len {N z : Nat} (h : (apN N).length ≤ z) : N < 16 ^ z := by
  rcases Nat.lt_or_ge N (16 ^ z) with q | q
  · exact q
  · have := apN_ge z N q
    omega
/-- a padded word -/
def padS (N z : Nat) : Str := ⟨(dgL N z).toArray⟩
theorem padS_len (N z : Nat) : (padS N z).length = z := by
  show (dgL N z).toArray.size = z
  rw [List.size_toArray, dgL_len]
theorem pad_word {n : Int} {z : Nat} {i : Int} (hz : (wordS n).length ≤ z) (hi : i = (z : Int) - ((wordS n).length : Int)) : Txt.mul (Str.ofString "A") i ++ wordS n = padS n.natAbs z := by
  refine str_ext ?_
  rw [cps_append, sA, mul1, hi, show ((z : Int) - ((wordS n).length : Int)).toNat = z - (wordS n).length by omega, word_len]
  exact pad n.natAbs z (lt_of_len (by rw [← word_len]; exact hz))
theorem padS_item {N z k : Nat} (h : k < z) : Txt.item (padS N z) (k : Int) = ⟨#[65 + dg N (z - 1 - k)]⟩ := by
  unfold Txt.item Txt.charAt
  have e : seqIndex? (k : Int) (padS N z).length = some k := by
    rw [padS_len]
    have hk : ¬ ((k : Int) < 0) := by omega
    have hb : ((decide ((0 : Int) ≤ (k : Int))) && decide ((k : Int) < (z : Int))) = true := by
      rw [decide_eq_true (show (0 : Int) ≤ (k : Int) by omega), decide_eq_true (show (k : Int) < (z : Int) by omega)]
      rfl
    unfold seqIndex?
    rw [if_neg hk]
    simp only
    rw [if_pos hb]
    rfl
  rw [e]
  show (⟨#[((dgL N z).toArray[k]?).getD 0]⟩ : Str) = _
  rw [List.getElem?_toArray, dgL_at N z k h]
  rfl
/-- the first text -/
def pieceT (N M z k : Nat) : Str := ⟨#[65 + dg N (z - 1 - k)]⟩ ++ Txt.mul (Str.ofString "+") (dg M (z - 1 - k) : Nat)
theorem text0 (N M z : Nat) : Str.ofString "." ++ Txt.join (Str.ofString "") ((List.range' 0 z).map (pieceT N M z)) = ⟨(stN N M z 0).toArray⟩ := by
  refine str_ext ?_
  rw [cps_append, sDot, join_empty, List.flatMap_map]
  unfold stN
  rw [cN_none, T_flat]
  show 46 :: _ = 46 :: _
  congr 1
  refine fm_congr _ fun i _ => ?_
  unfold pieceT
  rw [cps_append, sPlus, mul1, Int.toNat_natCast]
  rfl
theorem dg_add (N M k : Nat) : dg (N + M) k = (dg N k + dg M k + cN N M k k) % 16 := by
  unfold dg cN
  rw [Nat.min_self, Nat.sub_self, Nat.pow_zero, Nat.div_one, Nat.div_one]
  have hp : 0 < 16 ^ k := Nat.pow_pos (by decide)
  generalize 16 ^ k = P at hp
  have e1 := Nat.div_add_mod N P
  have e2 := Nat.div_add_mod M P
  have h1 := Nat.mod_lt N hp
  have h2 := Nat.mod_lt M hp
  have e : (N + M) / P = N / P + M / P + if P ≤ N % P + M % P then 1 else 0 := by
    have : N + M = P * (N / P + M / P) + (N % P + M % P) := by rw [Nat.mul_add]; omega
    rw [this, Nat.mul_add_div hp]
    congr 1
    split
    · rename_i h
      rw [Nat.div_eq_of_lt_le (k := 1) (by omega) (by omega)]
    · rename_i h
      exact Nat.div_eq_of_lt (by omega)
  rw [e]
  split <;> omega
theorem T_flatL (S : Nat) (f : Nat → Nat × Nat) : ∀ z, (∀ k, k < z → f k = (dg S k, 0)) → T f z = dgL S z
  | 0, _ => rfl
  | z + 1, h => by
    rw [T, dgL, h z (by omega), T_flatL S f z fun k hk => h k (by omega)]
    rfl
/-- after the last call: the word of the sum -/
theorem last (N M z : Nat) (hN : N < 16 ^ z) (hM : M < 16 ^ z) (ht : z ≠ 0 → 16 ^ (z - 1) ≤ N + M) : stN N M z (z + 1) = 46 :: apN (N + M) := by
  unfold stN
  rw [cN_stab N M z (z + 1) (by omega)]
  have hT : T (colN N M (z + 1)) z = dgL (N + M) z := by
    refine T_flatL (N + M) _ z fun k hk => ?_
    obtain ⟨y, rfl⟩ : ∃ y, z = y + 1 := ⟨z - 1, by omega⟩
    rw [show colN N M (y + 1 + 1) k = _ from colN2 N M y k, cN_stab N M k (y + 1) (by omega), cN_stab N M k (y + 2) (by omega), dg_add, Nat.sub_self]
  rw [hT]
  congr 1
  have hc : cN N M z z = if 16 ^ z ≤ N + M then 1 else 0 := by
    unfold cN
    rw [Nat.min_self, Nat.sub_self, Nat.pow_zero, Nat.div_one, Nat.div_one, Nat.mod_eq_of_lt hN, Nat.mod_eq_of_lt hM]
  rw [hc]
  by_cases h : 16 ^ z ≤ N + M
  · rw [if_pos h]
    have e : dgL (N + M) (z + 1) = List.replicate 1 66 ++ dgL (N + M) z := by
      rw [dgL]
      unfold dg
      rw [Nat.div_eq_of_lt_le (k := 1) (by omega) (by omega)]
      rfl
    have hl := apN_ge z (N + M) h
    rw [← e, ← pad (N + M) (z + 1) (by rw [Nat.pow_succ]; omega), show z + 1 - (apN (N + M)).length = 0 by omega]
    rfl
  · rw [if_neg h]
    have hl : z ≤ (apN (N + M)).length := by
      cases z with
      | zero => omega
      | succ y =>
        have := apN_ge y (N + M) (ht (by omega))
        omega
    rw [List.replicate_zero, List.nil_append, ← pad (N + M) z (by omega), show z - (apN (N + M)).length = 0 by omega]
    rfl
theorem last_word {n m : Int} {z : Nat} (hn : 0 ≤ n) (hm : 0 ≤ m) (h1 : (wordS n).length ≤ z) (h2 : (wordS (-m)).length ≤ z) (h3 : z = (wordS n).length ∨ z = (wordS (-m)).length) :
    (⟨(stN n.natAbs m.natAbs z (z + 1)).toArray⟩ : Str) = Str.ofString "." ++ wordS (n + m) := by
  rw [word_len] at h1 h2 h3
  rw [word_len, Int.natAbs_neg] at h3
  rw [Int.natAbs_neg] at h2
  rw [last _ _ _ (lt_of_len h1) (lt_of_len h2) fun hz => ?_]
  · refine str_ext ?_
    rw [cps_append, sDot, word_nat, show (n + m).natAbs = n.natAbs + m.natAbs by omega]
    rfl
  · obtain ⟨y, rfl⟩ : ∃ y, z = y + 1 := ⟨z - 1, by omega⟩
    show 16 ^ y ≤ _
    have a1 : ¬ n.natAbs + m.natAbs < 16 ^ y := fun q => by
      have b1 := apN_len y n.natAbs (by omega)
      have b2 := apN_len y m.natAbs (by omega)
      omega
    omega
theorem colN_p (N M j k : Nat) : (colN N M j k).2 ≤ 15 := by
  have ha := dg_lt N k
  have hb := dg_lt M k
  have h1 := cN_le N M k j
  unfold colN
  split
  · show dg M k ≤ 15; omega
  · split
    · show dg N k + dg M k - 16 + (_ - _) ≤ 15; omega
    · show _ - _ ≤ 15; omega
theorem T_len (f : Nat → Nat × Nat) (h : ∀ k, (f k).2 ≤ 15) : ∀ z, (T f z).length ≤ 16 * z
  | 0 => Nat.le_refl _
  | z + 1 => by
    rw [T, List.length_append]
    have := T_len f h z
    have := h z
    unfold colL
    rw [List.length_cons, List.length_replicate]
    omega
theorem st_len (N M z j : Nat) (hz : z ≤ 8) : (⟨(stN N M z j).toArray⟩ : Str).length ≤ 200 := by
  show (stN N M z j).toArray.size ≤ 200
  rw [List.size_toArray]
  unfold stN
  rw [List.length_cons, List.length_append, List.length_replicate]
  have := T_len (colN N M j) (colN_p N M j) z
  have := cN_le N M z j
  omega
theorem T_mem {c : Nat} (f : Nat → Nat × Nat) (h : ∀ k, (f k).1 ≤ 15) (hc : c ≠ 43) (hc' : c < 65) : ∀ z, c ∉ T f z
  | 0 => by simp [T]
  | z + 1 => by
    rw [T, colL]
    simp only [List.cons_append, List.mem_cons, List.mem_append, List.mem_replicate, not_or]
    exact ⟨by omega, fun q => hc q.2, T_mem f h hc hc' z⟩
theorem st_mem {c : Nat} (N M z j : Nat) (h1 : c ≠ 43) (h2 : c ≠ 46) (h3 : c < 65) : c ∉ (⟨(stN N M z j).toArray⟩ : Str).cps.toList := by
  show c ∉ stN N M z j
  unfold stN
  simp only [List.mem_cons, List.mem_append, List.mem_replicate, not_or]
  exact ⟨h2, fun q => by omega, T_mem _ (colN_le N M j) h1 h3 z⟩
end Mine
namespace Mine
section
variable {prog : Program} {w : World} {A : Around} {E : Value → Shared → Prop} {s : Shared} {h₀ : Heap} {L D : Addr} {news : List (Addr × Obj)} {t u : Tok} {Q : Value → Shared → Prop}
theorem padI {N z k : Nat} {value slice : PySem.Expr} (hk : k < z) (hz : z ≤ 8) (h : ∀ t' tk, Q (.str ⟨#[65 + dg N (z - 1 - k)]⟩ t') { s with toks := tk })
    (hs : subscripted slice false (.str (padS N z) t) (.int (k : Int) u) = operate [.str (padS N z) t, .int (k : Int) u] (getItem (.str (padS N z) t) (.int (k : Int) u)))
    (ht : ∀ r, letTemporaryGo value (.str (padS N z) t) r = pure ()) :
    wpAny (model prog w) A (subscriptTail value slice (.str (padS N z) t) (.int (k : Int) u)) Q E s := by
  refine itemS (by omega) (by rw [padS_len]; omega) (by rw [padS_len]; omega) ?_ hs ht
  intro r t' tk hr _ _ _
  rw [hr, padS_item hk]
  exact h _ _
theorem ordC {c : Nat} (h : ∀ t' tk, Q (.int (c : Int) t') { s with toks := tk }) : wpAny (model prog w) A (call (.builtin "ord") [.str ⟨#[c]⟩ t]) Q E s := PySem.P.ord_of_char (h _ _)
theorem pieceV {N M z k : Nat} {r p : Str} {i : Int} {t : Tok} (hr : r = ⟨#[65 + dg N (z - 1 - k)]⟩ ++ p) (hp : p = Txt.mul (Str.ofString "+") i) (hi : i = ((65 + dg M (z - 1 - k) : Nat) : Int) - 65) : Value.str r t = Value.str (pieceT N M z k) t := by
  unfold pieceT
  rw [hr, hp, hi, show ((65 + dg M (z - 1 - k) : Nat) : Int) - 65 = ((dg M (z - 1 - k) : Nat) : Int) by omega]
theorem sum_len (f : Nat → Str) (c : Nat) (h : ∀ k, (f k).length ≤ c) : ∀ l : List Nat, ((l.map f).map (·.length)).sum ≤ c * l.length
  | [] => Nat.le_refl _
  | k :: r => by
    have := sum_len f c h r
    have := h k
    simp only [List.map_cons, List.sum_cons, List.length_cons] at *
    rw [Nat.mul_succ]
    omega
theorem len_cps (x : Str) : x.length = x.cps.toList.length := rfl
theorem pieceT_len (N M z k : Nat) : (pieceT N M z k).length ≤ 16 := by
  unfold pieceT
  rw [len_cps, cps_append, sPlus, mul1, List.length_append, List.length_replicate]
  have := dg_lt M (z - 1 - k)
  show 1 + _ ≤ 16
  omega
theorem joinT {ys : List Value} {N M z : Nat} (Nw : News h₀ L s.heap ((D, LCg.lst ys) :: news)) (hl : ys.length = z) (hz : z ≤ 8) (hv : ∀ (j : Nat) y, ys[j]? = some y → ∃ t, y = .str (pieceT N M z j) t)
    (h : ∀ X t' k, Str.ofString "." ++ X = ⟨(stN N M z 0).toArray⟩ → X.length ≤ 200 → Q (.str X t') { s with toks := k }) :
    wpAny (model prog w) A (call (.builtin "str.join") [.str (Str.ofString "") t, .ref D]) Q E s := by
  have hs := strs_of (pieceT N M z) ys 0 (fun j y hy => by rw [Nat.zero_add]; exact hv j y hy) hl
  refine join_list (items := ys.toArray) (ys := (List.range' 0 z).map (pieceT N M z)) (News.isList Nw (.head _)) (by simpa using hs) ?_ ?_
  · have := sum_len (pieceT N M z) 16 (pieceT_len N M z) (List.range' 0 z)
    rw [List.length_range'] at this
    rw [show (Str.ofString "").length = 0 from by decide]
    omega
  · intro t' k
    have e := text0 N M z
    refine h _ t' k e ?_
    have := st_len N M z 0 hz
    rw [← e, len_cps, cps_append, List.length_append] at this
    rw [len_cps]
    omega
end
end Mine
namespace Mine
section
variable {prog : Program} {w : World} {A : Around} {E : Value → Shared → Prop} {s : Shared} {h₀ : Heap} {L : Addr} {m : Str → Option Value} {news : List (Addr × Obj)} {env : Env}
theorem off1_mem {D : Addr} (l : List (Addr × Obj)) : LCg.Off1 D l → ∀ p ∈ l, p.1 ≠ D := by
  induction l with
  | nil => intro _ p hp; cases hp
  | cons q r ih =>
    intro x p hp
    rcases List.mem_cons.mp hp with rfl | hp
    · exact x.1
    · exact ih x.2 p hp
def IEnd (h₀ : Heap) (L : Addr) (m : Str → Option Value) (s : Shared) (news : List (Addr × Obj)) (n : Nat) (v : Value) (s₁ : Shared) : Prop :=
  ∃ r t u v' h₁ tk₁, v = .ref r ∧ s₁ = { s with heap := h₁, toks := tk₁ } ∧ Fr h₀ L h₁ m ∧ News h₀ L h₁ news ∧ IsRange h₁ r 0 n 1 t u v'
theorem rangeI {n : Nat} {b : Int} {t : Tok} {s' : Shared} {g : Heap} {tk : Nat} (e : s' = { s with heap := g, toks := tk }) (F : Fr h₀ L s'.heap m) (N : News h₀ L s'.heap news) (hb : b = (n : Int)) : wpAny (model prog w) A (call (.type "range") [.int b t]) (IEnd h₀ L m s news n) E s' := by
  subst hb e
  exact range1_rows F N fun h' tk t₁ u₁ v₁ hr F' N' _ => ⟨_, t₁, u₁, v₁, h', tk, rfl, rfl, F', N', hr⟩
theorem tableR {kx vx iter : Expr} {x : Str} {px : Pos} {scope : Scope} {cl : List (Str × Addr)} {posC pos q1 q2 q3 q4 : Pos} {K1 V1 K2 V2 : Str} {Q : Value → Shared → Prop} (G : Nat → Str × Str) (n : Nat)
    (F : Fr h₀ L s.heap m) (N : News h₀ L s.heap news) (hbig : h₀.NoLimit) (hp : 1 ≤ s.toks) (hh : A.handled = none)
    (hclos : closureFor scope env = pure cl) (hcell : ∀ y ∈ scope.names, y.2 ≠ .cell) (hkind : scope.kind = .function)
    (hnames : ∀ y ∈ scope.names, y.2 = .local → scope.names.lookup y.1 = some .local) (hx : scope.names.lookup x = some .local)
    (hn : n ≤ 100) (hG : (((List.range n).map G ++ [(K1, V1), (K2, V2)]).map (·.1)).Nodup)
    (hiter : ∀ D h', Fr h₀ L h' m → News h₀ L h' ((D, emptyD) :: news) → wpAny (model prog w) A (eval iter env) (IEnd h₀ L m s ((D, emptyD) :: news) n) E { s with heap := h' })
    (turn : ∀ (B : Addr) (i : Nat) t I oI C oC D oD m₂ h tk (E' : Value → Shared → Prop), i < n → LCg.NsObj oC m₂ → m₂ x = some (.int (i : Int) t) → Fr h₀ L h m → News h₀ L h ((I, oI) :: (C, oC) :: (D, oD) :: (B, emptyD) :: news) → 1 ≤ tk →
        wpAny (model prog w) A (eval kx (compEnvC scope cl C env)) (fun kv s₄ => wpAny (model prog w) A (eval vx (compEnvC scope cl C env)) (DEnd h₀ L m { s with heap := h, toks := tk } I oI C oC D oD ((B, emptyD) :: news) (G i) kv) E' s₄) E' { s with heap := h, toks := tk })
    (fin : ∀ D oD h' tk', L < D → (∀ p ∈ news, p.1 < D) → Fr h₀ L h' m → News h₀ L h' ((D, oD) :: news) → TabO prog w oD ((List.range n).map G ++ [(K1, V1), (K2, V2)]) → Q (.ref D) { s with heap := h', toks := tk' })
    (hs : ∀ x, foldedSetIterable iter env x = pure x := by intro _; rfl) :
    wpAny (model prog w) A (eval (.Dict [none, some (.Constant (.str K1) 0 q1), some (.Constant (.str K2) 0 q2)] [.DictComp kx vx [⟨.Name x px, iter, [], 0⟩] scope posC, .Constant (.str V1) 0 q3, .Constant (.str V2) 0 q4] pos) env) Q E s := by
  rw [arm_eval_Dict]
  refine wpAny_bind (wpAny_standAt ?_)
  have hK : ∀ (E : Value → Shared → Prop) (K : Str) (q : Pos), TextTree prog w A E (eval (.Constant (.str K) 0 q) env) K := fun E K q s Q h => wpAny_Constant_str h
  have hV : ∀ (E : Value → Shared → Prop) (K : Str) (q : Pos), TextTree prog w A E (do let x ← eval (.Constant (.str K) 0 q) env; standAt pos; pure x) K := fun E K q s Q h =>
    wpAny_bind (wpAny_Constant_str (wpAny_bind (wpAny_standAt (wpAny_pure h))))
  show wpAny (model prog w) A (dictDisplay [(none, (do let x ← eval (.DictComp kx vx [⟨.Name x px, iter, [], 0⟩] scope posC) env; standAt pos; pure x)), (some (eval (.Constant (.str K1) 0 q1) env), (do let x ← eval (.Constant (.str V1) 0 q3) env; standAt pos; pure x)),
    (some (eval (.Constant (.str K2) 0 q2) env), (do let x ← eval (.Constant (.str V2) 0 q4) env; standAt pos; pure x))]) _ _ _
  refine display_R (l := (List.range n).map G) F N hbig (fun E => hK E K1 q1) (fun E => hV E V1 q3) (fun E => hK E K2 q2) (fun E => hV E V2 q4) hG (by simp; omega) ?_ ?_
  · intro B h' hLB hnB F' N'
    refine wpAny_bind ?_
    refine DictComp_R (h₀ := h₀) (L := L) (m := m) G n hclos hcell hkind hnames hx hn ?_ ?_ hs
    · rw [List.map_append] at hG
      exact (List.nodup_append.mp hG).1
    · refine wpAny_mono (wpAny_toks_of (Nat.le_refl _) (hiter B h' F' N')) ?_ (fun _ _ e => e.2)
      rintro v s₁ ⟨htk, r, t, u, v', h₁, tk₁, rfl, rfl, F₁, N₁, hr⟩
      refine ⟨r, t, u, v', _, rfl, hh, F₁, N₁, hr, Nat.le_trans hp htk, ?_, ?_⟩
      · intro i t I oI C oC D oD m₂ h tk E' hi hC hx' F₂ N₂ _ _ htk'
        exact turn B i t I oI C oC D oD m₂ h tk E' hi hC hx' F₂ N₂ htk'
      · intro D oD h tk hLD F₂ N₂ off hT htk'
        refine wpAny_bind (wpAny_standAt (wpAny_pure ?_))
        have ho := off1_mem _ off
        exact ⟨D, oD, h, tk, rfl, rfl, hLD, fun e => ho _ (.head _) e.symm, fun p hp e => ho p (.tail _ hp) e, F₂, N₂, hT, htk'⟩
  · intro D oD h' tk' hLD hnD F' N' hT _
    exact fin D oD h' tk' hLD hnD F' N' hT
end
end Mine
namespace Mine
section
variable {prog : Program} {w : World} {A : Around} {E : Value → Shared → Prop} {s : Shared} {h₀ : Heap} {L : Addr} {m : Str → Option Value} {news : List (Addr × Obj)} {t u : Tok} {Q : Value → Shared → Prop}
theorem signI {i : Int} {value slice : PySem.Expr} (h0 : 0 ≤ i) (h1 : i < 16) (h : Q (.str ⟨#[65 + i.toNat]⟩ s.toks) { s with toks := s.toks + 1 })
    (hs : subscripted slice false (.str (Str.ofString "ABCDEFGHIJKLMNOP") t) (.int i u) = operate [.str (Str.ofString "ABCDEFGHIJKLMNOP") t, .int i u] (getItem (.str (Str.ofString "ABCDEFGHIJKLMNOP") t) (.int i u)))
    (ht : ∀ r, letTemporaryGo value (.str (Str.ofString "ABCDEFGHIJKLMNOP") t) r = pure ()) :
    wpAny (model prog w) A (subscriptTail value slice (.str (Str.ofString "ABCDEFGHIJKLMNOP") t) (.int i u)) Q E s := by
  refine itemS h0 (by rw [len16]; exact h1) (by rw [len16]; decide) ?_ hs ht
  intro r t' tk hr _ e1 e2
  subst e1 e2
  have e := item16 i.toNat (by omega)
  rw [show ((i.toNat : Nat) : Int) = i by omega] at e
  rw [hr, e]
  exact h
theorem keyAdd {c : Nat} (h : Q (.str ⟨#[c, 43]⟩ s.toks) { s with toks := s.toks + 1 }) : wpAny (model prog w) A (binaryOp .Add (.str ⟨#[c]⟩ t) (.str (Str.ofString "+") u)) Q E s := by
  rw [sPlus]
  refine PySem.P.add_str ?_
  exact ⟨by show 2 ≤ sizeLine; rw [sizeLine_eq]; omega, h⟩
theorem dEnd {I C D : Addr} {oI oC oD : Obj} {i c c' : Nat} {h h' : Heap} {tk tk' : Nat} {u v : Tok} (F : Fr h₀ L h' m) (N : News h₀ L h' ((I, oI) :: (C, oC) :: (D, oD) :: news)) (e1 : c = 65 + i) (e2 : c' = 65 + (i + 1)) (hu : @Ne Nat u 0) (hv : @Ne Nat v 0) (huv : @Ne Nat u v) :
    DEnd h₀ L m { s with heap := h, toks := tk } I oI C oC D oD news (tab15 i) (.str ⟨#[c, 43]⟩ u) (.str ⟨#[c']⟩ v) { s with heap := h', toks := tk' } := by
  subst e1 e2
  exact ⟨h', tk', u, v, rfl, rfl, rfl, hu, hv, huv, F, N⟩
end
theorem keysNodup : (((List.range 15).map tab15 ++ [(Str.ofString "P+", Str.ofString "+A"), (Str.ofString ".+", Str.ofString ".B")]).map (·.1)).Nodup := by decide +kernel
theorem tableEq : (List.range 15).map tab15 ++ [(Str.ofString "P+", Str.ofString "+A"), (Str.ofString ".+", Str.ofString ".B")] = tableL := by decide +kernel
end Mine
namespace Mine
section
variable {prog : Program} {w : World} {A : Around} {E : Value → Shared → Prop} {s : Shared} {env : Env} {h₀ : Heap} {x : Str} {body : List Stmt} {Q : Flow → Shared → Prop}
def TEnd (h₀ : Heap) (L : Addr) (s : Shared) (led : List (Addr × Obj)) (tx x : Str) (S : Str) (m₀ : Str → Option Value) (f : Flow) (s₂ : Shared) : Prop :=
  f = .next ∧ ∃ h' tk' m' t, s₂ = { s with heap := h', toks := tk' } ∧ Fr h₀ L h' m' ∧ News h₀ L h' led ∧ ∀ y, y ≠ x → m' y = if y = tx then some (.str S t) else m₀ y
theorem TEnd.intro {L : Addr} {led : List (Addr × Obj)} {tx x S S' : Str} {m₀ : Str → Option Value} {h' : Heap} {tk' : Nat} {t : Tok} {c z : Option Value} (F : Fr h₀ L h' (fun y => if y = tx then some (.str S' t) else if y = x then c else if y = tx then z else m₀ y)) (N : News h₀ L h' led) (e : S' = S) :
    TEnd h₀ L s led tx x S m₀ .next { s with heap := h', toks := tk' } := by
  subst e
  refine ⟨rfl, h', tk', _, t, rfl, F, N, fun y hy => ?_⟩
  by_cases h : y = tx
  · simp only [if_pos h]
  · simp only [if_neg h, if_neg hy]
theorem callLoop {r : Addr} {b₀ : Int} {t₀ u₀ v₀ t1 : Tok} {n : Nat} {m₀ : Str → Option Value} {led : List (Addr × Obj)} (tx : Str) (S : Nat → Str)
    (hh : A.handled = none) (hr : IsRange s.heap r 1 b₀ 1 t₀ u₀ v₀) (hb : b₀ = (n : Int) + 1) (hn : n ≤ 100) (F : Fr h₀ env.locals s.heap m₀) (N : News h₀ env.locals s.heap led) (htx : tx ≠ x) (h0 : m₀ tx = some (.str (S 0) t1))
    (turn : ∀ (i : Nat) t t' h tk own, i < n → Fr h₀ env.locals h (fun y => if y = x then some (.int ((i + 1 : Nat) : Int) t) else if y = tx then some (.str (S i) t') else m₀ y) → News h₀ env.locals h (led ++ own) →
      wpAny (model prog w) A (execs body env) (TEnd h₀ env.locals { s with heap := h, toks := tk } (led ++ own) tx x (S (i + 1)) m₀) E { s with heap := h, toks := tk })
    (done : ∀ c t' h tk, Fr h₀ env.locals h (fun y => if y = x then c else if y = tx then some (.str (S n) t') else m₀ y) → News h₀ env.locals h led → Q .next { s with heap := h, toks := tk }) :
    wpAny (model prog w) A (pyIter (.ref r)) (fun it s₂ => LoopAtV prog w A h₀ env x body Q E it s₂) E s := by
  have hsm : Builtin.Range.small 1 b₀ 1 = true := small_one (by omega) (by omega) (by omega) (by omega)
  have hrs : Builtin.Range.rangeSize 1 b₀ 1 = (n : Int) := by rw [rangeSize_nat]; omega
  refine wpAny_pyIter_range hr hsm ?_
  have W := LCg.range_walks (prog := prog) (w := w) (A := A) (I := s.heap.objs.size) hh 1 n
  refine loop_invN (fun i m nx => nx = led ∧ ∃ t', ∀ y, y ≠ x → m y = if y = tx then some (.str (S i) t') else m₀ y) W ?_ ?_ ?_ ?_ (by show IsRangeIter _ _ _ _ _; rw [hrs]; simpa using Heap.get?_push_size _ rfl) (F.push _) (fun p hp => ⟨Heap.get?_push_of_some _ (N p hp).1, (N p hp).2⟩) ⟨rfl, t1, fun y _ => ?_⟩ ?_ ?_
  · intro hm
    exact absurd F.ns.lt ((List.mem_singleton.mp hm) ▸ Nat.lt_irrefl _)
  · intro b hb
    rw [List.mem_singleton.mp hb]
    exact next_is_new F
  · intro p hp hI
    exact absurd (Heap.lt_size (N p hp).1) ((List.mem_singleton.mp hI) ▸ Nat.lt_irrefl _)
  · intro p hp hI
    exact absurd (Heap.lt_size (N p hp).1) ((List.mem_singleton.mp hI) ▸ Nat.lt_irrefl _)
  · by_cases hy : y = tx
    · rw [if_pos hy, hy, h0]
    · rw [if_neg hy]
  · rintro i v m₁ nx h tk own hi ⟨t, rfl⟩ _ hoff ⟨rfl, t', hm⟩ F₁ N₁
    have e1 : (1 : Int) + (i : Int) = ((i + 1 : Nat) : Int) := by omega
    rw [e1] at F₁
    have e2 : (fun y => if y = x then some (Value.int ((i + 1 : Nat) : Int) t) else m₁ y) = fun y => if y = x then some (Value.int ((i + 1 : Nat) : Int) t) else if y = tx then some (.str (S i) t') else m₀ y := by
      funext y
      by_cases hy : y = x
      · rw [if_pos hy, if_pos hy]
      · rw [if_neg hy, if_neg hy, hm y hy]
    rw [e2] at F₁
    refine wpAny_mono (turn i t t' h tk own hi F₁ N₁) (fun f s₂ q => ?_) fun _ _ e => e
    obtain ⟨rfl, h', tk', m', t2, rfl, F', N', hm'⟩ := q
    exact InvEndN.intro F' N' ⟨rfl, t2, hm'⟩ rfl (fun p hp => List.mem_append_left _ hp) (fun p hp => List.mem_append_right _ hp)
  · rintro m₁ nx h tk ⟨rfl, t', hm⟩ F₁ N₁
    refine done (m₁ x) t' h tk ?_ N₁
    have e2 : m₁ = fun y => if y = x then m₁ x else if y = tx then some (.str (S n) t') else m₀ y := by
      funext y
      by_cases hy : y = x
      · rw [if_pos hy, hy]
      · rw [if_neg hy, hm y hy]
    rw [← e2]
    exact F₁
theorem due_int {n m : Int} {z i : Nat} (hn : 0 ≤ n) (hm : 0 ≤ m) : dueF n m z ((i + 1 : Nat) : Int) = ⟨(stN n.natAbs m.natAbs z (i + 1)).toArray⟩ := by
  have e := due_nat n.natAbs m.natAbs z (i + 1) (by omega)
  rwa [show ((n.natAbs : Nat) : Int) = n by omega, show ((m.natAbs : Nat) : Int) = m by omega] at e
end
end Mine
namespace Mine
section
variable {prog : Program} {w : World} {A : Around} {E : Value → Shared → Prop} {s : Shared} {x y : Str} {t u : Tok} {Q : Value → Shared → Prop}
theorem neSelf (h : Q (.bool false) s) : wpAny (model prog w) A (compareOp .NotEq (.str x t) (.str x u)) Q E s := by
  refine ne_str ?_
  rw [show (x != x) = false by simp]
  exact h
theorem eqT (e : x = y) (h : Q (.bool true) s) : wpAny (model prog w) A (compareOp .Eq (.str x t) (.str y u)) Q E s := by
  subst e
  refine eq_str ?_
  rw [show (x == x) = true by simp]
  exact h
end
theorem tab_pairs : ∀ p ∈ tableL, PairOk p := by
  intro p hp
  unfold tableL at hp
  rcases List.mem_append.mp hp with hp | hp
  · obtain ⟨k, hk, rfl⟩ := List.mem_map.mp hp
    have hk' := List.mem_range'.mp hk
    obtain ⟨i, hi, rfl⟩ := hk'
    refine ⟨⟨_, _, rfl⟩, ?_, ?_⟩
    · show 1 ≤ 2; omega
    · have : i = 0 ∨ i = 1 ∨ i = 2 ∨ i = 3 ∨ i = 4 ∨ i = 5 ∨ i = 6 ∨ i = 7 ∨ i = 8 ∨ i = 9 ∨ i = 10 ∨ i = 11 ∨ i = 12 ∨ i = 13 ∨ i = 14 := by omega
      rcases this with rfl|rfl|rfl|rfl|rfl|rfl|rfl|rfl|rfl|rfl|rfl|rfl|rfl|rfl|rfl <;> decide +kernel
  · simp only [List.mem_cons, List.not_mem_nil, or_false] at hp
    rcases hp with rfl | rfl
    · exact ⟨⟨_, _, rfl⟩, by show 2 ≤ 2; omega, by decide +kernel⟩
    · exact ⟨⟨_, _, rfl⟩, by show 2 ≤ 2; omega, by decide +kernel⟩
theorem tab_ne : tableL ≠ [] := by unfold tableL; simp
theorem tab_len : tableL.length ≤ 1000 := by decide +kernel
end Mine
namespace Mine
theorem sysNe {h₀ h : Heap} {L D : Addr} {m : Str → Option Value} (hbig : h₀.NoLimit) (F : Fr h₀ L h m) (hD : L < D) : (D == sysModules) = false := by
  have h1 := modules_low hbig
  have h2 := F.above
  exact beq_eq_false_iff_ne.mpr (Nat.ne_of_gt (Nat.lt_trans h1 (Nat.lt_of_le_of_lt h2 hD)))
end Mine
namespace Mine
local macro_rules | `(tactic| walk_at "exec For") => `(tactic| (k_here; k_dflt ((rename Fr _ _ _ _ => lF'); refine' For_invVF lF' ?k1 ?k2 ?_; (case k1 => exact rfl); (case k2 => exact rfl))))
local macro_rules | `(tactic| walk_at "binaryOp FloorDiv int int") => `(tactic| (k_here; k_dflt (refine floordiv_int (by decide) ?_ (Or.inl (PyProof.noPylong_of_log2 (by decide +kernel)))); (try dsimp only)))
local macro_rules | `(tactic| walk_at "binaryOp Mod int int") => `(tactic| (k_here; first | ((with_reducible refine mod16 ?_); intro r9 t9 tk9 hr9 hr0 hr16; (try dsimp only)) | (k_dflt (refine mod_int' (by decide) ?_); (try dsimp only))))
local macro_rules | `(tactic| walk_at "eval IfExp") => `(tactic| (k_here; k_dflt ((rename Fr _ _ _ _ => lF'); (rename News _ _ _ _ => lN'); (fail_if_success (show wpAny _ _ _ (JEnd _ _ _ _ _) _ _)); refine joinIf lF' lN' ?_ ?_; rotate_left; (focus (clear lF' lN'; intro z9 t9 h9 tk9 hz0 hz16 F9 N9; (try dsimp only))))))
local macro_rules | `(tactic| walk_at "JEnd") => `(tactic| (refine JEnd.intro (by assumption) (by assumption) (by omega) (by omega)))
local macro_rules | `(tactic| walk_at "call builtin:list.append") => `(tactic| (k_here; k_dflt ((rename Fr _ _ _ _ => lF'); (rename News _ _ _ _ => lN'); refine' append_K lF' lN' (Upd.tail ?a (Upd.head ?b)) ?_ ?z; (case a => exact neN (by (try dsimp only); omega)); (case b => assumption); (case z => (rw [List.size_toArray, sizeLine_eq]; omega))); (clear lF' lN'); intro h9 F9 N9; (try dsimp only)))
local macro_rules | `(tactic| walk_at "TEnd") => `(tactic| (exact TEnd.intro (by assumption) (by assumption) rfl))
local macro_rules | `(tactic| walk_at "compareOp NotEq str str") => `(tactic| (k_here; k_dflt (refine neSelf ?_)))
local macro_rules | `(tactic| walk_at "subscriptTail Name Name str int") => `(tactic| (k_here; (with_reducible show wpAny _ _ (subscriptTail _ _ (Value.str (Str.ofString "ABCDEFGHIJKLMNOP") _) (Value.int _ _)) _ _ _); k_dflt (refine' signI ?k1 ?k2 ?_ ?k4 ?k5; (case k1 => omega); (case k2 => omega); (case k4 => with_unfolding_all rfl); (case k5 => (intro _; with_unfolding_all rfl))); (try dsimp only)))
local macro_rules | `(tactic| walk_at "subscriptTail") => `(tactic| (k_here; (with_reducible show wpAny _ _ (subscriptTail _ _ (Value.str (Str.ofString "ABCDEFGHIJKLMNOP") _) (Value.int _ _)) _ _ _); k_dflt (refine' signI ?k1 ?k2 ?_ ?k4 ?k5; (case k1 => omega); (case k2 => omega); (case k4 => with_unfolding_all rfl); (case k5 => (intro _; with_unfolding_all rfl))); (try dsimp only)))
local macro_rules | `(tactic| walk_at "binaryOp Add str str") => `(tactic| (k_here; (with_reducible show wpAny _ _ (binaryOp _ (Value.str (Str.mk _) _) (Value.str (Str.ofString "+") _)) (fun _ _ => wpAny _ _ _ (DEnd _ _ _ _ _ _ _ _ _ _ _ _ _) _ _) _ _); k_dflt (refine keyAdd ?_); (try dsimp only)))
local macro_rules | `(tactic| walk_at "DEnd") => `(tactic| ((try dsimp only); refine dEnd (by assumption) (by assumption) (by omega) (by omega) (by (try dsimp only); omega) (by (try dsimp only); omega) (by (try dsimp only); omega)))
local macro_rules | `(tactic| walk_at "call type:range") => `(tactic| (k_here; (with_reducible show wpAny _ _ _ (IEnd _ _ _ _ _ _) _ _); k_dflt (exact rangeI rfl (by assumption) (by assumption) rfl)))
local macro_rules | `(tactic| walk_at "subscriptTail Name Name str int") => `(tactic| (k_here; (with_reducible show wpAny _ _ (subscriptTail _ _ (Value.str (padS _ _) _) (Value.int _ _)) _ _ _); k_dflt (refine' padI ?k1 ?k2 ?_ ?k4 ?k5; (case k1 => assumption); (case k2 => omega); (case k4 => with_unfolding_all rfl); (case k5 => (intro _; with_unfolding_all rfl))); intro t9 tk9; (try dsimp only)))
local macro_rules | `(tactic| walk_at "call builtin:ord") => `(tactic| (k_here; k_dflt (refine ordC ?_); intro t9 tk9; (try dsimp only)))
local macro_rules | `(tactic| walk_at "call builtin:len") => `(tactic| (k_here; (with_reducible show wpAny _ _ (call _ [Value.str _ _]) _ _ _); k_dflt (refine lenS (by omega) ?_); intro r9 t9 tk9 hr9; (try dsimp only)))
local macro_rules | `(tactic| walk_at "call builtin:max") => `(tactic| (k_here; k_dflt ((rename Fr _ _ _ _ => lF'); (rename News _ _ _ _ => lN'); refine maxI rfl lF' lN' ?_; clear lF' lN'); intro r9 t9 h9 tk9 hr9a hr9b hr9c F9 N9; (try dsimp only)))
local macro_rules | `(tactic| walk_at "binaryOp Mult str int") => `(tactic| (k_here; k_dflt (refine' mulS ?k1 ?k2 ?k3 ?_; (case k1 => decide); (case k2 => omega); (case k3 => omega)); intro r9 t9 tk9 hr9 hl9; (try dsimp only)))
local macro_rules | `(tactic| walk_at "binaryOp Add str str") => `(tactic| (k_here; k_dflt (refine' addS ?k1 ?_; (case k1 => ((try simp only [len1_plus, len1_A, len1_B, len1_dot]); omega))); intro r9 t9 tk9 hr9 hl9; (try simp only [len1_plus, len1_A, len1_B, len1_dot] at hl9); (try dsimp only)))
local macro_rules | `(tactic| walk_at "eval Call") => `(tactic| (k_here; k_dflt (refine Call_ ?_)))
local macro_rules | `(tactic| walk_at "binaryOp Mult int int") => `(tactic| (k_here; k_dflt (refine mulD (by with_reducible assumption) ?_); intro t9 tk9; (try dsimp only)))
local macro_rules | `(tactic| walk_at "call builtin:len") => `(tactic| (k_here; (with_reducible show wpAny _ _ (call _ [Value.ref _]) _ _ _); k_dflt ((rename TupIn _ _ _ => hT'); refine' kst_len ?a ?b ?c ?d ?_; (case a => assumption); (case b => k_mem); (case c => exact hT'.1); (case d => omega))))
local macro_rules | `(tactic| walk_at "subscriptTail") => `(tactic| (k_here; (with_reducible show wpAny _ _ (subscriptTail _ _ (Value.ref _) (Value.int _ _)) _ _ _); k_dflt (first
  | (refine' item_tupleT ?t ?a ?b ?c ?d ?_; (case t => (with_reducible assumption)); (case a => decide); (case b => decide); (case c => rfl); (case d => rfl))
  | ((rename TupIn _ _ _ => hT'); refine' pairAt ?N ?m ?R hT' ?k ?k7 ?_; (case N => assumption); (case m => k_mem); (case R => (intro p hp; repeat (first | exact hp | refine List.Mem.tail _ ?_))); (case k => omega); (case k7 => omega); intro a9 tx9 ty9 ht9))))
local macro_rules | `(tactic| walk_at "CompEnd") => `(tactic| (refine LCg.CompEnd.intro (by assumption) (by assumption) _ (fun p hp => hp) (by assumption) trivial ⟨rfl, _, by first | exact rfl | exact pieceV (by first | with_reducible assumption | exact rfl) (by with_reducible assumption) rfl⟩))
set_option maxRecDepth 100000 in
set_option maxHeartbeats 8000000 in
theorem law_ok : PySem.Challenge.rw_ik0012_01.Holds := hd (by
  (k_go0; (all_goals try k_fold); k_steps)
  rename IntsAre _ (List.take _ _) => hI
  rename (List.length (List.take _ _) = _) => hC
  rename Fr _ _ _ _ => lF
  rename News _ _ _ _ => lN
  rename (_ < _ ∧ _) => hlt
  generalize List.take 6 _ = ns at hI hC
  k_dflt (refine' pairsLoop ?k1 lF lN hI ?k2 ?k3 ?k4 ?k5 ?turn ?done)
  (case k1 => rfl)
  (case k2 => exact neN (by omega))
  (case k3 => exact neN (by omega))
  (case k4 => (intro p hp; simp only [List.mem_cons, List.not_mem_nil, or_false] at hp; rcases hp with rfl|rfl|rfl|rfl <;> (exact neN (by dsimp only; omega))))
  (case k5 => omega)
  (case turn =>
    intro n t m₁ us nn R h tk F N hR hus
    simp only [List.cons_append, List.nil_append] at N hR
    clear lF lN
    (try k_fold)
    iterate 28 (first | walk1 | (dsimp only; walk1))
    · rename Fr _ _ _ _ => F9
      rename News _ _ _ _ => N9
      rename (_ < _ ∧ _ ∧ _ ∧ _ ∧ _ ∧ AllLt _ R) => hq
      exact PEnd.intro' F9 N9 (o := default) hq (by omega)
    · k_steps)
  intro m₁ us nn xs R h tk F N hR hT hD hx1 hx7
  simp only [List.cons_append, List.nil_append] at N hR
  clear lF lN hI hC hlt
  (try k_fold)
  repeat ((fail_if_success (with_reducible show wpAny _ _ (call (Value.type "range") _) _ _ _)); first | walk1 | (dsimp only; walk1))
  k_dflt (refine' csrcR (n := xs.length) (fun k y => ∃ t, y = Value.int (dig1 xs k) t) ?hh F N ?hb ?hn ?turn ?fin)
  (case hh => rfl)
  (case hb => rfl)
  (case hn => omega)
  (case turn =>
    intro k t I oI C oC D m₂ ys h' tk' E' hk hC hx F' N' off ne
    clear F N
    have hd1 := dig_b1 hD hk
    have hd2 := dig_b2 hD hk
    k_steps)
  clear F N
  intro h₂ tk₂ ys hl hv D h tk F N off
  dsimp only
  repeat ((fail_if_success (with_reducible show wpAny _ _ (call (Value.builtin "sum") _) _ _ _)); first | walk1 | (dsimp only; walk1))
  k_dflt (refine' LSm.sum_ints (ns := (List.range' 0 xs.length).map (dig1 xs)) F N ?hh1 ?hl ?hi ?_)
  (case hh1 => rfl)
  (case hl => exact News.isList N (List.Mem.head _))
  (case hi => exact ints_of (dig1 xs) ys 0 (fun j y hy => by rw [Nat.zero_add]; exact hv j y hy) hl)
  clear F N
  intro h₂ tk₂ tn F N
  have hn0 := sum_dig1 hD hx7
  generalize ((List.range' 0 xs.length).map (dig1 xs)).sum = n at hn0
  clear hv hl
  repeat ((fail_if_success (with_reducible show wpAny _ _ (call (Value.type "range") _) _ _ _)); first | walk1 | (dsimp only; walk1))
  clear F N
  rename Fr _ _ _ _ => F
  rename News _ _ _ _ => N
  k_dflt (refine' csrcR (n := xs.length) (fun k y => ∃ t, y = Value.int (dig2 xs k) t) ?hh2 F N ?hb2 ?hn2 ?turn2 ?fin2)
  (case hh2 => rfl)
  (case hb2 => rfl)
  (case hn2 => omega)
  (case turn2 =>
    intro k t I oI C oC D m₂ ys h' tk' E' hk hC hx F' N' off ne
    clear F N
    have hd1 := dig_b1 hD hk
    have hd2 := dig_b2 hD hk
    k_steps)
  clear F N
  intro h₃ tk₃ ys hl hv D h tk F N off
  dsimp only
  repeat ((fail_if_success (with_reducible show wpAny _ _ (call (Value.builtin "sum") _) _ _ _)); first | walk1 | (dsimp only; walk1))
  k_dflt (refine' LSm.sum_ints (ns := (List.range' 0 xs.length).map (dig2 xs)) F N ?hh3 ?hl2 ?hi2 ?_)
  (case hh3 => rfl)
  (case hl2 => exact News.isList N (List.Mem.head _))
  (case hi2 => exact ints_of (dig2 xs) ys 0 (fun j y hy => by rw [Nat.zero_add]; exact hv j y hy) hl)
  clear F N
  intro h₄ tk₄ tm F N
  have hm0 := sum_dig2 hD hx7
  generalize ((List.range' 0 xs.length).map (dig2 xs)).sum = m at hm0
  clear hv hl
  replace N := news4 N
  repeat ((fail_if_success (with_reducible show wpAny _ _ (call (Value.ref _) _) _ _ _)); first | walk1 | (dsimp only; walk1))
  k_dflt (refine' cbUse (word_ok _ _ _ _ _ _ _ _) ?w1 ?w2 ?w3 ?w4 ?w5 ?wK ?wp ?wd ?wu ?_)
  (case w2 => k_asm)
  (case w1 => exact below_caller _)
  (case w3 => k_asm)
  (case w4 => k_asm)
  (case w5 => k_asm)
  (case wK => rfl)
  (case wp => (constructor <;> omega))
  (case wd => decide)
  (case wu => decide)
  rename Fr _ _ _ _ => F'
  rename News _ _ _ _ => N'
  clear F' N'
  intro t₅ h₅ tk₅ htk₅ F N
  dsimp only
  repeat ((fail_if_success (with_reducible show wpAny _ _ (call (Value.ref _) _) _ _ _)); first | walk1 | (dsimp only; walk1))
  k_dflt (refine' cbUse (word_ok _ _ _ _ _ _ _ _) ?v1 ?v2 ?v3 ?v4 ?v5 ?vK ?vp ?vd ?vu ?_)
  (case v2 => k_asm)
  (case v1 => exact below_caller _)
  (case v3 => k_asm)
  (case v4 => k_asm)
  (case v5 => k_asm)
  (case vK => rfl)
  (case vp => (constructor <;> omega))
  (case vd => decide)
  (case vu => decide)
  rename Fr _ _ _ _ => F'
  rename News _ _ _ _ => N'
  clear F' N'
  intro t₆ h₆ tk₆ htk₆ F N
  dsimp only
  have hw1 : (wordS n).length ≤ 7 := wordS_len 7 (by omega)
  have hw2 : (wordS (-m)).length ≤ 7 := wordS_len 7 (by omega)
  repeat ((fail_if_success (with_reducible show wpAny _ _ (call (Value.type "range") _) _ _ _)); first | walk1 | (dsimp only; walk1))
  rename_i a1 ta tka ha a2 tb tkb hb zz tz hz9 tkz hza hzb hzc hH2 tkH1 a3 tc tkc hc pa tpa tkpa hpa hpal qa tqa tkqa hqa hqal hH1 oo1 dd1 tkH0 a4 td tkd hd4 pb tpb tkpb hpb hpbl qb tqb tkqb hqb hqbl hH0 oo2 FF NN dd2
  obtain ⟨z, rfl⟩ : ∃ z : Nat, zz = (z : Int) := ⟨zz.toNat, by omega⟩
  have hz1 : (wordS n).length ≤ z := by omega
  have hz2 : (wordS (-m)).length ≤ z := by omega
  have hz3 : z = (wordS n).length ∨ z = (wordS (-m)).length := by omega
  have hz7 : z ≤ 7 := by omega
  have hq1 : qa = padS n.natAbs z := by
    rw [hqa, hpa]
    exact pad_word hz1 (by omega)
  have hq2 : qb = padS m.natAbs z := by
    rw [hqb, hpb, ← Int.natAbs_neg m]
    exact pad_word hz2 (by omega)
  subst hq1 hq2
  clear hqa hqal hqb hqbl hpa hpal hpb hpbl ha hb hza hzb hzc hc hd4
  k_dflt (refine' csrcR (n := z) (fun k y => ∃ t, y = Value.str (pieceT n.natAbs m.natAbs z k) t) ?hh6 FF NN ?hb6 ?hn6 ?turn6 ?fin6)
  (case hh6 => rfl)
  (case hb6 => rfl)
  (case hn6 => omega)
  (case turn6 =>
    intro k t I oI C oC D m₂ ys h' tk' E' hk hC hx F' N' off ne
    clear FF NN
    have hd1 := dg_lt m.natAbs (z - 1 - k)
    k_steps)
  clear FF NN
  intro h₆' tk₆' ys6 hl6 hv6 D6 h7 tk7 F N off6
  dsimp only
  repeat ((fail_if_success (with_reducible show wpAny _ _ (call (Value.builtin "str.join") _) _ _ _)); first | walk1 | (dsimp only; walk1))
  k_dflt (refine' joinT (N := n.natAbs) (M := m.natAbs) (z := z) N hl6 ?hz6 hv6 ?_)
  (case hz6 => omega)
  intro X6 t6 k6 hX hXl
  dsimp only
  have N := cb_drop N (fun p hp => List.Mem.tail _ hp)
  repeat ((fail_if_success (with_reducible show wpAny _ _ (eval (Expr.Dict _ _ _) _) _ _ _)); first | walk1 | (dsimp only; walk1))
  rename Fr _ _ _ _ => F
  rename News _ _ _ _ => N
  k_dflt (refine' tableR tab15 15 F N ?tb1 ?tb2 ?tb3 ?tb4 ?tb5 ?tb6 ?tb7 ?tb8 ?tb9 ?tb10 ?tb11 ?tb12 ?tb13)
  (case tb1 => exact Top.nolimit (by assumption))
  (case tb2 => exact Nat.le_add_left 1 _)
  (case tb3 => rfl)
  (case tb4 => with_unfolding_all rfl)
  (case tb5 => decide)
  (case tb6 => rfl)
  (case tb7 => decide)
  (case tb8 => rfl)
  (case tb9 => decide)
  (case tb10 => exact keysNodup)
  (case tb11 =>
    intro D' h8 F' N'
    clear F N
    k_steps)
  (case tb12 =>
    intro B i t I oI C oC D oD m₂ h8 tk8 E' hi hC hx F' N' htk8
    clear F N
    k_steps)
  (try clear F N)
  intro D oD h10 tk10 hLD hnD F N hT
  rw [tableEq] at hT
  have hsys := sysNe (Top.nolimit (by assumption)) F hLD
  rename (_ = Str.ofString "." ++ X6) => hr9
  have hr9' := hr9.trans hX
  clear hr9 hX hXl
  subst hr9'
  dsimp only
  repeat ((fail_if_success (with_reducible show wpAny _ _ (pyIter _) _ _ _)); first | walk1 | (dsimp only; walk1))
  rename IsRange _ _ _ _ _ _ _ _ => hR9
  rename Fr _ _ _ _ => F
  rename News _ _ _ _ => N
  k_dflt (refine' callLoop (n := z + 1) (Str.ofString "text") (fun j => ⟨(stN n.natAbs m.natAbs z j).toArray⟩) ?cl1 hR9 ?cl2 ?cl3 F N ?cl4 ?cl5 ?cl6 ?cl7)
  (case cl1 => rfl)
  (case cl2 => omega)
  (case cl3 => omega)
  (case cl4 => decide)
  (case cl5 => rfl)
  (case cl6 =>
    intro i t t' h tk own hi F' N'
    simp only [List.cons_append, List.nil_append] at N'
    clear F N
    (try k_fold)
    repeat ((fail_if_success (with_reducible show wpAny _ _ (call (Value.ref _) _) _ _ _)); first | walk1 | (dsimp only; walk1))
    k_dflt (refine' cbUse (escape_ok _ _ _ _ _ _ _ _ _ _ _ ?ek1 ?ek2 ?ek3 ?ek4 hsys hT tab_pairs tab_ne tab_len) ?e1 ?e2 ?e3 ?e4 ?e5 ?eK ?ep ?ed ?eu ?_)
    (case e2 => k_asm)
    (case ek1 => exact Nat.le_trans (st_len _ _ _ _ (by omega)) (by decide))
    (case ek2 => exact st_mem _ _ _ _ (by decide) (by decide) (by decide))
    (case ek3 => exact st_mem _ _ _ _ (by decide) (by decide) (by decide))
    (case ek4 => exact st_mem _ _ _ _ (by decide) (by decide) (by decide))
    (case e1 => exact below_caller _)
    (case e3 => k_asm)
    (case e4 => k_asm)
    (case e5 => k_asm)
    (case eK => rfl)
    (case ep => trivial)
    (case ed => decide)
    (case eu => decide)

    intro te he tke htke Fe Ne
    dsimp only
    rw [step_due]
    repeat ((fail_if_success (with_reducible show wpAny _ _ (call (Value.ref _) _) _ _ _)); first | walk1 | (dsimp only; walk1))
    k_dflt (refine' cbUse (due_ok _ _ _ _ _ _ _ _ _ _ _ _ _ _) ?d1 ?d2 ?d3 ?d4 ?d5 ?dK ?dp ?dd ?du ?_)
    (case d2 => k_asm)
    (case d1 => exact below_caller _)
    (case d3 => k_asm)
    (case d4 => k_asm)
    (case d5 => k_asm)
    (case dK => rfl)
    (case dp => (refine ⟨?_, ?_, ?_, ?_, ?_, ?_⟩ <;> omega))
    (case dd => decide)
    (case du => decide)

    intro td' hd' tkd' htkd' Fd Nd
    dsimp only
    rw [due_int hn0.1 hm0.1]
    repeat (first | walk1 | (dsimp only; walk1)))
  clear F N
  intro c9 t9' h9' tk9' F N
  dsimp only
  have hw3 : (wordS (n + m)).length ≤ 8 := wordS_len 8 (by omega)
  repeat ((fail_if_success (with_reducible show wpAny _ _ (call (Value.ref _) _) _ _ _)); first | walk1 | (dsimp only; walk1))
  k_dflt (refine' cbUse (word_ok _ _ _ _ _ _ _ _) ?y1 ?y2 ?y3 ?y4 ?y5 ?yK ?yp ?yd ?yu ?_)
  (case y2 => k_asm)
  (case y1 => exact below_caller _)
  (case y3 => k_asm)
  (case y4 => k_asm)
  (case y5 => k_asm)
  (case yK => rfl)
  (case yp => (constructor <;> omega))
  (case yd => decide)
  (case yu => decide)
  intro t10 h10' tk10' htk10 F10 N10
  dsimp only
  repeat ((fail_if_success (with_reducible show wpAny _ _ (compareOp _ _ _) _ _ _)); first | walk1 | (dsimp only; walk1))
  rename (_ = Str.ofString "." ++ wordS (n + m)) => hr10
  k_dflt (refine eqT ?eq1 ?_)
  (case eq1 => exact (last_word hn0.1 hm0.1 hz1 hz2 hz3).trans hr10.symm)
  k_steps)
end Mine
theorem PySem.Challenge.cw_ik0012_01_holds : PySem.Challenge.rw_ik0012_01.Holds :=
  Mine.law_ok

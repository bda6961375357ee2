import PyProof.Rows.All
import Wide.All
import OpenK.AllK
import Wide.FinOn
import Lean
import PySem.Challenge.RW_af0013_01
open PySem PySem.W PySem.Calls PyProof.Rows
set_option Elab.async false
set_option maxRecDepth 100000
set_option maxHeartbeats 8000000
namespace Mine
open_top hd for PySem.Challenge.rw_af0013_01
abbrev tup2 (x y : Int) (tx ty : Tok) (c : Nat) : Obj := { cls := .type "tuple", data := .seq #[.int x tx, .int y ty] c }
abbrev tup3 (x y z : Int) (tx ty tz : Tok) (c : Nat) : Obj := { cls := .type "tuple", data := .seq #[.int x tx, .int y ty, .int z tz] c }
abbrev tup6 (a b d e f g : Int) (ta tb td te tf tg : Tok) (c : Nat) : Obj := { cls := .type "tuple", data := .seq #[.int a ta, .int b tb, .int d td, .int e te, .int f tf, .int g tg] c }

/-- a call of the def at f with the values vs, from a frame of any def: it comes back, with one more piece of ledger -/
def Calls (w : World) (f : Addr) (D U : Nat) (pre : Heap → Prop) (need : List (Addr × Obj)) (vs : List Value) (Out : Value → List (Addr × Obj) → Prop) : Prop :=
  ∀ (mean : ExcName → Option Value) (mg mb : Str → Option Value) (dp un : Nat) (gd : Option (List Code)) (cn : Str) (cs : Scope) (a : Addr) (ccd : Value) (cl : List (Str × Addr)) (outer : List Env) (A₀ : Around) (base h₀ : Heap) (L : Addr) (m : Str → Option Value) (news : List (Addr × Obj)) (s : Shared)
    (Q E : Value → Shared → Prop),
    Below A₀ base outer h₀ → Fr h₀ L s.heap m → (hd.heap_39 w.params).In h₀ → News h₀ L s.heap news → Top hd.view_39 (looseW hd.view_39 []) mean mg mb h₀ → cs.kind = .function → pre base → (∀ p ∈ need, p ∈ news) →
    dp + D < recursionLimit → un + U < cLine →
    (∀ r tl h' tk', Fr h₀ L h' m → News h₀ L h' (tl ++ news) → Out r tl → Q r { s with heap := h', toks := tk' }) →
    wpAny (model PySem.Challenge.rw_af0013_01.row.prog w) (ktrTop dp un gd cn cs L a ccd cl outer) (call (.ref f) vs) Q E s

section
variable {w : World} {f : Addr} {D U : Nat} {pre : Heap → Prop} {need : List (Addr × Obj)} {vs : List Value} {Out Out' : Value → List (Addr × Obj) → Prop}
theorem Calls.use (C : Calls w f D U pre need vs Out)
    {mean : ExcName → Option Value} {mg mb : Str → Option Value} {dp un : Nat} {gd : Option (List Code)} {cn : Str} {cs : Scope} {a : Addr} {ccd : Value} {cl : List (Str × Addr)} {outer : List Env} {A₀ : Around} {base h₀ H : Heap} {L : Addr} {m : Str → Option Value} {news : List (Addr × Obj)} {gs : Array GenState} {dr : Drawn} {tk : Nat} {os : OsState}
    {Q E : Value → Shared → Prop}
    (B : Below A₀ base outer h₀) (F : Fr h₀ L H m) (X : (hd.heap_39 w.params).In h₀) (N : News h₀ L H news) (T : Top hd.view_39 (looseW hd.view_39 []) mean mg mb h₀) (hk : cs.kind = .function) (hp : pre base) (hn : ∀ p ∈ need, p ∈ news)
    (hd : dp + D < recursionLimit) (hu : un + U < cLine)
    (ret : ∀ r tl h' tk', Fr h₀ L h' m → News h₀ L h' (tl ++ news) → Out r tl → Q r ⟨h', gs, dr, tk', os⟩) :
    wpAny (model PySem.Challenge.rw_af0013_01.row.prog w) (ktrTop dp un gd cn cs L a ccd cl outer) (call (.ref f) vs) Q E ⟨H, gs, dr, tk, os⟩ :=
  C _ _ _ _ _ _ _ _ _ _ _ _ _ _ _ _ _ _ ⟨H, gs, dr, tk, os⟩ _ _ B F X N T hk hp hn hd hu ret
theorem Calls.mono (C : Calls w f D U pre need vs Out) (h : ∀ r tl, Out r tl → Out' r tl) : Calls w f D U pre need vs Out' := by
  intro mean mg mb dp un gd cn cs a ccd cl outer A₀ base h₀ L m news s Q E B F X N T hk hp hn hd hu ret
  exact C _ _ _ _ _ _ _ _ _ _ _ _ _ _ _ _ _ _ s _ _ B F X N T hk hp hn hd hu fun r tl h' tk' F' N' o => ret r tl h' tk' F' N' (h r tl o)
end

theorem news_more {h₀ h : Heap} {L : Addr} {news need : List (Addr × Obj)} (N : News h₀ L h news) (hn : ∀ p ∈ need, p ∈ news) : News h₀ L h (need ++ news) := fun p hp =>
  (List.mem_append.mp hp).elim (fun q => N p (hn p q)) (N p)
theorem news_less {h₀ h : Heap} {L : Addr} {news news' : List (Addr × Obj)} (N : News h₀ L h news') (hs : ∀ p ∈ news, p ∈ news') : News h₀ L h news := fun p hp => N p (hs p hp)
theorem sub_one {a : Addr × Obj} {news l : List (Addr × Obj)} (h : a ∈ l) (k : ∀ p ∈ news, p ∈ l) : ∀ p ∈ [a] ++ news, p ∈ l := fun p hp => by
  rcases List.mem_cons.mp hp with rfl | hp
  · exact h
  · exact k p hp
theorem need1 {a : Addr × Obj} {l : List (Addr × Obj)} (h : a ∈ l) : ∀ p ∈ [a], p ∈ l := fun p hp => by
  rw [List.mem_singleton.mp hp]; exact h
theorem need2 {a b : Addr × Obj} {l : List (Addr × Obj)} (h : a ∈ l) (k : b ∈ l) : ∀ p ∈ [a, b], p ∈ l := fun p hp => by
  rcases List.mem_cons.mp hp with rfl | hp
  · exact h
  · exact need1 k p hp
theorem need3 {a b c : Addr × Obj} {l : List (Addr × Obj)} (h : a ∈ l) (k : b ∈ l) (j : c ∈ l) : ∀ p ∈ [a, b, c], p ∈ l := fun p hp => by
  rcases List.mem_cons.mp hp with rfl | hp
  · exact h
  · exact need2 k j p hp

/-- a size -/
def Bd (a : Int) (k : Nat) : Prop := a.natAbs ≤ k
theorem Bd.lit (a : Int) : Bd a a.natAbs := Nat.le_refl _
theorem Bd.box {x P : Int} {k : Nat} (h : 0 ≤ x ∧ x < P) (hP : P ≤ (k : Int)) : Bd x k := by unfold Bd; omega
theorem Bd.mul {a b : Int} {k l : Nat} (ha : Bd a k) (hb : Bd b l) : Bd (a * b) (k * l) := by
  unfold Bd at *; rw [Int.natAbs_mul]; exact Nat.mul_le_mul ha hb
theorem Bd.add {a b : Int} {k l : Nat} (ha : Bd a k) (hb : Bd b l) : Bd (a + b) (k + l) := by unfold Bd at *; omega
theorem Bd.sub {a b : Int} {k l : Nat} (ha : Bd a k) (hb : Bd b l) : Bd (a - b) (k + l) := by unfold Bd at *; omega
theorem Bd.pow {a : Int} {k : Nat} (ha : Bd a k) (n : Nat) : Bd (a ^ n) (k ^ n) := by
  unfold Bd at *; rw [Int.natAbs_pow]; exact Nat.pow_le_pow_left ha n
section
variable {prog : Program} {w : World} {A : Around} {E : Value → Shared → Prop} {H : Heap} {gs : Array GenState} {dr : Drawn} {tk : Nat} {os : OsState} {a b : Int} {t u : Tok} {Q : Value → Shared → Prop} {k l : Nat}
theorem mul_sm (ha : Bd a k) (hb : Bd b l) (hk : k < 2 ^ 40) (h : ∀ r t' tk', r = a * b → Bd r (k * l) → Q (.int r t') ⟨H, gs, dr, tk', os⟩) :
    wpAny (model prog w) A (binaryOp .Mult (.int a t) (.int b u)) Q E ⟨H, gs, dr, tk, os⟩ :=
  mul_int (s := ⟨H, gs, dr, tk, os⟩) (h _ _ _ rfl (ha.mul hb)) (PySem.IntMulOk.of_left (PySem.intBits_le_64 (by unfold Bd at ha; omega) (by unfold Bd at ha; omega)))
theorem add_sm (ha : Bd a k) (hb : Bd b l) (h : ∀ r t' tk', r = a + b → Bd r (k + l) → Q (.int r t') ⟨H, gs, dr, tk', os⟩) :
    wpAny (model prog w) A (binaryOp .Add (.int a t) (.int b u)) Q E ⟨H, gs, dr, tk, os⟩ := add_int (s := ⟨H, gs, dr, tk, os⟩) (h _ _ _ rfl (ha.add hb))
theorem sub_sm (ha : Bd a k) (hb : Bd b l) (h : ∀ r t' tk', r = a - b → Bd r (k + l) → Q (.int r t') ⟨H, gs, dr, tk', os⟩) :
    wpAny (model prog w) A (binaryOp .Sub (.int a t) (.int b u)) Q E ⟨H, gs, dr, tk, os⟩ := sub_int (s := ⟨H, gs, dr, tk, os⟩) (h _ _ _ rfl (ha.sub hb))
theorem mod_sm (h0 : 0 < b) (h1 : b ≤ 127) (h : ∀ r t' tk', r = a % b → 0 ≤ r ∧ r < b → Bd r 127 → Q (.int r t') ⟨H, gs, dr, tk', os⟩) :
    wpAny (model prog w) A (binaryOp .Mod (.int a t) (.int b u)) Q E ⟨H, gs, dr, tk, os⟩ := by
  have q : 0 ≤ a % b ∧ a % b < b := ⟨Int.emod_nonneg _ (by omega), Int.emod_lt_of_pos _ h0⟩
  refine mod_int' (s := ⟨H, gs, dr, tk, os⟩) (by omega) ?_
  rw [Int.fmod_eq_emod_of_nonneg _ (by omega)]
  exact h _ _ _ rfl q (Bd.box q h1)
theorem pow_sm {n : Int} (e : Nat) (hn : n = (e : Int)) (he : e ≤ 1000000) (ha : Bd a k) (hk : k < 2 ^ 40) (h : ∀ r t' tk', r = a ^ e → Bd r (k ^ e) → Q (.int r t') ⟨H, gs, dr, tk', os⟩) :
    wpAny (model prog w) A (binaryOp .Pow (.int a t) (.int n u)) Q E ⟨H, gs, dr, tk, os⟩ := by
  subst hn
  refine pow_int_small (s := ⟨H, gs, dr, tk, os⟩) (by omega) (by omega) (by unfold Bd at ha; omega) ?_
  rw [Int.toNat_natCast]
  exact h _ _ _ rfl (ha.pow e)
theorem const_my {M : Model} {env : Env} {n : Int} {j : Nat} {pos : Pos} (h : ∀ t' tk', Q (.int n t') ⟨H, gs, dr, tk', os⟩) : wpAny M A (eval (.Constant (.int n) j pos) env) Q E ⟨H, gs, dr, tk, os⟩ :=
  wpAny_Constant_int (s := ⟨H, gs, dr, tk, os⟩) (h _ _)
theorem store_my {M : Model} {cn : Str} {cs : Scope} {L c : Addr} {ccd v : Value} {cl : List (Str × Addr)} {h₀ : Heap} {m : Str → Option Value} {news : List (Addr × Obj)} {x : Str} {Q : Unit → Shared → Prop} (F : Fr h₀ L H m) (N : News h₀ L H news)
    (hk : cs.kind = .function) (hx : (envX cn cs L c ccd cl).kindOf x = some .local)
    (h : ∀ h' tk', Fr h₀ L h' (fun y => if y = x then some v else m y) → News h₀ L h' news → Q () ⟨h', gs, dr, tk', os⟩) :
    wpAny M A (storeName (envX cn cs L c ccd cl) x v) Q E ⟨H, gs, dr, tk, os⟩ :=
  storeX_L (s := ⟨H, gs, dr, tk, os⟩) F N (fun h' F' N' => h h' _ F' N') hk hx
theorem tuple_my {M : Model} {vs : List Value} {h₀ : Heap} {L : Addr} {m : Str → Option Value} {news : List (Addr × Obj)} (F : Fr h₀ L H m) (N : News h₀ L H news) (hz : vs.length ≤ sizeLine)
    (h : ∀ D h', Fr h₀ L h' m → News h₀ L h' ((D, ({ cls := .type "tuple", data := .seq vs.toArray } : Obj)) :: news) → Q (.ref D) ⟨h', gs, dr, tk, os⟩) : wpAny M A (newTuple vs) Q E ⟨H, gs, dr, tk, os⟩ :=
  kup_newTuple (s := ⟨H, gs, dr, tk, os⟩) F N (fun D h' F' N' _ => h D h' F' N') hz
end
theorem word1 : True := by
  k_with "my bd" => (first | with_reducible assumption | (k_dflt (exact Bd.lit _)))
  exact True.intro
local macro_rules | `(tactic| walk_at "binaryOp Mult int int") => `(tactic| k_extra "mine binaryOp Mult int int")
theorem word2 : True := by
  k_with "mine binaryOp Mult int int" => (((with_reducible refine' mul_sm ?ha ?hb ?hk ?_); (case ha => walk_at "my bd"); (case hb => walk_at "my bd"); (case hk => k_dflt decide); k_whole; intro r' t' tk' e' b'))
  exact True.intro
local macro_rules | `(tactic| walk_at "binaryOp Add int int") => `(tactic| k_extra "mine binaryOp Add int int")
theorem word3 : True := by
  k_with "mine binaryOp Add int int" => (((with_reducible refine' add_sm ?ha ?hb ?_); (case ha => walk_at "my bd"); (case hb => walk_at "my bd"); k_whole; intro r' t' tk' e' b'))
  exact True.intro
local macro_rules | `(tactic| walk_at "binaryOp Sub int int") => `(tactic| k_extra "mine binaryOp Sub int int")
theorem word4 : True := by
  k_with "mine binaryOp Sub int int" => (((with_reducible refine' sub_sm ?ha ?hb ?_); (case ha => walk_at "my bd"); (case hb => walk_at "my bd"); k_whole; intro r' t' tk' e' b'))
  exact True.intro
local macro_rules | `(tactic| walk_at "binaryOp Mod int int") => `(tactic| k_extra "mine binaryOp Mod int int")
theorem word5 : True := by
  k_with "mine binaryOp Mod int int" => (((with_reducible refine' mod_sm ?ha ?hb ?_); (case ha => first | with_reducible assumption | (k_dflt decide)); (case hb => first | with_reducible assumption | (k_dflt decide)); k_whole; intro r' t' tk' e' h' b'))
  exact True.intro
theorem word6 : True := by
  k_with "my pow" => (((case hn => k_dflt rfl); (case he => k_dflt decide); (case ha => walk_at "my bd"); (case hk => k_dflt decide); k_whole))
  exact True.intro
local macro_rules | `(tactic| walk_at "binaryOp Pow int int") => `(tactic| k_extra "mine binaryOp Pow int int")
theorem word7 : True := by
  k_with "mine binaryOp Pow int int" => ((first | ((with_reducible refine' pow_sm 2 ?hn ?he ?ha ?hk ?_); (walk_at "my pow")) | ((with_reducible refine' pow_sm 3 ?hn ?he ?ha ?hk ?_); (walk_at "my pow")) | ((with_reducible refine' pow_sm 4 ?hn ?he ?ha ?hk ?_); (walk_at "my pow")); intro r' t' tk' e' b'))
  exact True.intro
-- the premises of a call
theorem word8 : True := by
  k_with "my need" => (first | (refine' need2 ?n1 ?n2; (case n1 => k_mem); (case n2 => k_mem)) | (refine' need3 ?n1 ?n2 ?n3; (case n1 => k_mem); (case n2 => k_mem); (case n3 => k_mem)) | (refine' need1 ?n1; (case n1 => k_mem)))
  exact True.intro
theorem word9 : True := by
  k_with "my use" => (((case kB => k_asm); (case kF => k_asm); (case kX => k_asm); (case kN => k_asm); (case kT => k_asm); (case kk => first | exact rfl | assumption); (case kp => first | exact trivial | assumption); (case kn => walk_at "my need"); (case kd => ktr_room); (case ku => ktr_units)))
  exact True.intro
local macro_rules | `(tactic| walk_at "subscriptTail Name Constant ref int") => `(tactic| k_extra "mine subscriptTail Name Constant ref int")
theorem word10 : True := by
  k_with "mine subscriptTail Name Constant ref int" => (((with_reducible show wpAny _ _ (subscriptTail _ _ (Value.ref _) (Value.int _ _)) _ _ _); k_dflt (refine' item_tupleT ?t ?a ?b ?c ?d ?_; (case t => exact News.isTup (by k_asm) (by k_mem)); (case a => decide); (case b => decide); (case c => rfl); (case d => rfl); k_whole)))
  exact True.intro
local macro_rules | `(tactic| walk_at "newTuple") => `(tactic| k_extra "mine newTuple")
theorem word11 : True := by
  k_with "mine newTuple" => (((k_dflt (refine' tuple_my ?F ?N ?z ?_; (case F => k_asm); (case N => k_asm); (case z => kmk_size); k_whole)); intro D' h' F' N'; (try k_sweep)))
  exact True.intro
local macro_rules | `(tactic| walk_at "storeName") => `(tactic| k_extra "mine storeName")
theorem word12 : True := by
  k_with "mine storeName" => (((k_dflt (refine' store_my ?F ?N ?a ?b ?_; (case F => k_asm); (case N => k_asm); (case a => rfl); (case b => rfl); k_whole)); intro h' tk' F' N'; (try k_sweep)))
  exact True.intro
local macro_rules | `(tactic| walk_at "eval Constant int") => `(tactic| k_extra "mine eval Constant int")
theorem word13 : True := by
  k_with "mine eval Constant int" => (((with_reducible refine const_my ?_); intro t' tk'))
  exact True.intro
theorem word14 : True := by
  k_with "my clear" => (((repeat (rename Fr _ _ _ _ => hF; clear hF)); (repeat (rename News _ _ _ _ => hF; clear hF))))
  exact True.intro
def jdbl (P A x y z : Int) : Int × Int × Int :=
  if y = 0 then (0, 0, 0) else
    let ysq := y ^ 2 % P
    let S := 4 * x * ysq % P
    let M := (3 * x ^ 2 + A * z ^ 4) % P
    let nx := (M ^ 2 - 2 * S) % P
    let ny := (M * (S - nx) - 8 * ysq ^ 2) % P
    let nz := 2 * y * z % P
    (nx, ny, nz)
def Out3 (v : Int × Int × Int) (r : Value) (tl : List (Addr × Obj)) : Prop :=
  ∃ (d : Addr) (x y z : Int) (tx ty tz : Tok) (c : Nat), r = .ref d ∧ tl = [(d, tup3 x y z tx ty tz c)] ∧ v = (x, y, z)
theorem jdbl_ct (w : World) {p cv : Addr} {x y z P N A B Gx Gy : Int} {tx ty tz tP tN tA tB tG tH : Tok} {c c' : Nat}
   (hP : 2 < P ∧ P ≤ 127) (hA : 0 ≤ A ∧ A < P) (hx : 0 ≤ x ∧ x < P) (hy : 0 ≤ y ∧ y < P) (hz : 0 ≤ z ∧ z < P) :
   Calls w 49 1 8 (fun _ => True) [(p, tup3 x y z tx ty tz c), (cv, tup6 P N A B Gx Gy tP tN tA tB tG tH c')] [.ref p, .ref cv] (Out3 (jdbl P A x y z)) := by
  w_on
  unfold Calls
  k_fill
  intro mean mg mb dp un gd cn cs a ccd cl outer A₀ base h₀ L m news s Q E B F X N T hk hpre hneed hd hu hret
  have N2 := news_more N hneed
  simp only [List.cons_append, List.nil_append] at N2
  clear N hneed
  have hP0 : 0 < P := by omega
  have hP1 : P ≤ 127 := hP.2
  have bx : Bd x 127 := Bd.box hx hP1
  have b_y : Bd y 127 := Bd.box hy hP1
  have bz : Bd z 127 := Bd.box hz hP1
  have bA : Bd A 127 := Bd.box hA hP1
  refine wpAny_call ?_
  k_dflt ktr_enter
  k_steps
  all_goals (
    refine' hret _ [_] _ _ (by assumption) (news_less (by assumption) (sub_one ?hm ?hs)) ⟨_, _, _, _, _, _, _, _, rfl, rfl, ?he⟩
    (case hm => k_mem)
    (case hs => (intro q hq; repeat (first | exact hq | refine List.Mem.tail _ ?_)))
    (case he => (walk_at "my clear"; subst_vars; first | (simp only [jdbl, if_neg (by assumption : ¬ y = 0)]; done) | (simp only [jdbl, if_true]; done))))
def jadd (P A x y z x' y' z' : Int) : Int × Int × Int :=
  if y = 0 then (x', y', z') else if y' = 0 then (x, y, z) else
    let U1 := x * z' ^ 2 % P
    let U2 := x' * z ^ 2 % P
    let S1 := y * z' ^ 3 % P
    let S2 := y' * z ^ 3 % P
    if U1 = U2 then (if S1 ≠ S2 then (0, 0, 1) else jdbl P A x y z) else
      let H := U2 - U1
      let R := S2 - S1
      let H2 := H * H % P
      let H3 := H * H2 % P
      let U1H2 := U1 * H2 % P
      let nx := (R ^ 2 - H3 - 2 * U1H2) % P
      let ny := (R * (U1H2 - nx) - S1 * H3) % P
      let nz := H * z * z' % P
      (nx, ny, nz)
local macro_rules | `(tactic| walk_at "call ref") => `(tactic| k_extra "mine call ref")
theorem word15 : True := by
  k_with "mine call ref" => (((with_reducible show wpAny _ _ (call (Value.ref 49) _) _ _ _); k_dflt (refine' Calls.use (jdbl_ct _ ?h1 ?h2 ?h3 ?h4 ?h5) ?kB ?kF ?kX ?kN ?kT ?kk ?kp ?kn ?kd ?ku ?_; (walk_at "my use"); (case h1 => assumption); (case h2 => assumption); (case h3 => assumption); (case h4 => assumption); (case h5 => assumption); k_whole); k_dflt (intro r' tl' h' tk' F' N' O'; obtain ⟨d', x', y', z', tx', ty', tz', c', e1', e2', e3'⟩ := O'; subst e1'; subst e2'; (try simp only [List.cons_append, List.nil_append] at N'); (try k_sweep))))
  exact True.intro
theorem jadd_ct (w : World) {p q cv : Addr} {x y z x' y' z' P N A B Gx Gy : Int} {tx ty tz tx' ty' tz' tP tN tA tB tG tH : Tok} {c c1 c' : Nat}
   (hP : 2 < P ∧ P ≤ 127) (hA : 0 ≤ A ∧ A < P) (hx : 0 ≤ x ∧ x < P) (hy : 0 ≤ y ∧ y < P) (hz : 0 ≤ z ∧ z < P) (hx' : 0 ≤ x' ∧ x' < P) (hy' : 0 ≤ y' ∧ y' < P) (hz' : 0 ≤ z' ∧ z' < P) :
   Calls w 56 2 16 (fun _ => True) [(p, tup3 x y z tx ty tz c), (q, tup3 x' y' z' tx' ty' tz' c1), (cv, tup6 P N A B Gx Gy tP tN tA tB tG tH c')] [.ref p, .ref q, .ref cv] (Out3 (jadd P A x y z x' y' z')) := by
  w_on
  unfold Calls
  k_fill
  intro mean mg mb dp un gd cn cs a ccd cl outer A₀ base h₀ L m news s Q E B F X N T hk hpre hneed hd hu hret
  have N2 := news_more N hneed
  simp only [List.cons_append, List.nil_append] at N2
  clear N hneed
  have hP0 : 0 < P := by omega
  have hP1 : P ≤ 127 := hP.2
  have bx : Bd x 127 := Bd.box hx hP1
  have b_y : Bd y 127 := Bd.box hy hP1
  have bz : Bd z 127 := Bd.box hz hP1
  have bx' : Bd x' 127 := Bd.box hx' hP1
  have b_y' : Bd y' 127 := Bd.box hy' hP1
  have bz' : Bd z' 127 := Bd.box hz' hP1
  have bA : Bd A 127 := Bd.box hA hP1
  refine wpAny_call ?_
  k_dflt ktr_enter
  k_steps
  all_goals (
    refine' hret _ [_] _ _ (by assumption) (news_less (by assumption) (sub_one ?hm ?hs)) ⟨_, _, _, _, _, _, _, _, rfl, rfl, ?he⟩
    (case hm => k_mem)
    (case hs => (intro q hq; repeat (first | exact hq | refine List.Mem.tail _ ?_)))
    (case he => (walk_at "my clear"; subst_vars; (simp only [jadd]); (repeat' split); all_goals (first | rfl | assumption | contradiction | (exfalso; omega) | (exfalso; simp_all; done)))))
def Stop (P : Prop) : Prop := P
theorem stop_here {P : Prop} (h : Stop P) : P := h
section
variable {prog : Program} {w : World} {A : Around} {E : Value → Shared → Prop} {H : Heap} {gs : Array GenState} {dr : Drawn} {tk : Nat} {os : OsState} {a b : Int} {t u : Tok} {Q : Value → Shared → Prop} {k l : Nat}
theorem mulR_sm (hb : Bd b l) (hk : l < 2 ^ 40) (h : ∀ r t' tk', r = a * b → Q (.int r t') ⟨H, gs, dr, tk', os⟩) :
    wpAny (model prog w) A (binaryOp .Mult (.int a t) (.int b u)) Q E ⟨H, gs, dr, tk, os⟩ :=
  mul_int (s := ⟨H, gs, dr, tk, os⟩) (h _ _ _ rfl) (PySem.IntMulOk.of_right (PySem.intBits_le_64 (by unfold Bd at hb; omega) (by unfold Bd at hb; omega)))
theorem sub_any (h : ∀ r t' tk', r = a - b → Q (.int r t') ⟨H, gs, dr, tk', os⟩) :
    wpAny (model prog w) A (binaryOp .Sub (.int a t) (.int b u)) Q E ⟨H, gs, dr, tk, os⟩ := sub_int (s := ⟨H, gs, dr, tk, os⟩) (h _ _ _ rfl)
theorem div_sm (h0 : 0 < b) (ha : 0 ≤ a) (hl : Bd a k) (hb : Bd b l) (hk' : l < 2 ^ 30) (h : ∀ r t' tk', r = a / b → 0 ≤ r → Bd r k → Q (.int r t') ⟨H, gs, dr, tk', os⟩) :
    wpAny (model prog w) A (binaryOp .FloorDiv (.int a t) (.int b u)) Q E ⟨H, gs, dr, tk, os⟩ := by
  refine floordiv_int (s := ⟨H, gs, dr, tk, os⟩) (by omega) ?_ (Or.inl (PyProof.noPylong_small (by unfold Bd at hb; omega)))
  rw [Int.fdiv_eq_ediv_of_nonneg _ (by omega)]
  refine h _ _ _ rfl (Int.ediv_nonneg ha (by omega)) ?_
  unfold Bd at *
  rw [Int.natAbs_ediv_of_nonneg ha]
  exact Nat.le_trans (Nat.div_le_self _ _) hl
theorem div_any (h0 : 0 < b) (hb : Bd b l) (hk' : l < 2 ^ 30) (h : ∀ r t' tk', r = a / b → Q (.int r t') ⟨H, gs, dr, tk', os⟩) :
    wpAny (model prog w) A (binaryOp .FloorDiv (.int a t) (.int b u)) Q E ⟨H, gs, dr, tk, os⟩ := by
  refine floordiv_int (s := ⟨H, gs, dr, tk, os⟩) (by omega) ?_ (Or.inl (PyProof.noPylong_small (by unfold Bd at hb; omega)))
  rw [Int.fdiv_eq_ediv_of_nonneg _ (by omega)]
  exact h _ _ _ rfl
theorem mod_any (h0 : 0 < b) (h : ∀ r t' tk', r = a % b → 0 ≤ r ∧ r < b → Q (.int r t') ⟨H, gs, dr, tk', os⟩) :
    wpAny (model prog w) A (binaryOp .Mod (.int a t) (.int b u)) Q E ⟨H, gs, dr, tk, os⟩ := by
  refine mod_int' (s := ⟨H, gs, dr, tk, os⟩) (by omega) ?_
  rw [Int.fmod_eq_emod_of_nonneg _ (by omega)]
  exact h _ _ _ rfl ⟨Int.emod_nonneg _ (by omega), Int.emod_lt_of_pos _ h0⟩
end
theorem word16 : True := by
  k_with "mine binaryOp Mult int int" => (first
      | ((with_reducible refine' mul_sm ?ha ?hb ?hk ?_); (case ha => walk_at "my bd"); (case hb => walk_at "my bd"); (case hk => k_dflt decide); k_whole; intro r' t' tk' e' b')
      | ((with_reducible refine' mulR_sm ?hb ?hk ?_); (case hb => walk_at "my bd"); (case hk => k_dflt decide); k_whole; intro r' t' tk' e'))
  exact True.intro
theorem word17 : True := by
  k_with "mine binaryOp Sub int int" => (first
      | ((with_reducible refine' sub_sm ?ha ?hb ?_); (case ha => walk_at "my bd"); (case hb => walk_at "my bd"); k_whole; intro r' t' tk' e' b')
      | ((with_reducible refine' sub_any ?_); k_whole; intro r' t' tk' e'))
  exact True.intro
local macro_rules | `(tactic| walk_at "binaryOp FloorDiv int int") => `(tactic| k_extra "mine binaryOp FloorDiv int int")
theorem word18 : True := by
  k_with "mine binaryOp FloorDiv int int" => (first
      | ((with_reducible refine' div_sm ?h0 ?h1 ?ha ?hb ?hl ?_); (case h0 => first | with_reducible assumption | (k_dflt decide)); (case h1 => with_reducible assumption); (case ha => walk_at "my bd"); (case hb => walk_at "my bd"); (case hl => k_dflt decide); k_whole; intro r' t' tk' e' h' b')
      | ((with_reducible refine' div_any ?h0 ?hb ?hl ?_); (case h0 => first | with_reducible assumption | (k_dflt decide)); (case hb => walk_at "my bd"); (case hl => k_dflt decide); k_whole; intro r' t' tk' e'))
  exact True.intro
local macro_rules | `(tactic| walk_at "exec While Compare cons nil") => `(tactic| k_extra "mine exec While Compare cons nil")
theorem word19 : True := by
  k_with "mine exec While Compare cons nil" => ((refine stop_here ?_))
  exact True.intro
theorem word20 : True := by
  k_with "mine binaryOp Mod int int" => (first
      | ((with_reducible refine' mod_sm ?ha ?hb ?_); (case ha => first | with_reducible assumption | (k_dflt decide)); (case hb => first | with_reducible assumption | (k_dflt decide)); k_whole; intro r' t' tk' e' h' b')
      | ((with_reducible refine' mod_any ?ha ?_); (case ha => first | with_reducible assumption | (k_dflt decide) | (k_dflt omega)); k_whole; intro r' t' tk' e' h'))
  exact True.intro
def Out1 (P : Int → Prop) (r : Value) (tl : List (Addr × Obj)) : Prop := ∃ (x : Int) (t : Tok), r = .int x t ∧ tl = [] ∧ P x
def InvOk (a n r : Int) : Prop := 0 ≤ r ∧ r < n ∧ (a = 0 → r = 0) ∧ (a ≠ 0 → (a * r) % n = 1)
def InvI (a n lm hm low high : Int) : Prop := n ∣ lm * a - low ∧ n ∣ hm * a - high ∧ 1 ≤ low ∧ low < high ∧ high ≤ n ∧ ∃ u v, u * low + v * high = 1
theorem InvI.start {a n : Int} (hn : 2 < n) (h0 : a ≠ 0) (hg : a ≠ 0 → ∃ u, (a * u) % n = 1) : InvI a n 1 0 (a % n) n := by
  have h1 := Int.emod_nonneg a (show n ≠ 0 by omega)
  have h2 := Int.emod_lt_of_pos a (show 0 < n by omega)
  obtain ⟨u, h3⟩ := hg h0
  have h4 := Int.emod_add_mul_ediv a n
  refine ⟨⟨a / n, by omega⟩, ⟨-1, by omega⟩, ?_, h2, Int.le_refl _, u, a / n * u - a * u / n, ?_⟩
  · rcases Int.lt_or_eq_of_le h1 with h | h
    · omega
    · rw [Int.mul_emod, ← h, Int.zero_mul, Int.zero_emod] at h3; omega
  · have h5 := Int.emod_add_mul_ediv (a * u) n
    rw [h3] at h5
    grind
theorem InvI.turn {a n lm hm low high : Int} (I : InvI a n lm hm low high) (h : 1 < low) : InvI a n (hm - lm * (high / low)) lm (high - low * (high / low)) low := by
  obtain ⟨h1, h2, h3, h4, h5, u, v, h6⟩ := I
  have e : high - low * (high / low) = high % low := by rw [Int.emod_def]
  have e1 := Int.emod_nonneg high (show low ≠ 0 by omega)
  have e2 := Int.emod_lt_of_pos high (show 0 < low by omega)
  refine ⟨?_, h1, ?_, by omega, by omega, v, u + v * (high / low), by grind⟩
  · have := Int.dvd_sub h2 (Int.dvd_mul_of_dvd_left (c := high / low) h1)
    exact (show (hm * a - high - (lm * a - low) * (high / low)) = (hm - lm * (high / low)) * a - (high - low * (high / low)) by grind) ▸ this
  · rw [e]
    rcases Int.lt_or_eq_of_le e1 with q | q
    · omega
    · exfalso
      obtain ⟨k, d⟩ : low ∣ high := Int.dvd_of_emod_eq_zero q.symm
      have d1 : low ∣ 1 := ⟨u + v * k, by grind⟩
      have := Int.le_of_dvd (by decide) d1
      omega
theorem InvI.done {a n lm hm low high : Int} (I : InvI a n lm hm low high) (hn : 2 < n) (h : ¬ 1 < low) (h0 : a ≠ 0) : InvOk a n (lm % n) := by
  obtain ⟨h1, h2, h3, h4, h5, h6⟩ := I
  refine ⟨Int.emod_nonneg _ (by omega), Int.emod_lt_of_pos _ (by omega), fun e => absurd e h0, fun _ => ?_⟩
  have e : low = 1 := by omega
  subst e
  rw [Int.mul_emod, Int.emod_emod_of_dvd _ (Int.dvd_refl n), ← Int.mul_emod, Int.mul_comm a lm]
  have q : (lm * a) % n = 1 % n := Int.emod_eq_emod_iff_emod_sub_eq_zero.mpr (Int.emod_eq_zero_of_dvd h1)
  rw [q]
  exact Int.emod_eq_of_lt (by omega) (by omega)

def InvJ (a n : Int) (tn : Tok) (keep : List (Addr × Obj)) (k : Nat) (m : Str → Option Value) (nw : List (Addr × Obj)) : Prop :=
  ∃ (lm hm low high : Int) (t1 t2 t3 t4 : Tok), m (Str.ofString "lm") = some (.int lm t1) ∧ m (Str.ofString "hm") = some (.int hm t2) ∧ m (Str.ofString "low") = some (.int low t3) ∧ m (Str.ofString "high") = some (.int high t4) ∧ m (Str.ofString "n") = some (.int n tn) ∧
    (∀ p ∈ keep, p ∈ nw) ∧ k = low.toNat ∧ InvI a n lm hm low high
/-- a frame said again, the names at hand written out -/
theorem fr_say {h₀ h : Heap} {L : Addr} {m : Str → Option Value} {x : Str} {v : Value} (F : Fr h₀ L h m) (e : m x = some v) : Fr h₀ L h (fun y => if y = x then some v else m y) := by
  have : (fun y => if y = x then some v else m y) = m := by
    funext y
    by_cases q : y = x
    · rw [if_pos q, q, e]
    · rw [if_neg q]
  rw [this]; exact F
theorem inv_ct (w : World) {a n : Int} {ta tn : Tok} (ha : 0 ≤ a ∧ a ≤ 127) (hn : 2 < n ∧ n ≤ 127) (hg : a ≠ 0 → ∃ u, (a * u) % n = 1) :
   Calls w 35 1 8 (fun _ => True) [] [.int a ta, .int n tn] (Out1 (InvOk a n)) := by
  w_on
  unfold Calls
  k_fill
  intro mean mg mb dp un gd cn cs a' ccd cl outer A₀ base h₀ L m news s Q E B F X N T hk hpre hneed hd hu hret
  clear hneed
  have hP0 : 0 < n := by omega
  have hP1 : n ≤ 127 := hn.2
  have bx : Bd a 127 := by unfold Bd; omega
  have bn : Bd n 127 := by unfold Bd; omega
  refine wpAny_call ?_
  k_dflt ktr_enter
  k_steps
  · refine hret _ [] _ _ (by assumption) (by assumption) ⟨_, _, rfl, rfl, ?_⟩
    exact ⟨by omega, by omega, fun _ => rfl, fun h => absurd (by assumption) h⟩
  · rename Fr _ _ _ _ => F1
    rename News _ _ _ _ => N1
    rename a ≠ 0 => h0
    unfold Stop
    rename _ = a % n => he
    subst he
    refine While_inv2 (InvJ a n tn news) F1 N1 ⟨_, _, _, _, _, _, _, _, rfl, rfl, rfl, rfl, rfl, ?_, rfl, InvI.start hn.1 h0 hg⟩ ?_
    · intro q hq; repeat (first | exact hq | refine List.Mem.tail _ ?_)
    · clear F1 N1
      rintro n1 m₁ nw h tk F1 N1 ⟨lm, hm, low, high, t1, t2, t3, t4, q1, q2, q3, q4, q5, q6, rfl, I⟩
      have F2 := fr_say (x := Str.ofString "lm") F1 q1
      have F3 := fr_say (x := Str.ofString "hm") (v := .int hm t2) F2 (by exact q2)
      have F4 := fr_say (x := Str.ofString "low") (v := .int low t3) F3 (by exact q3)
      have F5 := fr_say (x := Str.ofString "high") (v := .int high t4) F4 (by exact q4)
      have F6 := fr_say (x := Str.ofString "n") (v := .int n tn) F5 (by exact q5)
      clear F2 F3 F4 F5
      have N2 := news_more N1 q6
      have i1 := I.2.2.1
      have i2 := I.2.2.2.1
      have i3 := I.2.2.2.2.1
      have bl : Bd low 127 := by unfold Bd; omega
      have bh : Bd high 127 := by unfold Bd; omega
      have hl0 : 0 < low := by omega
      have hh0 : 0 ≤ high := by omega
      clear F1
      k_steps
      · rename 1 < low => h1
        have J := I.turn h1
        rename _ = high / low => e1
        subst e1
        rename _ = lm * (high / low) => e2
        subst e2
        rename _ = low * (high / low) => e3
        subst e3
        rename _ = high - low * (high / low) => e4
        subst e4
        rename _ = hm - lm * (high / low) => e5
        subst e5
        unfold WhileStep2
        dsimp only
        refine' ⟨_, _, _, _, _, rfl, by assumption, by assumption, ?lt, ⟨_, _, _, _, _, _, _, _, rfl, rfl, rfl, rfl, rfl, ?keep, rfl, J⟩⟩
        · have := J.2.2.1; have := J.2.2.2.1; omega
        · intro q hq; refine List.Mem.tail _ (List.Mem.tail _ (List.mem_append_left _ hq))
      · rename ¬ 1 < low => h1
        rename _ = lm % n => e1
        subst e1
        refine hret _ [] _ _ (by assumption) (news_less (by assumption) ?_) ⟨_, _, rfl, rfl, I.done hn.1 h1 h0⟩
        intro q hq; exact List.mem_append_left _ hq
theorem word21 : True := by
  k_with "my need" => (first | (refine' need2 ?n1 ?n2; (case n1 => k_mem); (case n2 => k_mem)) | (refine' need3 ?n1 ?n2 ?n3; (case n1 => k_mem); (case n2 => k_mem); (case n3 => k_mem)) | (refine' need1 ?n1; (case n1 => k_mem)) | exact (fun _ h => nomatch h))
  exact True.intro
theorem word22 : True := by
  k_with "mine call ref" => (((with_reducible show wpAny _ _ (call (Value.ref 35) _) _ _ _); k_dflt (refine' Calls.use (inv_ct _ ?h1 ?h2 ?h3) ?kB ?kF ?kX ?kN ?kT ?kk ?kp ?kn ?kd ?ku ?_; (walk_at "my use"); (case h1 => first | assumption | omega); (case h2 => assumption); (case h3 => assumption); k_whole); k_dflt (intro r' tl' h' tk' F' N' O'; obtain ⟨x', tx', e1', e2', e3'⟩ := O'; subst e1'; subst e2'; (try simp only [List.nil_append] at N'); (try k_sweep); (have i0' := And.intro (And.left e3') (And.left (And.right e3'))); (have b' := Bd.box i0' (And.right (by assumption : _ ∧ _ ≤ (127 : Int)))))))
  exact True.intro
def Out2 (S : Int → Int → Prop) (r : Value) (tl : List (Addr × Obj)) : Prop :=
  ∃ (d : Addr) (x y : Int) (tx ty : Tok) (c : Nat), r = .ref d ∧ tl = [(d, tup2 x y tx ty c)] ∧ S x y
theorem tojac_ct (w : World) {p : Addr} {x y : Int} {tx ty : Tok} {c : Nat} :
   Calls w 42 1 8 (fun _ => True) [(p, tup2 x y tx ty c)] [.ref p] (Out3 (x, y, 1)) := by
  w_on
  unfold Calls
  k_fill
  intro mean mg mb dp un gd cn cs a ccd cl outer A₀ base h₀ L m news s Q E B F X N T hk hpre hneed hd hu hret
  have N2 := news_more N hneed
  simp only [List.cons_append, List.nil_append] at N2
  clear N hneed
  refine wpAny_call ?_
  k_dflt ktr_enter
  k_steps
  all_goals (
    refine' hret _ [_] _ _ (by assumption) (news_less (by assumption) (sub_one ?hm ?hs)) ⟨_, _, _, _, _, _, _, _, rfl, rfl, ?he⟩
    (case hm => k_mem)
    (case hs => (intro q hq; repeat (first | exact hq | refine List.Mem.tail _ ?_)))
    (case he => rfl))
def FromJac (P x y z u v : Int) : Prop := ∃ i, InvOk z P i ∧ u = x * i ^ 2 % P ∧ v = y * i ^ 3 % P
theorem fromjac_ct (w : World) {p cv : Addr} {x y z P N A B Gx Gy : Int} {tx ty tz tP tN tA tB tG tH : Tok} {c c' : Nat}
   (hP : 2 < P ∧ P ≤ 127) (hx : 0 ≤ x ∧ x < P) (hy : 0 ≤ y ∧ y < P) (hz : 0 ≤ z ∧ z < P) (hi : z ≠ 0 → ∃ u, (z * u) % P = 1) :
   Calls w 63 2 16 (fun _ => True) [(p, tup3 x y z tx ty tz c), (cv, tup6 P N A B Gx Gy tP tN tA tB tG tH c')] [.ref p, .ref cv] (Out2 (FromJac P x y z)) := by
  w_on
  unfold Calls
  k_fill
  intro mean mg mb dp un gd cn cs a ccd cl outer A₀ base h₀ L m news s Q E B F X N T hk hpre hneed hd hu hret
  have N2 := news_more N hneed
  simp only [List.cons_append, List.nil_append] at N2
  clear N hneed
  have hP0 : 0 < P := by omega
  have hP1 : P ≤ 127 := hP.2
  have bx : Bd x 127 := Bd.box hx hP1
  have b_y : Bd y 127 := Bd.box hy hP1
  have hz' : 0 ≤ z ∧ z ≤ 127 := by omega
  refine wpAny_call ?_
  k_dflt ktr_enter
  k_steps
  all_goals (
    refine' hret _ [_] _ _ (by assumption) (news_less (by assumption) (sub_one ?hm ?hs)) ⟨_, _, _, _, _, _, rfl, rfl, ?he⟩
    (case hm => k_mem)
    (case hs => (intro q hq; repeat (first | exact hq | refine List.Mem.tail _ ?_)))
    (case he => (refine ⟨_, by assumption, ?_, ?_⟩ <;> (walk_at "my clear"; subst_vars; rfl))))
section
def ph (p : Nat) [NeZero p] (x : Int) : Fin p := @IntCast.intCast (Fin p) (Lean.Grind.Ring.intCast) x
variable {p : Nat} [NeZero p] (x y : Int)
theorem ph_ext : (ph p x = ph p y) ↔ x % p = y % p := Lean.Grind.IsCharP.intCast_ext_iff (α := Fin p) p
theorem ph_mul : ph p (x * y) = ph p x * ph p y := Lean.Grind.Ring.intCast_mul x y
theorem ph_add : ph p (x + y) = ph p x + ph p y := Lean.Grind.Ring.intCast_add x y
theorem ph_sub : ph p (x - y) = ph p x - ph p y := Lean.Grind.Ring.intCast_sub x y
theorem ph_pow (k : Nat) : ph p (x ^ k) = ph p x ^ k := Lean.Grind.Ring.intCast_pow x k
theorem ph_mod : ph p (x % (p : Int)) = ph p x := (ph_ext _ _).mpr (Int.emod_emod_of_dvd _ (Int.dvd_refl _))
theorem ph_lit (n : Nat) : ph p (OfNat.ofNat n) = OfNat.ofNat n := Lean.Grind.Ring.intCast_ofNat n
theorem ph_0 : ph p 0 = 0 := Lean.Grind.Ring.intCast_zero
theorem ph_1 : ph p 1 = 1 := Lean.Grind.Ring.intCast_one
end

structure Cv where
  P : Int
  N : Int
  A : Int
  B : Int
  Gx : Int
  Gy : Int
  tab : List (Nat × Nat)
def Cv.g (C : Cv) (k : Nat) : Nat × Nat := C.tab.getD k (0, 0)
def castp (p : Nat × Nat) : Int × Int := ((p.1 : Int), (p.2 : Int))
def Cv.T (C : Cv) (i : Int) : Int × Int := castp (C.g (i % C.N).toNat)
def Box (P x : Int) : Prop := 0 ≤ x ∧ x < P
/-- the triple stands for i times the curve's point -/
def Rep (C : Cv) (i x y z : Int) : Prop := Box C.P x ∧ Box C.P y ∧ Box C.P z ∧
  ((i % C.N = 0 ∧ x = 0 ∧ y = 0) ∨ (i % C.N ≠ 0 ∧ z ≠ 0 ∧ x = (C.T i).1 * z ^ 2 % C.P ∧ y = (C.T i).2 * z ^ 3 % C.P))
abbrev DblC (P A X Y X2 Y2 : Int) : Prop := ((3 * X ^ 2 + A) ^ 2 - 8 * X * Y ^ 2 - 4 * X2 * Y ^ 2) % P = 0 ∧ ((3 * X ^ 2 + A) * (X - X2) - 2 * Y * (Y2 + Y)) % P = 0
abbrev AddC (P X1 Y1 X2 Y2 X3 Y3 : Int) : Prop := ((Y2 - Y1) ^ 2 - (X2 - X1) ^ 2 * (X1 + X2 + X3)) % P = 0 ∧ ((Y2 - Y1) * (X1 - X3) - (X2 - X1) * (Y3 + Y1)) % P = 0
abbrev Rt (P A B X : Int) : Int := ((PySem.Builtin.powMod (((X * X * X + A * X + B) % P) % P).toNat ((P + 1) / 4).toNat P.toNat : Nat) : Int)
abbrev Root (P A B X Y : Int) : Prop := (if (27 + Y % 2) % 2 = Rt P A B X % 2 then P - Rt P A B X else Rt P A B X) = Y ∧ ((X * X * X + A * X + B) % P - Y * Y) % P = 0
structure Good (C : Cv) : Prop where
  hP : 2 < C.P ∧ C.P ≤ 127
  hN : 2 < C.N ∧ C.N ≤ 127
  hA : Box C.P C.A
  unitP : ∀ z, z % C.P ≠ 0 → ∃ u, (z * u) % C.P = 1
  unitN : ∀ z, z % C.N ≠ 0 → ∃ u, (z * u) % C.N = 1
  two : (2 : Int) % C.P ≠ 0
  box : ∀ i, Box C.P (C.T i).1 ∧ Box C.P (C.T i).2
  zero : C.T 0 = (0, 0)
  base : C.T 1 = (C.Gx, C.Gy)
  back : ∀ x : Int, x % C.N ≠ 0 → (x * ((PySem.Builtin.powMod (x % C.N).toNat (C.N - 2).toNat C.N.toNat : Nat) : Int)) % C.N = 1 ∧ Box C.N ((PySem.Builtin.powMod (x % C.N).toNat (C.N - 2).toNat C.N.toNat : Nat) : Int)
  six : ∀ m : Int, ∃ k : Int, (k = 0 ∨ k = 1 ∨ k = 2 ∨ k = 3 ∨ k = 4 ∨ k = 5) ∧ (C.T (1 + (m + k) % (C.N - 1))).1 % C.N ≠ 0
  root : ∀ i, i % C.N ≠ 0 → Root C.P C.A C.B (C.T i).1 (C.T i).2
  yne : ∀ i, i % C.N ≠ 0 → (C.T i).2 ≠ 0
  dbl : ∀ i, i % C.N ≠ 0 → (2 * i) % C.N ≠ 0 ∧ DblC C.P C.A (C.T i).1 (C.T i).2 (C.T (2 * i)).1 (C.T (2 * i)).2
  add : ∀ i j, i % C.N ≠ 0 → j % C.N ≠ 0 → (C.T i).1 ≠ (C.T j).1 → (i + j) % C.N ≠ 0 ∧ AddC C.P (C.T i).1 (C.T i).2 (C.T j).1 (C.T j).2 (C.T (i + j)).1 (C.T (i + j)).2
  same : ∀ i j, i % C.N ≠ 0 → j % C.N ≠ 0 → (C.T i).1 = (C.T j).1 → (C.T i).2 = (C.T j).2 → i % C.N = j % C.N
  opp : ∀ i j, i % C.N ≠ 0 → j % C.N ≠ 0 → (C.T i).1 = (C.T j).1 → (C.T i).2 ≠ (C.T j).2 → (i + j) % C.N = 0
theorem Cv.T_congr {C : Cv} {i j : Int} (h : i % C.N = j % C.N) : C.T i = C.T j := by unfold Cv.T; rw [h]
section
variable {p : Nat} [NeZero p]
theorem f_dbl1 (X Y X2 A z x y : Fin p) (h1 : x = X * z ^ 2) (h2 : y = Y * z ^ 3) (d1 : (3 * X ^ 2 + A) ^ 2 - 8 * X * Y ^ 2 - 4 * X2 * Y ^ 2 = 0) :
    (3 * x ^ 2 + A * z ^ 4) ^ 2 - 2 * (4 * x * y ^ 2) = X2 * (2 * y * z) ^ 2 := by
  have := congrArg (· * z ^ 8) d1
  subst h1 h2
  grind
theorem f_dbl2 (X Y X2 Y2 A z x y nx : Fin p) (h1 : x = X * z ^ 2) (h2 : y = Y * z ^ 3) (d2 : (3 * X ^ 2 + A) * (X - X2) - 2 * Y * (Y2 + Y) = 0) (hn : nx = X2 * (2 * y * z) ^ 2) :
    (3 * x ^ 2 + A * z ^ 4) * (4 * x * y ^ 2 - nx) - 8 * (y ^ 2) ^ 2 = Y2 * (2 * y * z) ^ 3 := by
  have := congrArg (· * (z ^ 12 * 4 * Y ^ 2)) d2
  subst h1 h2 hn
  grind
theorem f_add1 (X Y z x y X' Y' z' x' y' X3 : Fin p) (h1 : x = X * z ^ 2) (h2 : y = Y * z ^ 3) (h3 : x' = X' * z' ^ 2) (h4 : y' = Y' * z' ^ 3) (d1 : (Y' - Y) ^ 2 - (X' - X) ^ 2 * (X + X' + X3) = 0) :
    (y' * z ^ 3 - y * z' ^ 3) ^ 2 - (x' * z ^ 2 - x * z' ^ 2) * ((x' * z ^ 2 - x * z' ^ 2) * (x' * z ^ 2 - x * z' ^ 2)) - 2 * (x * z' ^ 2 * ((x' * z ^ 2 - x * z' ^ 2) * (x' * z ^ 2 - x * z' ^ 2))) = X3 * ((x' * z ^ 2 - x * z' ^ 2) * z * z') ^ 2 := by
  have := congrArg (· * (z ^ 6 * z' ^ 6)) d1
  subst h1 h2 h3 h4
  grind
theorem f_add2 (X Y z x y X' Y' z' x' y' X3 Y3 nx : Fin p) (h1 : x = X * z ^ 2) (h2 : y = Y * z ^ 3) (h3 : x' = X' * z' ^ 2) (h4 : y' = Y' * z' ^ 3) (d2 : (Y' - Y) * (X - X3) - (X' - X) * (Y3 + Y) = 0)
    (hn : nx = X3 * ((x' * z ^ 2 - x * z' ^ 2) * z * z') ^ 2) :
    (y' * z ^ 3 - y * z' ^ 3) * (x * z' ^ 2 * ((x' * z ^ 2 - x * z' ^ 2) * (x' * z ^ 2 - x * z' ^ 2)) - nx) - y * z' ^ 3 * ((x' * z ^ 2 - x * z' ^ 2) * ((x' * z ^ 2 - x * z' ^ 2) * (x' * z ^ 2 - x * z' ^ 2))) = Y3 * ((x' * z ^ 2 - x * z' ^ 2) * z * z') ^ 3 := by
  have := congrArg (· * (z ^ 9 * z' ^ 9 * (X' - X) ^ 2)) d2
  subst h1 h2 h3 h4 hn
  grind
end
theorem ph_inj {p : Nat} [NeZero p] {x y : Int} (hx : Box p x) (hy : Box p y) (h : ph p x = ph p y) : x = y := by
  have := (ph_ext x y).mp h
  rwa [Int.emod_eq_of_lt hx.1 hx.2, Int.emod_eq_of_lt hy.1 hy.2] at this
theorem box_mod {P : Int} (hP : 2 < P) (x : Int) : Box P (x % P) := ⟨Int.emod_nonneg _ (by omega), Int.emod_lt_of_pos _ (by omega)⟩
theorem ph0 {p : Nat} [NeZero p] {x : Int} : ph p x = 0 ↔ x % (p : Int) = 0 := by
  rw [← ph_0 (p := p), ph_ext, Int.zero_emod]
theorem Rep.congr {C : Cv} {i j x y z : Int} (R : Rep C i x y z) (h : j % C.N = i % C.N) : Rep C j x y z := by
  unfold Rep at *
  rw [h, Cv.T_congr h]; exact R
section
variable {C : Cv} (G : Good C)
include G
theorem Rep.mk' {p : Nat} [NeZero p] (hp : C.P = (p : Int)) {i x y z : Int} (hi : i % C.N ≠ 0) (bx : Box C.P x) (b_y : Box C.P y) (bz : Box C.P z) (hz : ph p z ≠ 0)
    (h1 : ph p x = ph p (C.T i).1 * ph p z ^ 2) (h2 : ph p y = ph p (C.T i).2 * ph p z ^ 3) : Rep C i x y z := by
  have hP := G.hP
  refine ⟨bx, b_y, bz, .inr ⟨hi, fun e => hz (by rw [e, ph_0]), ?_, ?_⟩⟩
  · refine ph_inj (p := p) (hp ▸ bx) (hp ▸ box_mod hP.1 _) ?_
    rw [hp, ph_mod, ph_mul, ph_pow, h1]
  · refine ph_inj (p := p) (hp ▸ b_y) (hp ▸ box_mod hP.1 _) ?_
    rw [hp, ph_mod, ph_mul, ph_pow, h2]
theorem Good.fin : ∃ (p : Nat) (_ : NeZero p), C.P = (p : Int) ∧ 2 < p := by
  have := G.hP
  exact ⟨C.P.toNat, ⟨by omega⟩, by omega, by omega⟩
/-- nonzero things can be divided by -/
theorem Good.inv {p : Nat} [NeZero p] (hp : C.P = (p : Int)) {z : Int} (hz : ph p z ≠ 0) : ∃ u, ph p z * ph p u = 1 := by
  have : z % C.P ≠ 0 := fun h => hz (by
    rw [hp] at h
    rw [← ph_mod, h, ph_0])
  obtain ⟨u, hu⟩ := G.unitP z this
  refine ⟨u, ?_⟩
  rw [← ph_mul, ← ph_1, ph_ext]
  have := G.hP
  rw [hp] at hu this
  rw [hu]
  exact (Int.emod_eq_of_lt (by omega) (by omega)).symm
theorem Good.noz {p : Nat} [NeZero p] (hp : C.P = (p : Int)) {a b : Int} (ha : ph p a ≠ 0) (hb : ph p b ≠ 0) : ph p (a * b) ≠ 0 := by
  obtain ⟨u, hu⟩ := G.inv hp ha
  obtain ⟨v, hv⟩ := G.inv hp hb
  intro h
  rw [ph_mul] at h
  apply ha
  have : ph p a = ph p a * ph p b * ph p v := by grind
  rw [this, h]
  grind
theorem Good.phne {p : Nat} [NeZero p] (hp : C.P = (p : Int)) {a : Int} (ha : Box C.P a) (h0 : a ≠ 0) : ph p a ≠ 0 := fun h => h0 (by
  rw [hp] at ha
  have hP := G.hP
  exact ph_inj ha ⟨by omega, by omega⟩ (by rw [h, ph_0]))
theorem Good.nonz {p : Nat} [NeZero p] (hp : C.P = (p : Int)) {a : Int} (h : ph p a ≠ 0) : a % C.P ≠ 0 := fun e => h (by
  rw [hp] at e
  rw [← ph_mod, e, ph_0])
theorem Rep.y0 {i x y z : Int} (R : Rep C i x y z) : y = 0 ↔ i % C.N = 0 := by
  obtain ⟨p, np, hp, hp2⟩ := G.fin
  obtain ⟨bx, b_y, bz, h | ⟨h1, h2, h3, h4⟩⟩ := R
  · exact ⟨fun _ => h.1, fun _ => h.2.2⟩
  · refine ⟨fun e => ?_, fun e => absurd e h1⟩
    exfalso
    have hY := G.phne hp (G.box i).2 (G.yne i h1)
    have hz := G.phne hp bz h2
    have := G.nonz hp (G.noz hp hY (G.noz hp hz (G.noz hp hz hz)))
    apply this
    rw [e] at h4
    rw [h4]
    congr 1
    grind
theorem Rep.dbl {i x y z : Int} (R : Rep C i x y z) : Rep C (2 * i) (jdbl C.P C.A x y z).1 (jdbl C.P C.A x y z).2.1 (jdbl C.P C.A x y z).2.2 := by
  have hP := G.hP
  have hy := R.y0 G
  obtain ⟨p, np, hp, hp2⟩ := G.fin
  obtain ⟨bx, b_y, bz, ⟨h1, h2, h3⟩ | ⟨h1, h2, h3, h4⟩⟩ := R
  · subst h3
    have e : jdbl C.P C.A x 0 z = (0, 0, 0) := by simp only [jdbl, if_true]
    rw [e]
    refine ⟨⟨by decide, by show (0 : Int) < C.P; omega⟩, ⟨by decide, by show (0 : Int) < C.P; omega⟩, ⟨by decide, by show (0 : Int) < C.P; omega⟩, .inl ⟨?_, rfl, rfl⟩⟩
    rw [Int.mul_emod, h1, Int.mul_zero, Int.zero_emod]
  · have hy' : ¬ y = 0 := fun e => h1 (hy.mp e)
    obtain ⟨g1, g2, g3⟩ := G.dbl i h1
    have hyz := G.phne hp b_y hy'
    have hzz := G.phne hp bz h2
    have h22 : ph p 2 ≠ 0 := fun h => G.two (by
      have := (ph_ext (p := p) 2 0).mp (by rw [h, ph_0])
      rw [hp, this]; rfl)
    have f3 : ph p x = ph p (C.T i).1 * ph p z ^ 2 := by rw [h3, hp, ph_mod, ph_mul, ph_pow]
    have f4 : ph p y = ph p (C.T i).2 * ph p z ^ 3 := by rw [h4, hp, ph_mod, ph_mul, ph_pow]
    rw [hp, ← ph0 ] at g2 g3
    simp only [ph_sub, ph_mul, ph_pow, ph_add, ph_lit] at g2 g3
    have q1 := f_dbl1 _ _ _ _ (ph p z) (ph p x) (ph p y) f3 f4 g2
    simp only [jdbl, if_neg hy']
    refine Rep.mk' G hp g1 (box_mod hP.1 _) (box_mod hP.1 _) (box_mod hP.1 _) ?_ ?_ ?_
    · rw [hp, ph_mod, ph_mul]
      rw [← ph_mul]
      exact G.noz hp (G.noz hp h22 hyz) hzz
    · simp only [hp, ph_mod, ph_sub, ph_mul, ph_pow, ph_add, ph_lit]
      exact q1
    · simp only [hp, ph_mod, ph_sub, ph_mul, ph_pow, ph_add, ph_lit]
      exact f_dbl2 _ _ _ _ _ (ph p z) (ph p x) (ph p y) _ f3 f4 g3 q1
theorem Rep.add {i j x y z x' y' z' : Int} (R : Rep C i x y z) (R' : Rep C j x' y' z') :
    Rep C (i + j) (jadd C.P C.A x y z x' y' z').1 (jadd C.P C.A x y z x' y' z').2.1 (jadd C.P C.A x y z x' y' z').2.2 := by
  have hP := G.hP
  have hy := R.y0 G
  have hy' := R'.y0 G
  have hd := R.dbl G
  obtain ⟨p, np, hp, hp2⟩ := G.fin
  by_cases c1 : y = 0
  · have e : jadd C.P C.A x y z x' y' z' = (x', y', z') := by simp only [jadd, if_pos c1]
    rw [e]
    exact R'.congr (by rw [Int.add_emod, hy.mp c1, Int.zero_add, Int.emod_emod_of_dvd _ (Int.dvd_refl _)])
  by_cases c2 : y' = 0
  · have e : jadd C.P C.A x y z x' y' z' = (x, y, z) := by simp only [jadd, if_neg c1, if_pos c2]
    rw [e]
    exact R.congr (by rw [Int.add_emod, hy'.mp c2, Int.add_zero, Int.emod_emod_of_dvd _ (Int.dvd_refl _)])
  obtain ⟨bx, b_y, bz, ⟨h1, h2, h3⟩ | ⟨h1, h2, h3, h4⟩⟩ := R
  · exact absurd h3 c1
  obtain ⟨bx', b_y', bz', ⟨k1, k2, k3⟩ | ⟨k1, k2, k3, k4⟩⟩ := R'
  · exact absurd k3 c2
  have hz := G.phne hp bz h2
  have hz' := G.phne hp bz' k2
  have f3 : ph p x = ph p (C.T i).1 * ph p z ^ 2 := by rw [h3, hp, ph_mod, ph_mul, ph_pow]
  have f4 : ph p y = ph p (C.T i).2 * ph p z ^ 3 := by rw [h4, hp, ph_mod, ph_mul, ph_pow]
  have f3' : ph p x' = ph p (C.T j).1 * ph p z' ^ 2 := by rw [k3, hp, ph_mod, ph_mul, ph_pow]
  have f4' : ph p y' = ph p (C.T j).2 * ph p z' ^ 3 := by rw [k4, hp, ph_mod, ph_mul, ph_pow]
  have hU : x * z' ^ 2 % C.P = x' * z ^ 2 % C.P ↔ (C.T i).1 = (C.T j).1 := by
    rw [hp, ← ph_ext, ph_mul, ph_mul, ph_pow, ph_pow, f3, f3']
    constructor
    · intro e
      refine ph_inj (p := p) (hp ▸ (G.box i).1) (hp ▸ (G.box j).1) ?_
      obtain ⟨u, hu⟩ := G.inv hp hz
      obtain ⟨v, hv⟩ := G.inv hp hz'
      have := congrArg (· * (ph p u ^ 2 * ph p v ^ 2)) e
      grind
    · intro e; rw [e]; grind
  have hS : y * z' ^ 3 % C.P = y' * z ^ 3 % C.P ↔ (C.T i).2 = (C.T j).2 := by
    rw [hp, ← ph_ext, ph_mul, ph_mul, ph_pow, ph_pow, f4, f4']
    constructor
    · intro e
      refine ph_inj (p := p) (hp ▸ (G.box i).2) (hp ▸ (G.box j).2) ?_
      obtain ⟨u, hu⟩ := G.inv hp hz
      obtain ⟨v, hv⟩ := G.inv hp hz'
      have := congrArg (· * (ph p u ^ 3 * ph p v ^ 3)) e
      grind
    · intro e; rw [e]; grind
  by_cases c3 : (C.T i).1 = (C.T j).1
  · by_cases c4 : (C.T i).2 = (C.T j).2
    · have e : jadd C.P C.A x y z x' y' z' = jdbl C.P C.A x y z := by simp only [jadd, if_neg c1, if_neg c2, if_pos (hU.mpr c3), ne_eq, hS.mpr c4, not_true, if_false]
      rw [e]
      refine hd.congr ?_
      have := G.same i j h1 k1 c3 c4
      rw [Int.add_emod, ← this, ← Int.add_emod]
      congr 1; omega
    · have e : jadd C.P C.A x y z x' y' z' = (0, 0, 1) := by simp only [jadd, if_neg c1, if_neg c2, if_pos (hU.mpr c3), ne_eq, mt hS.mp c4, not_false_eq_true, if_true]
      rw [e]
      exact ⟨⟨by decide, by show (0 : Int) < C.P; omega⟩, ⟨by decide, by show (0 : Int) < C.P; omega⟩, ⟨by decide, by show (1 : Int) < C.P; omega⟩, .inl ⟨G.opp i j h1 k1 c3 c4, rfl, rfl⟩⟩
  · obtain ⟨g1, g2, g3⟩ := G.add i j h1 k1 c3
    rw [hp, ← ph0] at g2 g3
    simp only [ph_sub, ph_mul, ph_pow, ph_add, ph_lit] at g2 g3
    have q1 := f_add1 _ _ (ph p z) (ph p x) (ph p y) _ _ (ph p z') (ph p x') (ph p y') _ f3 f4 f3' f4' g2
    simp only [jadd, if_neg c1, if_neg c2, if_neg (mt hU.mp c3)]
    refine Rep.mk' G hp g1 (box_mod hP.1 _) (box_mod hP.1 _) (box_mod hP.1 _) ?_ ?_ ?_
    · rw [hp, ph_mod]
      refine G.noz hp (G.noz hp ?_ hz) hz'
      intro h
      apply mt hU.mp c3
      rw [hp, ← ph_ext, ← ph_mod, ← ph_mod (x' * z ^ 2)]
      rw [ph_sub] at h
      grind
    · simp only [hp, ph_mod, ph_sub, ph_mul, ph_pow, ph_add, ph_lit]
      exact q1
    · simp only [hp, ph_mod, ph_sub, ph_mul, ph_pow, ph_add, ph_lit]
      exact f_add2 _ _ (ph p z) (ph p x) (ph p y) _ _ (ph p z') (ph p x') (ph p y') _ _ _ f3 f4 f3' f4' g3 q1
end
theorem Good.finN {C : Cv} (G : Good C) : ∃ (n : Nat) (_ : NeZero n), C.N = (n : Int) ∧ 2 < n := by
  have := G.hN
  exact ⟨C.N.toNat, ⟨by omega⟩, by omega, by omega⟩
theorem ph_self {n : Nat} [NeZero n] : ph n (n : Int) = 0 := ph0.mpr (Int.emod_self)
theorem ph_one {n : Nat} [NeZero n] {a b : Int} (h2 : 2 < n) (h : (a * b) % (n : Int) = 1) : ph n a * ph n b = 1 := by
  rw [← ph_mul, ← ph_1, ph_ext, h]
  exact (Int.emod_eq_of_lt (by decide) (by omega)).symm
theorem recover_idx {C : Cv} (G : Good C) {r i ρ s k z d : Int} (hi : InvOk r C.N i) (hr : r % C.N ≠ 0) (hρ : (r * ρ) % C.N = 1) (hd : d = (C.N - z) % C.N) : (i * (d * 1 + s * k)) % C.N = (ρ * (s * k - z)) % C.N := by
  obtain ⟨n, hn, e, h2⟩ := G.finN
  have hr0 : r ≠ 0 := fun h => hr (by rw [h, Int.zero_emod])
  have h1 := hi.2.2.2 hr0
  rw [e] at h1 hρ hd ⊢
  have q1 := ph_one h2 h1
  have q2 := ph_one h2 hρ
  rw [← ph_ext]
  have q3 : ph n d = 0 - ph n z := by rw [hd, ph_mod, ph_sub, ph_self]
  have q4 : ph n i = ph n ρ := by
    have : ph n i = ph n i * (ph n r * ph n ρ) := by rw [q2]; grind
    rw [this]; grind
  simp only [ph_mul, ph_sub, ph_add, q3, q4, ph_1]
  grind
noncomputable def cv0 : Cv := ⟨11, 13, 1, 6, 2, 4, [(0, 0), (2, 4), (5, 9), (8, 8), (10, 9), (3, 5), (7, 2), (7, 9), (3, 6), (10, 2), (8, 3), (5, 2), (2, 7)]⟩
noncomputable def cv1 : Cv := ⟨11, 17, 6, 5, 1, 1, [(0, 0), (1, 1), (10, 8), (4, 4), (7, 4), (6, 2), (8, 2), (0, 7), (2, 5), (2, 6), (0, 4), (8, 9), (6, 9), (7, 7), (4, 7), (10, 3), (1, 10)]⟩
noncomputable def cv2 : Cv := ⟨19, 13, 0, 2, 4, 16, [(0, 0), (4, 16), (18, 1), (6, 16), (9, 3), (12, 1), (8, 1), (8, 18), (12, 18), (9, 16), (6, 3), (18, 18), (4, 3)]⟩
noncomputable def cv3 : Cv := ⟨19, 13, 0, 3, 1, 17, [(0, 0), (1, 17), (14, 7), (11, 17), (7, 2), (3, 7), (2, 7), (2, 12), (3, 12), (7, 17), (11, 2), (14, 12), (1, 2)]⟩
noncomputable def cv4 : Cv := ⟨31, 43, 0, 3, 1, 2, [(0, 0), (1, 2), (16, 10), (22, 24), (24, 30), (26, 8), (5, 2), (25, 29), (30, 8), (9, 22), (4, 6), (14, 22), (18, 10), (6, 23), (28, 21), (11, 30), (7, 6), (20, 6), (17, 24), (27, 1), (8, 9), (23, 7), (23, 24), (8, 22), (27, 30), (17, 7), (20, 25), (7, 25), (11, 1), (28, 10), (6, 8), (18, 21), (14, 9), (4, 25), (9, 9), (30, 23), (25, 2), (5, 29), (26, 23), (24, 1), (22, 7), (16, 21), (1, 29)]⟩
noncomputable def cv5 : Cv := ⟨43, 31, 0, 7, 2, 31, [(0, 0), (2, 31), (7, 36), (35, 22), (21, 25), (12, 31), (29, 12), (25, 25), (32, 3), (20, 3), (42, 36), (40, 18), (37, 7), (13, 22), (34, 3), (38, 22), (38, 21), (34, 40), (13, 21), (37, 36), (40, 25), (42, 7), (20, 40), (32, 40), (25, 18), (29, 31), (12, 12), (21, 18), (35, 21), (7, 7), (2, 12)]⟩
noncomputable def cv6 : Cv := ⟨43, 37, 6, 5, 2, 38, [(0, 0), (2, 38), (13, 42), (26, 8), (30, 40), (20, 16), (14, 34), (8, 7), (37, 21), (28, 25), (24, 16), (18, 21), (29, 31), (9, 10), (5, 17), (42, 27), (22, 32), (35, 2), (31, 21), (31, 22), (35, 41), (22, 11), (42, 16), (5, 26), (9, 33), (29, 12), (18, 22), (24, 27), (28, 18), (37, 22), (8, 36), (14, 9), (20, 27), (30, 3), (26, 35), (13, 1), (2, 5)]⟩
noncomputable def cv7 : Cv := ⟨67, 79, 0, 7, 2, 22, [(0, 0), (2, 22), (52, 7), (62, 63), (25, 17), (46, 40), (11, 20), (16, 63), (21, 42), (13, 44), (56, 4), (24, 30), (14, 65), (55, 17), (5, 20), (53, 12), (26, 30), (54, 50), (66, 26), (38, 26), (51, 47), (12, 44), (23, 39), (58, 22), (7, 45), (47, 39), (6, 42), (17, 37), (49, 65), (63, 12), (42, 23), (48, 7), (64, 39), (34, 60), (40, 25), (18, 12), (61, 40), (30, 41), (27, 40), (4, 65), (4, 2), (27, 27), (30, 26), (61, 27), (18, 55), (40, 42), (34, 7), (64, 28), (48, 60), (42, 44), (63, 55), (49, 2), (17, 30), (6, 25), (47, 28), (7, 22), (58, 45), (23, 28), (12, 23), (51, 20), (38, 41), (66, 41), (54, 17), (26, 37), (53, 55), (5, 47), (55, 50), (14, 2), (24, 37), (56, 63), (13, 23), (21, 25), (16, 4), (11, 47), (46, 27), (25, 50), (62, 4), (52, 60), (2, 45)]⟩
noncomputable def cv8 : Cv := ⟨67, 73, 0, 2, 2, 55, [(0, 0), (2, 55), (13, 51), (25, 63), (50, 39), (30, 66), (39, 19), (6, 34), (7, 55), (58, 12), (40, 34), (17, 15), (3, 37), (51, 23), (61, 56), (26, 15), (12, 51), (21, 33), (42, 16), (59, 19), (27, 56), (35, 8), (22, 8), (44, 37), (54, 63), (36, 48), (24, 52), (55, 4), (66, 66), (5, 23), (10, 8), (11, 23), (41, 39), (38, 1), (46, 11), (20, 30), (43, 28), (43, 39), (20, 37), (46, 56), (38, 66), (41, 28), (11, 44), (10, 59), (5, 44), (66, 1), (55, 63), (24, 15), (36, 19), (54, 4), (44, 30), (22, 59), (35, 59), (27, 11), (59, 48), (42, 51), (21, 34), (12, 16), (26, 52), (61, 11), (51, 44), (3, 30), (17, 52), (40, 33), (58, 55), (7, 12), (6, 33), (39, 48), (30, 1), (50, 28), (25, 4), (13, 16), (2, 12)]⟩
noncomputable def cv9 : Cv := ⟨79, 67, 0, 7, 1, 18, [(0, 0), (1, 18), (60, 10), (15, 8), (49, 5), (42, 54), (59, 12), (61, 10), (43, 35), (37, 69), (26, 19), (18, 54), (12, 47), (39, 47), (9, 5), (63, 63), (19, 25), (75, 41), (21, 74), (68, 63), (29, 8), (6, 12), (45, 19), (35, 71), (66, 41), (28, 32), (17, 41), (14, 67), (74, 35), (23, 18), (55, 61), (41, 35), (8, 60), (27, 63), (27, 16), (8, 19), (41, 44), (55, 18), (23, 61), (74, 44), (14, 12), (17, 38), (28, 47), (66, 38), (35, 8), (45, 60), (6, 67), (29, 71), (68, 16), (21, 5), (75, 38), (19, 54), (63, 16), (9, 74), (39, 32), (12, 32), (18, 25), (26, 60), (37, 10), (43, 44), (61, 69), (59, 67), (42, 25), (49, 74), (15, 71), (60, 69), (1, 61)]⟩
noncomputable def cv10 : Cv := ⟨79, 97, 0, 3, 1, 2, [(0, 0), (1, 2), (43, 6), (66, 52), (57, 40), (53, 53), (51, 31), (28, 25), (75, 52), (24, 70), (72, 56), (17, 27), (44, 74), (38, 72), (34, 53), (49, 10), (40, 31), (5, 72), (4, 64), (71, 26), (58, 71), (30, 71), (67, 48), (31, 13), (56, 70), (41, 6), (22, 67), (74, 73), (76, 56), (46, 13), (36, 7), (13, 64), (50, 74), (78, 9), (32, 67), (55, 2), (23, 77), (25, 67), (10, 23), (12, 25), (9, 10), (70, 8), (21, 10), (54, 40), (64, 5), (2, 13), (39, 54), (47, 39), (62, 64), (62, 15), (47, 40), (39, 25), (2, 66), (64, 74), (54, 39), (21, 69), (70, 71), (9, 69), (12, 54), (10, 56), (25, 12), (23, 2), (55, 77), (32, 12), (78, 70), (50, 5), (13, 15), (36, 72), (46, 66), (76, 23), (74, 6), (22, 12), (41, 73), (56, 9), (31, 66), (67, 31), (30, 8), (58, 8), (71, 53), (4, 15), (5, 7), (40, 48), (49, 69), (34, 26), (38, 7), (44, 5), (17, 52), (72, 23), (24, 9), (75, 27), (28, 54), (51, 48), (53, 26), (57, 39), (66, 27), (43, 73), (1, 77)]⟩
noncomputable def cv11 : Cv := ⟨127, 127, 0, 7, 1, 32, [(0, 0), (1, 32), (34, 24), (72, 16), (80, 18), (71, 64), (86, 38), (110, 38), (2, 53), (57, 62), (85, 50), (8, 30), (17, 27), (58, 89), (69, 27), (99, 91), (100, 3), (70, 19), (28, 78), (107, 32), (19, 95), (24, 78), (106, 12), (88, 39), (47, 84), (87, 53), (41, 100), (79, 64), (4, 84), (112, 76), (93, 94), (52, 91), (104, 63), (38, 74), (25, 30), (116, 94), (12, 46), (39, 12), (82, 24), (75, 49), (11, 103), (60, 19), (101, 46), (46, 76), (3, 62), (94, 97), (103, 36), (123, 18), (21, 39), (14, 46), (32, 3), (51, 109), (76, 43), (67, 65), (91, 50), (96, 76), (18, 39), (84, 16), (124, 108), (109, 115), (98, 111), (122, 3), (45, 94), (78, 50), (78, 77), (45, 33), (122, 124), (98, 16), (109, 12), (124, 19), (84, 111), (18, 88), (96, 51), (91, 77), (67, 62), (76, 84), (51, 18), (32, 124), (14, 81), (21, 88), (123, 109), (103, 91), (94, 30), (3, 65), (46, 51), (101, 81), (60, 108), (11, 24), (75, 78), (82, 103), (39, 115), (12, 81), (116, 33), (25, 97), (38, 53), (104, 64), (52, 36), (93, 33), (112, 51), (4, 43), (79, 63), (41, 27), (87, 74), (47, 43), (88, 88), (106, 115), (24, 49), (19, 32), (107, 95), (28, 49), (70, 108), (100, 124), (99, 36), (69, 100), (58, 38), (17, 100), (8, 97), (85, 77), (57, 65), (2, 74), (110, 89), (86, 89), (71, 63), (80, 109), (72, 111), (34, 103), (1, 95)]⟩
noncomputable def cv12 : Cv := ⟨127, 127, 0, 3, 1, 2, [(0, 0), (1, 2), (70, 105), (53, 121), (61, 17), (73, 107), (43, 32), (55, 32), (18, 45), (81, 87), (126, 16), (49, 80), (34, 119), (29, 95), (11, 119), (116, 113), (40, 73), (99, 28), (87, 97), (107, 2), (19, 125), (2, 97), (5, 126), (66, 15), (121, 101), (21, 45), (82, 8), (117, 107), (13, 101), (62, 98), (106, 93), (93, 113), (64, 20), (88, 82), (42, 80), (109, 93), (3, 41), (27, 126), (124, 105), (38, 30), (60, 22), (103, 28), (57, 41), (30, 98), (31, 87), (36, 47), (45, 14), (16, 17), (111, 15), (67, 41), (89, 73), (50, 110), (120, 26), (15, 40), (108, 16), (35, 98), (77, 15), (83, 121), (52, 99), (95, 1), (118, 6), (125, 73), (39, 93), (20, 16), (20, 111), (39, 34), (125, 54), (118, 121), (95, 126), (52, 28), (83, 6), (77, 112), (35, 29), (108, 111), (15, 87), (120, 101), (50, 17), (89, 54), (67, 86), (111, 112), (16, 110), (45, 113), (36, 80), (31, 40), (30, 29), (57, 86), (103, 99), (60, 105), (38, 97), (124, 22), (27, 1), (3, 86), (109, 34), (42, 47), (88, 45), (64, 107), (93, 14), (106, 34), (62, 29), (13, 26), (117, 20), (82, 119), (21, 82), (121, 26), (66, 112), (5, 1), (2, 30), (19, 2), (107, 125), (87, 30), (99, 99), (40, 54), (116, 14), (11, 8), (29, 32), (34, 8), (49, 47), (126, 111), (81, 40), (18, 82), (55, 95), (43, 95), (73, 20), (61, 110), (53, 6), (70, 22), (1, 125)]⟩
/-- one pair of points and their sum -/
def okp (P i j : Nat) (a b c : Nat × Nat) : Bool :=
  bif Nat.beq a.1 b.1 then (bif Nat.beq a.2 b.2 then Nat.beq i j else (Nat.beq c.1 0 && Nat.beq c.2 0))
  else (Nat.blt 0 c.2 && (Nat.beq ((b.2 + P - a.2) * (b.2 + P - a.2) % P) ((b.1 + P - a.1) * (b.1 + P - a.1) * (a.1 + b.1 + c.1) % P) && Nat.beq ((b.2 + P - a.2) * (a.1 + P - c.1) % P) ((b.1 + P - a.1) * (c.2 + a.2) % P)))
def row (P i : Nat) (a : Nat × Nat) : Nat → List (Nat × Nat) → List (Nat × Nat) → Bool
  | _, [], _ => true
  | _, _ :: _, [] => false
  | j, b :: t, c :: r => okp P i j a b c && row P i a (j + 1) t r
def rows (P N : Nat) (tab : List (Nat × Nat)) : Nat → List (Nat × Nat) → Bool
  | _, [] => true
  | i, a :: s => row P i a i (a :: s) (tab.drop (2 * i % N) ++ tab.take (2 * i % N)) && rows P N tab (i + 1) s
theorem row_spec {P i : Nat} {a : Nat × Nat} : ∀ {l r : List (Nat × Nat)} {j : Nat}, row P i a j l r = true → ∀ k, k < l.length → okp P i (j + k) a (l.getD k (0, 0)) (r.getD k (0, 0)) = true
  | [], _, _, _, k, hk => absurd hk (Nat.not_lt_zero _)
  | _ :: _, [], _, h, _, _ => by unfold row at h; exact absurd h Bool.false_ne_true
  | b :: t, c :: r, j, h, k, hk => by
    unfold row at h
    have h' := Bool.and_eq_true_iff.mp h
    cases k with
    | zero => exact h'.1
    | succ k =>
      have := row_spec h'.2 k (Nat.lt_of_succ_lt_succ hk)
      rw [show j + 1 + k = j + (k + 1) by omega] at this
      simpa using this
theorem rows_spec {P N : Nat} {tab : List (Nat × Nat)} : ∀ {l : List (Nat × Nat)} {i : Nat}, rows P N tab i l = true → ∀ k, k < l.length → row P (i + k) (l.getD k (0, 0)) (i + k) (l.drop k) (tab.drop (2 * (i + k) % N) ++ tab.take (2 * (i + k) % N)) = true
  | [], _, _, k, hk => absurd hk (Nat.not_lt_zero _)
  | a :: s, i, h, k, hk => by
    unfold rows at h
    have h' := Bool.and_eq_true_iff.mp h
    cases k with
    | zero => exact h'.1
    | succ k =>
      have := rows_spec h'.2 k (Nat.lt_of_succ_lt_succ hk)
      rw [show i + 1 + k = i + (k + 1) by omega] at this
      simpa using this
theorem rot_get {l : List (Nat × Nat)} {a k : Nat} (ha : a ≤ l.length) (hk : k < l.length) : (l.drop a ++ l.take a).getD k (0, 0) = l.getD ((a + k) % l.length) (0, 0) := by
  simp only [List.getD_eq_getElem?_getD]
  congr 1
  by_cases h : k < l.length - a
  · rw [List.getElem?_append_left (by rw [List.length_drop]; exact h), List.getElem?_drop, Nat.mod_eq_of_lt (by omega)]
  · rw [List.getElem?_append_right (by rw [List.length_drop]; omega), List.length_drop, List.getElem?_take_of_lt (by omega)]
    congr 1
    rw [show a + k = (k - (l.length - a)) + l.length by omega, Nat.add_mod_right, Nat.mod_eq_of_lt (by omega)]
theorem pair_spec {P N : Nat} {l : List (Nat × Nat)} (hl : l.length = N) (H : rows P N l 1 l.tail = true) {i j : Nat} (hi : 0 < i) (hij : i ≤ j) (hj : j < N) :
    okp P i j (l.getD i (0, 0)) (l.getD j (0, 0)) (l.getD ((i + j) % N) (0, 0)) = true := by
  obtain ⟨h, tt, rfl⟩ : ∃ h tt, l = h :: tt := by
    cases l with
    | nil => simp at hl; omega
    | cons h tt => exact ⟨h, tt, rfl⟩
  obtain ⟨i, rfl⟩ : ∃ n, i = n + 1 := ⟨i - 1, by omega⟩
  obtain ⟨m, rfl⟩ : ∃ m, j = i + 1 + m := ⟨j - (i + 1), by omega⟩
  have ht : tt.length + 1 = N := by simpa using hl
  have hN : 2 * (1 + i) % N < N := Nat.mod_lt _ (by omega)
  have h1 := row_spec (rows_spec H i (by show i < tt.length; omega)) m (by rw [List.length_drop]; show m < tt.length - i; omega)
  rw [rot_get (by rw [hl]; omega) (by rw [hl]; omega), hl, Nat.mod_add_mod] at h1
  rw [show 2 * (1 + i) + m = i + 1 + (i + 1 + m) by omega, show 1 + i = i + 1 by omega] at h1
  have e2 : ((h :: tt).tail.drop i).getD m (0, 0) = (h :: tt).getD (i + 1 + m) (0, 0) := by
    simp only [List.getD_eq_getElem?_getD, List.tail_cons, List.getElem?_drop]
    rw [show i + 1 + m = (i + m) + 1 by omega, List.getElem?_cons_succ]
  rw [e2] at h1
  simpa using h1
section
variable {C : Cv} {P N A : Nat} (eP : C.P = P) (eN : C.N = N)
include eN
theorem T_nat (k : Nat) : C.T (k : Int) = castp (C.g (k % N)) := by
  unfold Cv.T
  rw [eN, ← Int.natCast_emod, Int.toNat_natCast]
theorem T_red (hN : 2 < N) (i : Int) : ∃ a : Nat, a < N ∧ i % C.N = (a : Int) ∧ C.T i = castp (C.g a) := by
  have h1 := Int.emod_nonneg i (show C.N ≠ 0 by omega)
  have h2 := Int.emod_lt_of_pos i (show 0 < C.N by omega)
  exact ⟨(i % C.N).toNat, by omega, by omega, rfl⟩
theorem T_two (i : Int) (a : Nat) (ha : i % C.N = (a : Int)) : (2 * i) % C.N = ((2 * a % N : Nat) : Int) ∧ C.T (2 * i) = castp (C.g (2 * a % N)) := by
  have h : (2 * i) % C.N = ((2 * a : Nat) : Int) % C.N := by rw [Int.mul_emod, ha]; show 2 % C.N * (a : Int) % C.N = ((2 * a : Nat) : Int) % C.N; rw [Int.natCast_mul, Int.mul_emod ((2 : Nat) : Int), Int.mul_emod (2 % C.N), Int.emod_emod_of_dvd _ (Int.dvd_refl _)]; rfl
  refine ⟨by rw [h, eN, Int.natCast_emod], ?_⟩
  rw [Cv.T_congr h, T_nat eN]
theorem T_add (i j : Int) (a b : Nat) (ha : i % C.N = (a : Int)) (hb : j % C.N = (b : Int)) : (i + j) % C.N = (((a + b) % N : Nat) : Int) ∧ C.T (i + j) = castp (C.g ((a + b) % N)) := by
  have h : (i + j) % C.N = ((a + b : Nat) : Int) % C.N := by rw [Int.add_emod, ha, hb, Int.natCast_add]
  refine ⟨by rw [h, eN, Int.natCast_emod], ?_⟩
  rw [Cv.T_congr h, T_nat eN]
end
theorem beq_of {a b : Nat} (h : Nat.beq a b = true) : a = b := Nat.eq_of_beq_eq_true h
theorem okp_spec {P i j : Nat} {a b c : Nat × Nat} (h : okp P i j a b c = true) (ha : a.1 < P ∧ a.2 < P) (hb : b.1 < P ∧ b.2 < P) (hc : c.1 < P ∧ c.2 < P) (hP : 2 < P) :
    ((castp a).1 = (castp b).1 → (castp a).2 = (castp b).2 → i = j) ∧ ((castp a).1 = (castp b).1 → (castp a).2 ≠ (castp b).2 → c = (0, 0)) ∧
    ((castp a).1 ≠ (castp b).1 → c.2 ≠ 0 ∧ AddC P (castp a).1 (castp a).2 (castp b).1 (castp b).2 (castp c).1 (castp c).2) := by
  obtain ⟨a1, a2⟩ := a
  obtain ⟨b1, b2⟩ := b
  obtain ⟨c1, c2⟩ := c
  simp only [castp] at *
  unfold okp at h
  refine ⟨fun h1 h2 => ?_, fun h1 h2 => ?_, fun h1 => ?_⟩
  · have e1 : a1 = b1 := by omega
    have e2 : a2 = b2 := by omega
    subst e1 e2
    simp only [Nat.beq_refl, cond_true] at h
    exact beq_of h
  · have e1 : a1 = b1 := by omega
    subst e1
    have e2 : Nat.beq a2 b2 = false := by
      cases q : Nat.beq a2 b2 with
      | false => rfl
      | true => exact absurd (congrArg (fun n : Nat => (n : Int)) (beq_of q)) h2
    simp only [Nat.beq_refl, cond_true, e2, cond_false] at h
    have h' := Bool.and_eq_true_iff.mp h
    rw [beq_of h'.1, beq_of h'.2]
  · have e1 : Nat.beq a1 b1 = false := by
      cases q : Nat.beq a1 b1 with
      | false => rfl
      | true => exact absurd (congrArg (fun n : Nat => (n : Int)) (beq_of q)) h1
    simp only [e1, cond_false] at h
    have h' := Bool.and_eq_true_iff.mp h
    have h'' := Bool.and_eq_true_iff.mp h'.2
    haveI : NeZero P := ⟨by omega⟩
    have k1 := congrArg (fun n : Nat => (n : Int)) (beq_of h''.1)
    have k2 := congrArg (fun n : Nat => (n : Int)) (beq_of h''.2)
    have cs (x y : Nat) (hx : x < P) : ((y + P - x : Nat) : Int) = (y : Int) + (P : Int) - (x : Int) := by omega
    simp only [Int.natCast_emod, Int.natCast_mul, Int.natCast_add, cs _ _ ha.1, cs _ _ ha.2, cs _ _ hc.1] at k1 k2
    rw [← ph_ext] at k1 k2
    have h0 := ph_self (n := P)
    simp only [ph_mul, ph_sub, ph_add, h0] at k1 k2
    have hc2 : 1 ≤ c2 := Nat.le_of_ble_eq_true h'.1
    refine ⟨by omega, ?_, ?_⟩
    · rw [← ph0]
      simp only [ph_mul, ph_sub, ph_add, ph_pow]
      grind
    · rw [← ph0]
      simp only [ph_mul, ph_sub, ph_add, ph_pow]
      grind
theorem addC_swap {P : Nat} [NeZero P] {a1 a2 b1 b2 c1 c2 : Int} (h : AddC P b1 b2 a1 a2 c1 c2) : AddC P a1 a2 b1 b2 c1 c2 := by
  obtain ⟨k1, k2⟩ := h
  rw [← ph0] at k1 k2
  simp only [ph_mul, ph_sub, ph_add, ph_pow] at k1 k2
  refine ⟨?_, ?_⟩
  · rw [← ph0]
    simp only [ph_mul, ph_sub, ph_add, ph_pow]
    grind
  · rw [← ph0]
    simp only [ph_mul, ph_sub, ph_add, ph_pow]
    grind
theorem good_of {C : Cv} {P N A : Nat} (eP : C.P = P) (eN : C.N = N) (eA : C.A = A) (hl : C.tab.length = N) (h0 : 2 < P ∧ P ≤ 127 ∧ 2 < N ∧ N ≤ 127 ∧ A < P)
    (hbox : ∀ i ∈ List.range N, (C.g i).1 < P ∧ (C.g i).2 < P) (hzero : C.g 0 = (0, 0)) (hbase : castp (C.g 1) = (C.Gx, C.Gy))
    (hy : ∀ i ∈ List.range N, i ≠ 0 → (C.g i).2 ≠ 0)
    (hroot : ∀ i ∈ List.range N, i ≠ 0 → Root C.P C.A C.B (castp (C.g i)).1 (castp (C.g i)).2)
    (hdbl : ∀ i ∈ List.range N, i ≠ 0 → 2 * i % N ≠ 0 ∧ DblC C.P C.A (castp (C.g i)).1 (castp (C.g i)).2 (castp (C.g (2 * i % N))).1 (castp (C.g (2 * i % N))).2)
    (hpair : rows P N C.tab 1 C.tab.tail = true)
    (huP : ∀ z ∈ List.range P, z ≠ 0 → z * (z ^ (P - 2) % P) % P = 1) (huN : ∀ z ∈ List.range N, z ≠ 0 → z * (z ^ (N - 2) % N) % N = 1)
    (hback : ∀ x ∈ List.range N, x ≠ 0 → x * PySem.Builtin.powMod x (N - 2) N % N = 1 ∧ PySem.Builtin.powMod x (N - 2) N < N)
    (hsix : ∀ m ∈ List.range (N - 1), ∃ k ∈ List.range 6, (C.g (1 + (m + k) % (N - 1))).1 % N ≠ 0) : Good C := by
  obtain ⟨p1, p2, p3, p4, p5⟩ := h0
  have red := T_red eN p3
  have unit (M : Nat) (hM : 2 < M) (hu : ∀ z ∈ List.range M, z ≠ 0 → z * (z ^ (M - 2) % M) % M = 1) (z : Int) (hz : z % (M : Int) ≠ 0) : ∃ u, (z * u) % (M : Int) = 1 := by
    have h1 := Int.emod_nonneg z (show (M : Int) ≠ 0 by omega)
    have h2 := Int.emod_lt_of_pos z (show (0 : Int) < M by omega)
    have h3 := hu (z % (M : Int)).toNat (List.mem_range.mpr (by omega)) (by omega)
    refine ⟨(((z % (M : Int)).toNat ^ (M - 2) % M : Nat) : Int), ?_⟩
    have h4 : (((z % (M : Int)).toNat : Nat) : Int) = z % (M : Int) := by omega
    have h5 := congrArg (fun n : Nat => (n : Int)) h3
    simp only [Int.natCast_emod, Int.natCast_mul, h4] at h5
    rw [Int.mul_emod, Int.emod_emod_of_dvd _ (Int.dvd_refl _), ← Int.mul_emod] at h5
    rw [Int.natCast_emod]
    exact h5
  have inj {a b : Nat × Nat} (h : castp a = castp b) : a = b := by
    obtain ⟨a1, a2⟩ := a
    obtain ⟨b1, b2⟩ := b
    have e1 : (a1 : Int) = b1 := congrArg (·.1) h
    have e2 : (a2 : Int) = b2 := congrArg (·.2) h
    simp only [Prod.mk.injEq]; omega
  have bx (a : Nat) (ha : a < N) := hbox a (List.mem_range.mpr ha)
  have gz (a : Nat) (ha : a < N) (h : C.g a = (0, 0)) : a = 0 := by
    by_cases c : a = 0
    · exact c
    · exact absurd (congrArg (·.2) h) (hy a (List.mem_range.mpr ha) c)
  have pair (a b : Nat) (ha : a < N) (hb : b < N) (ha0 : a ≠ 0) (hb0 : b ≠ 0) (hab : a ≤ b) := okp_spec (a := C.g a) (b := C.g b) (c := C.g ((a + b) % N)) (pair_spec hl hpair (i := a) (j := b) (by omega) hab hb) (bx a ha) (bx b hb) (bx _ (Nat.mod_lt _ (by omega))) p1
  haveI : NeZero P := ⟨by omega⟩
  refine ⟨by omega, by omega, ⟨by omega, by omega⟩, ?_, ?_, by rw [eP, Int.emod_eq_of_lt] <;> omega, ?_, ?_, ?_, ?_, ?_, ?_, ?_, ?_, ?_, ?_, ?_⟩
  · rw [eP]; exact unit P p1 huP
  · rw [eN]; exact unit N p3 huN
  · intro i
    obtain ⟨a, ha, hi, hT⟩ := red i
    rw [hT, eP]
    have := bx a ha
    exact ⟨⟨by simp only [castp]; omega, by simp only [castp]; omega⟩, ⟨by simp only [castp]; omega, by simp only [castp]; omega⟩⟩
  · have := T_nat eN 0
    rw [Nat.zero_mod, hzero] at this
    exact this
  · have := T_nat eN 1
    rw [Nat.mod_eq_of_lt (by omega), hbase] at this
    exact this
  · intro x hx
    rw [eN] at hx ⊢
    have h1 := Int.emod_nonneg x (show (N : Int) ≠ 0 by omega)
    have h2 := Int.emod_lt_of_pos x (show (0 : Int) < N by omega)
    have h3 := hback (x % (N : Int)).toNat (List.mem_range.mpr (by omega)) (by omega)
    rw [show ((N : Int) - 2).toNat = N - 2 by omega, Int.toNat_natCast]
    have h4 : (((x % (N : Int)).toNat : Nat) : Int) = x % (N : Int) := by omega
    refine ⟨?_, by omega, by have := h3.2; omega⟩
    have h5 := congrArg (fun n : Nat => (n : Int)) h3.1
    simp only [Int.natCast_emod, Int.natCast_mul, h4] at h5
    rw [Int.mul_emod, Int.emod_emod_of_dvd _ (Int.dvd_refl _), ← Int.mul_emod] at h5
    exact h5
  · intro m
    have h1 := Int.emod_nonneg m (show C.N - 1 ≠ 0 by omega)
    have h2 := Int.emod_lt_of_pos m (show 0 < C.N - 1 by omega)
    obtain ⟨k, hk, hne⟩ := hsix (m % (C.N - 1)).toNat (List.mem_range.mpr (by omega))
    have hk6 := List.mem_range.mp hk
    refine ⟨(k : Int), by omega, ?_⟩
    have e : 1 + (m + (k : Int)) % (C.N - 1) = ((1 + ((m % (C.N - 1)).toNat + k) % (N - 1) : Nat) : Int) := by
      rw [Int.natCast_add, Int.natCast_emod, Int.natCast_add, show ((N - 1 : Nat) : Int) = C.N - 1 by omega, show (((m % (C.N - 1)).toNat : Nat) : Int) = m % (C.N - 1) by omega, Int.emod_add_emod]
      rfl
    have hlt : 1 + ((m % (C.N - 1)).toNat + k) % (N - 1) < N := by
      have := Nat.mod_lt ((m % (C.N - 1)).toNat + k) (show 0 < N - 1 by omega)
      omega
    rw [e, T_nat eN, Nat.mod_eq_of_lt hlt, eN]
    intro h
    apply hne
    have h' : (((C.g (1 + ((m % (C.N - 1)).toNat + k) % (N - 1))).1 % N : Nat) : Int) = ((0 : Nat) : Int) := by rw [← eN] at h; rw [Int.natCast_emod, ← eN]; exact h
    exact Int.ofNat.inj h'
  · intro i hi
    obtain ⟨a, ha, hia, hT⟩ := red i
    rw [hT]
    exact hroot a (List.mem_range.mpr ha) (by omega)
  · intro i hi
    obtain ⟨a, ha, hia, hT⟩ := red i
    rw [hT]
    have := hy a (List.mem_range.mpr ha) (by omega)
    simp only [castp]; omega
  · intro i hi
    obtain ⟨a, ha, hia, hT⟩ := red i
    have h2 := T_two eN i a hia
    have h3 := hdbl a (List.mem_range.mpr ha) (by omega)
    rw [hT, h2.1, h2.2]
    exact ⟨by have := h3.1; omega, h3.2⟩
  · intro i j hi hj hne
    obtain ⟨a, ha, hia, hT⟩ := red i
    obtain ⟨b, hb, hjb, hT'⟩ := red j
    have h2 := T_add eN i j a b hia hjb
    rw [hT, hT'] at hne
    rw [hT, hT', h2.1, h2.2]
    have hab : (a + b) % N < N := Nat.mod_lt _ (by omega)
    by_cases c : a ≤ b
    · have h3 := (pair a b ha hb (by omega) (by omega) c).2.2 hne
      refine ⟨fun h => h3.1 ?_, eP ▸ h3.2⟩
      have e : (a + b) % N = 0 := by omega
      rw [e, hzero]
    · have h3 := (pair b a hb ha (by omega) (by omega) (by omega)).2.2 (Ne.symm hne)
      rw [Nat.add_comm b a] at h3
      refine ⟨fun h => h3.1 ?_, ?_⟩
      · have e : (a + b) % N = 0 := by omega
        rw [e, hzero]
      · rw [eP]; exact addC_swap h3.2
  · intro i j hi hj h1 h2
    obtain ⟨a, ha, hia, hT⟩ := red i
    obtain ⟨b, hb, hjb, hT'⟩ := red j
    rw [hT, hT'] at h1 h2
    by_cases c : a ≤ b
    · have := (pair a b ha hb (by omega) (by omega) c).1 h1 h2
      omega
    · have := (pair b a hb ha (by omega) (by omega) (by omega)).1 h1.symm h2.symm
      omega
  · intro i j hi hj h1 h2
    obtain ⟨a, ha, hia, hT⟩ := red i
    obtain ⟨b, hb, hjb, hT'⟩ := red j
    have h3 := T_add eN i j a b hia hjb
    rw [hT, hT'] at h1 h2
    have hab : (a + b) % N < N := Nat.mod_lt _ (by omega)
    rw [h3.1]
    by_cases c : a ≤ b
    · have := gz _ hab ((pair a b ha hb (by omega) (by omega) c).2.1 h1 h2)
      omega
    · have h4 := (pair b a hb ha (by omega) (by omega) (by omega)).2.1 h1.symm (Ne.symm h2)
      rw [Nat.add_comm b a] at h4
      have := gz _ hab h4
      omega
theorem pairs0 : rows 11 13 cv0.tab 1 cv0.tab.tail = true := by decide +kernel
theorem good0 : Good cv0 := good_of (P := 11) (N := 13) (A := 1) rfl rfl rfl rfl (by decide) (by decide +kernel) rfl rfl (by decide +kernel) (by decide +kernel) (by decide +kernel) pairs0 (by decide +kernel) (by decide +kernel) (by decide +kernel) (by decide +kernel)
theorem pairs1 : rows 11 17 cv1.tab 1 cv1.tab.tail = true := by decide +kernel
theorem good1 : Good cv1 := good_of (P := 11) (N := 17) (A := 6) rfl rfl rfl rfl (by decide) (by decide +kernel) rfl rfl (by decide +kernel) (by decide +kernel) (by decide +kernel) pairs1 (by decide +kernel) (by decide +kernel) (by decide +kernel) (by decide +kernel)
theorem pairs2 : rows 19 13 cv2.tab 1 cv2.tab.tail = true := by decide +kernel
theorem good2 : Good cv2 := good_of (P := 19) (N := 13) (A := 0) rfl rfl rfl rfl (by decide) (by decide +kernel) rfl rfl (by decide +kernel) (by decide +kernel) (by decide +kernel) pairs2 (by decide +kernel) (by decide +kernel) (by decide +kernel) (by decide +kernel)
theorem pairs3 : rows 19 13 cv3.tab 1 cv3.tab.tail = true := by decide +kernel
theorem good3 : Good cv3 := good_of (P := 19) (N := 13) (A := 0) rfl rfl rfl rfl (by decide) (by decide +kernel) rfl rfl (by decide +kernel) (by decide +kernel) (by decide +kernel) pairs3 (by decide +kernel) (by decide +kernel) (by decide +kernel) (by decide +kernel)
theorem pairs4 : rows 31 43 cv4.tab 1 cv4.tab.tail = true := by decide +kernel
theorem good4 : Good cv4 := good_of (P := 31) (N := 43) (A := 0) rfl rfl rfl rfl (by decide) (by decide +kernel) rfl rfl (by decide +kernel) (by decide +kernel) (by decide +kernel) pairs4 (by decide +kernel) (by decide +kernel) (by decide +kernel) (by decide +kernel)
theorem pairs5 : rows 43 31 cv5.tab 1 cv5.tab.tail = true := by decide +kernel
theorem good5 : Good cv5 := good_of (P := 43) (N := 31) (A := 0) rfl rfl rfl rfl (by decide) (by decide +kernel) rfl rfl (by decide +kernel) (by decide +kernel) (by decide +kernel) pairs5 (by decide +kernel) (by decide +kernel) (by decide +kernel) (by decide +kernel)
theorem pairs6 : rows 43 37 cv6.tab 1 cv6.tab.tail = true := by decide +kernel
theorem good6 : Good cv6 := good_of (P := 43) (N := 37) (A := 6) rfl rfl rfl rfl (by decide) (by decide +kernel) rfl rfl (by decide +kernel) (by decide +kernel) (by decide +kernel) pairs6 (by decide +kernel) (by decide +kernel) (by decide +kernel) (by decide +kernel)
theorem pairs7 : rows 67 79 cv7.tab 1 cv7.tab.tail = true := by decide +kernel
theorem good7 : Good cv7 := good_of (P := 67) (N := 79) (A := 0) rfl rfl rfl rfl (by decide) (by decide +kernel) rfl rfl (by decide +kernel) (by decide +kernel) (by decide +kernel) pairs7 (by decide +kernel) (by decide +kernel) (by decide +kernel) (by decide +kernel)
theorem pairs8 : rows 67 73 cv8.tab 1 cv8.tab.tail = true := by decide +kernel
theorem good8 : Good cv8 := good_of (P := 67) (N := 73) (A := 0) rfl rfl rfl rfl (by decide) (by decide +kernel) rfl rfl (by decide +kernel) (by decide +kernel) (by decide +kernel) pairs8 (by decide +kernel) (by decide +kernel) (by decide +kernel) (by decide +kernel)
theorem pairs9 : rows 79 67 cv9.tab 1 cv9.tab.tail = true := by decide +kernel
theorem good9 : Good cv9 := good_of (P := 79) (N := 67) (A := 0) rfl rfl rfl rfl (by decide) (by decide +kernel) rfl rfl (by decide +kernel) (by decide +kernel) (by decide +kernel) pairs9 (by decide +kernel) (by decide +kernel) (by decide +kernel) (by decide +kernel)
theorem pairs10 : rows 79 97 cv10.tab 1 cv10.tab.tail = true := by decide +kernel
theorem good10 : Good cv10 := good_of (P := 79) (N := 97) (A := 0) rfl rfl rfl rfl (by decide) (by decide +kernel) rfl rfl (by decide +kernel) (by decide +kernel) (by decide +kernel) pairs10 (by decide +kernel) (by decide +kernel) (by decide +kernel) (by decide +kernel)
theorem pairs11 : rows 127 127 cv11.tab 1 cv11.tab.tail = true := by decide +kernel
theorem good11 : Good cv11 := good_of (P := 127) (N := 127) (A := 0) rfl rfl rfl rfl (by decide) (by decide +kernel) rfl rfl (by decide +kernel) (by decide +kernel) (by decide +kernel) pairs11 (by decide +kernel) (by decide +kernel) (by decide +kernel) (by decide +kernel)
theorem pairs12 : rows 127 127 cv12.tab 1 cv12.tab.tail = true := by decide +kernel
theorem good12 : Good cv12 := good_of (P := 127) (N := 127) (A := 0) rfl rfl rfl rfl (by decide) (by decide +kernel) rfl rfl (by decide +kernel) (by decide +kernel) (by decide +kernel) pairs12 (by decide +kernel) (by decide +kernel) (by decide +kernel) (by decide +kernel)
def OutR (C : Cv) (i : Int) (r : Value) (tl : List (Addr × Obj)) : Prop :=
  ∃ (d : Addr) (x y z : Int) (tx ty tz : Tok) (c : Nat), r = .ref d ∧ tl = [(d, tup3 x y z tx ty tz c)] ∧ Rep C i x y z
theorem jdblR_ct (w : World) {C : Cv} (G : Good C) {i : Int} {p cv : Addr} {x y z : Int} {tx ty tz tP tN tA tB tG tH : Tok} {c c' : Nat} (R : Rep C i x y z) :
   Calls w 49 1 8 (fun _ => True) [(p, tup3 x y z tx ty tz c), (cv, tup6 C.P C.N C.A C.B C.Gx C.Gy tP tN tA tB tG tH c')] [.ref p, .ref cv] (OutR C (2 * i)) := by
  refine (jdbl_ct w G.hP G.hA R.1 R.2.1 R.2.2.1).mono ?_
  rintro r tl ⟨d, x1, y1, z1, t1, t2, t3, c, e1, e2, e3⟩
  have := R.dbl G
  rw [e3] at this
  exact ⟨d, x1, y1, z1, t1, t2, t3, c, e1, e2, this⟩
theorem jaddR_ct (w : World) {C : Cv} (G : Good C) {i j : Int} {p q cv : Addr} {x y z x' y' z' : Int} {tx ty tz tx' ty' tz' tP tN tA tB tG tH : Tok} {c c1 c' : Nat} (R : Rep C i x y z) (R' : Rep C j x' y' z') :
   Calls w 56 2 16 (fun _ => True) [(p, tup3 x y z tx ty tz c), (q, tup3 x' y' z' tx' ty' tz' c1), (cv, tup6 C.P C.N C.A C.B C.Gx C.Gy tP tN tA tB tG tH c')] [.ref p, .ref q, .ref cv] (OutR C (i + j)) := by
  refine (jadd_ct w G.hP G.hA R.1 R.2.1 R.2.2.1 R'.1 R'.2.1 R'.2.2.1).mono ?_
  rintro r tl ⟨d, x1, y1, z1, t1, t2, t3, c, e1, e2, e3⟩
  have := R.add G R'
  rw [e3] at this
  exact ⟨d, x1, y1, z1, t1, t2, t3, c, e1, e2, this⟩
local macro_rules | `(tactic| walk_at "eval Call Name") => `(tactic| k_extra "mine eval Call Name")
theorem word23 : True := by
  k_with "mine eval Call Name" => ((k_here; refine Call_ ?_))
  exact True.intro
theorem word24 : True := by
  k_with "my back3" => ((intro r' tl' h' tk' F' N' O'; obtain ⟨d', x', y', z', tx', ty', tz', c', e1', e2', R'⟩ := O'; subst e1'; subst e2'; (try simp only [List.cons_append, List.nil_append] at N'); (try k_sweep)))
  exact True.intro
theorem word25 : True := by
  k_with "mine call ref" => (first
      | ((with_reducible show wpAny _ _ (call (Value.ref 49) _) _ _ _); k_dflt (refine' Calls.use (jdblR_ct _ ?hG ?hR) ?kB ?kF ?kX ?kN ?kT ?kk ?kp ?kn ?kd ?ku ?_; (case hG => assumption); (walk_at "my use"); (case hR => assumption); k_whole); k_dflt (k_dflt (walk_at "my back3")))
      | ((with_reducible show wpAny _ _ (call (Value.ref 56) _) _ _ _); k_dflt (refine' Calls.use (jaddR_ct _ ?hG ?hR ?hS) ?kB ?kF ?kX ?kN ?kT ?kk ?kp ?kn ?kd ?ku ?_; (case hG => assumption); (walk_at "my use"); (case hR => assumption); (case hS => assumption); k_whole); k_dflt (k_dflt (walk_at "my back3")))
      | ((with_reducible show wpAny _ _ (call (Value.ref 70) _) _ _ _); refine stop_here ?_))
  exact True.intro
theorem Good.inf {C : Cv} (G : Good C) {i : Int} (h : i % C.N = 0) : Rep C i 0 0 1 := by
  have hP := G.hP
  exact ⟨⟨by decide, by show (0 : Int) < C.P; omega⟩, ⟨by decide, by show (0 : Int) < C.P; omega⟩, ⟨by decide, by show (1 : Int) < C.P; omega⟩, .inl ⟨h, rfl, rfl⟩⟩
theorem jmul_step (w : World) {C : Cv} (G : Good C) {i : Int} {p cv : Addr} {x y z : Int} {tx ty tz tP tN tA tB tG tH : Tok} {c c' : Nat} (R : Rep C i x y z) {n : Int} {tn : Tok} {D U : Nat} (hD : 2 ≤ D) (hU : 16 ≤ U)
   (H1 : ∀ t, (n < 0 ∨ C.N ≤ n) → Calls w 70 D U (fun _ => True) [(p, tup3 x y z tx ty tz c), (cv, tup6 C.P C.N C.A C.B C.Gx C.Gy tP tN tA tB tG tH c')] [.ref p, .int (n % C.N) t, .ref cv] (OutR C (n % C.N * i)))
   (H2 : ∀ t, 0 < n → n < C.N → Calls w 70 D U (fun _ => True) [(p, tup3 x y z tx ty tz c), (cv, tup6 C.P C.N C.A C.B C.Gx C.Gy tP tN tA tB tG tH c')] [.ref p, .int (n / 2) t, .ref cv] (OutR C (n / 2 * i))) :
   Calls w 70 (D + 1) (U + 8) (fun _ => True) [(p, tup3 x y z tx ty tz c), (cv, tup6 C.P C.N C.A C.B C.Gx C.Gy tP tN tA tB tG tH c')] [.ref p, .int n tn, .ref cv] (OutR C (n * i)) := by
  w_on
  unfold Calls
  k_fill
  intro mean mg mb dp un gd cn cs a ccd cl outer A₀ base h₀ L m news s Q E B F X N T hk hpre hneed hd hu hret
  have N2 := news_more N hneed
  simp only [List.cons_append, List.nil_append] at N2
  clear N hneed
  have hN0 : 0 < C.N := by have := G.hN; omega
  have hN1 : C.N ≤ 127 := G.hN.2
  have hy := R.y0 G
  have bn : (0 ≤ n ∧ n < C.N) → Bd n 127 := by unfold Bd; omega
  refine wpAny_call ?_
  k_dflt ktr_enter
  k_steps
  · refine' hret _ [_] _ _ (by assumption) (news_less (by assumption) (sub_one ?hm ?hs)) ⟨_, _, _, _, _, _, _, _, rfl, rfl, ?he⟩
    (case hm => k_mem)
    (case hs => (intro q hq; repeat (first | exact hq | refine List.Mem.tail _ ?_)))
    (case he => exact G.inf (by rw [Int.mul_emod, hy.mp (by assumption), Int.mul_zero, Int.zero_emod]))
  · refine' hret _ [_] _ _ (by assumption) (news_less (by assumption) (sub_one ?hm ?hs)) ⟨_, _, _, _, _, _, _, _, rfl, rfl, ?he⟩
    (case hm => k_mem)
    (case hs => (intro q hq; repeat (first | exact hq | refine List.Mem.tail _ ?_)))
    (case he => exact G.inf (by rw [(by assumption : n = 0), Int.zero_mul, Int.zero_emod]))
  · refine' hret _ [_] _ _ (by assumption) (news_less (by assumption) (sub_one ?hm ?hs)) ⟨_, _, _, _, _, _, _, _, rfl, rfl, ?he⟩
    (case hm => k_mem)
    (case hs => (intro q hq; repeat (first | exact hq | refine List.Mem.tail _ ?_)))
    (case he => rw [(by assumption : n = 1), Int.one_mul]; exact R)
  · rename _ = n % C.N => e1
    subst e1
    unfold Stop
    k_dflt (refine' Calls.use (H1 _ ?a1) ?kB ?kF ?kX ?kN ?kT ?kk ?kp ?kn ?kd ?ku ?_; (case a1 => omega); (walk_at "my use"); k_whole)
    walk_at "my back3"
    k_steps
    refine' hret _ [_] _ _ (by assumption) (news_less (by assumption) (sub_one ?hm ?hs)) ⟨_, _, _, _, _, _, _, _, rfl, rfl, ?he⟩
    (case hm => k_mem)
    (case hs => (intro q hq; repeat (first | exact hq | refine List.Mem.tail _ ?_)))
    (case he => (rename Rep C _ _ _ _ => R1; exact R1.congr (by rw [Int.mul_emod (n % C.N), Int.emod_emod_of_dvd _ (Int.dvd_refl _), ← Int.mul_emod])))
  · rename _ = n % C.N => e1
    subst e1
    unfold Stop
    k_dflt (refine' Calls.use (H1 _ ?a1) ?kB ?kF ?kX ?kN ?kT ?kk ?kp ?kn ?kd ?ku ?_; (case a1 => omega); (walk_at "my use"); k_whole)
    walk_at "my back3"
    k_steps
    refine' hret _ [_] _ _ (by assumption) (news_less (by assumption) (sub_one ?hm ?hs)) ⟨_, _, _, _, _, _, _, _, rfl, rfl, ?he⟩
    (case hm => k_mem)
    (case hs => (intro q hq; repeat (first | exact hq | refine List.Mem.tail _ ?_)))
    (case he => (rename Rep C _ _ _ _ => R1; exact R1.congr (by rw [Int.mul_emod (n % C.N), Int.emod_emod_of_dvd _ (Int.dvd_refl _), ← Int.mul_emod])))
  · rename _ = n / 2 => e1
    subst e1
    unfold Stop
    k_dflt (refine' Calls.use (H2 _ ?a1 ?a2) ?kB ?kF ?kX ?kN ?kT ?kk ?kp ?kn ?kd ?ku ?_; (case a1 => omega); (case a2 => omega); (walk_at "my use"); k_whole)
    walk_at "my back3"
    k_steps
    refine' hret _ [_] _ _ (by assumption) (news_less (by assumption) (sub_one ?hm ?hs)) ⟨_, _, _, _, _, _, _, _, rfl, rfl, ?he⟩
    (case hm => k_mem)
    (case hs => (intro q hq; repeat (first | exact hq | refine List.Mem.tail _ ?_)))
    (case he => (rename Rep C (2 * (n / 2 * i)) _ _ _ => R1; exact R1.congr (by rw [← Int.mul_assoc, show 2 * (n / 2) = n by omega])))
  · rename _ = n / 2 => e1
    subst e1
    unfold Stop
    k_dflt (refine' Calls.use (H2 _ ?a1 ?a2) ?kB ?kF ?kX ?kN ?kT ?kk ?kp ?kn ?kd ?ku ?_; (case a1 => omega); (case a2 => omega); (walk_at "my use"); k_whole)
    walk_at "my back3"
    k_steps
    refine' hret _ [_] _ _ (by assumption) (news_less (by assumption) (sub_one ?hm ?hs)) ⟨_, _, _, _, _, _, _, _, rfl, rfl, ?he⟩
    (case hm => k_mem)
    (case hs => (intro q hq; repeat (first | exact hq | refine List.Mem.tail _ ?_)))
    (case he => (rename Rep C (2 * (n / 2 * i) + i) _ _ _ => R1; exact R1.congr (by rw [show 2 * (n / 2 * i) + i = (2 * (n / 2) + 1) * i by grind, show 2 * (n / 2) + 1 = n by omega])))
  · exfalso
    omega
theorem jmul_ct0 (w : World) {C : Cv} (G : Good C) {i : Int} {p cv : Addr} {x y z : Int} {tx ty tz tP tN tA tB tG tH : Tok} {c c' : Nat} (R : Rep C i x y z) :
   ∀ (k : Nat) (n : Int) (tn : Tok), 0 ≤ n → n < C.N → n < 2 ^ k →
   Calls w 70 (k + 3) (8 * k + 24) (fun _ => True) [(p, tup3 x y z tx ty tz c), (cv, tup6 C.P C.N C.A C.B C.Gx C.Gy tP tN tA tB tG tH c')] [.ref p, .int n tn, .ref cv] (OutR C (n * i)) := by
  intro k
  induction k with
  | zero =>
    intro n tn h0 hN h2
    exact jmul_step w G R (D := 2) (U := 16) (by omega) (by omega) (fun _ h => absurd h (by omega)) (fun _ h => absurd h (by omega))
  | succ k IH =>
    intro n tn h0 hN h2
    exact jmul_step w G R (D := k + 3) (U := 8 * k + 24) (by omega) (by omega) (fun _ h => absurd h (by omega)) (fun t _ _ => IH (n / 2) t (by omega) (by omega) (by rw [Int.pow_succ] at h2; omega))
theorem jmul_ct (w : World) {C : Cv} (G : Good C) {i : Int} {p cv : Addr} {x y z : Int} {tx ty tz tP tN tA tB tG tH : Tok} {c c' : Nat} (R : Rep C i x y z) (n : Int) (tn : Tok) :
   Calls w 70 11 88 (fun _ => True) [(p, tup3 x y z tx ty tz c), (cv, tup6 C.P C.N C.A C.B C.Gx C.Gy tP tN tA tB tG tH c')] [.ref p, .int n tn, .ref cv] (OutR C (n * i)) := by
  have hN := G.hN
  have b (m : Int) (h0 : 0 ≤ m) (h1 : m < C.N) (t : Tok) := jmul_ct0 w G R (p := p) (cv := cv) (tx := tx) (ty := ty) (tz := tz) (tP := tP) (tN := tN) (tA := tA) (tB := tB) (tG := tG) (tH := tH) (c := c) (c' := c') 7 m t h0 h1 (by omega)
  exact jmul_step w G R (D := 10) (U := 80) (by omega) (by omega) (fun t _ => b _ (Int.emod_nonneg _ (by omega)) (Int.emod_lt_of_pos _ (by omega)) t) (fun t _ _ => b _ (by omega) (by omega) t)
def OutA (C : Cv) (i : Int) : Value → List (Addr × Obj) → Prop := Out2 (fun u v => (u, v) = C.T i)
section
variable {C : Cv} (G : Good C)
include G
theorem Good.rep1 {i x y : Int} (h : (x, y) = C.T i) : Rep C i x y 1 := by
  have hP := G.hP
  have hb := G.box i
  rw [← h] at hb
  refine ⟨hb.1, hb.2, ⟨by decide, by show (1 : Int) < C.P; omega⟩, ?_⟩
  by_cases c : i % C.N = 0
  · have : C.T i = (0, 0) := by rw [← G.zero]; exact Cv.T_congr (by rw [c, Int.zero_emod])
    rw [this] at h
    exact .inl ⟨c, congrArg (·.1) h, congrArg (·.2) h⟩
  · refine .inr ⟨c, by decide, ?_, ?_⟩
    · rw [← h]; show x = x * 1 ^ 2 % C.P; rw [Int.one_pow, Int.mul_one]; exact (Int.emod_eq_of_lt hb.1.1 hb.1.2).symm
    · rw [← h]; show y = y * 1 ^ 3 % C.P; rw [Int.one_pow, Int.mul_one]; exact (Int.emod_eq_of_lt hb.2.1 hb.2.2).symm
theorem Rep.aff {i x y z u v : Int} (R : Rep C i x y z) (h : FromJac C.P x y z u v) : (u, v) = C.T i := by
  have hP := G.hP
  obtain ⟨k, ⟨hk1, hk2, hk3, hk4⟩, rfl, rfl⟩ := h
  obtain ⟨p, np, hp, hp2⟩ := G.fin
  obtain ⟨bx, b_y, bz, ⟨h1, h2, h3⟩ | ⟨h1, h2, h3, h4⟩⟩ := R
  · have : C.T i = (0, 0) := by rw [← G.zero]; exact Cv.T_congr (by rw [h1, Int.zero_emod])
    rw [this, h2, h3, Int.zero_mul, Int.zero_mul, Int.zero_emod]
  · have e := hk4 h2
    have q : ph p z * ph p k = 1 := by
      rw [← ph_mul, ← ph_mod, ← hp, e, ph_1]
    have f3 : ph p x = ph p (C.T i).1 * ph p z ^ 2 := by rw [h3, hp, ph_mod, ph_mul, ph_pow]
    have f4 : ph p y = ph p (C.T i).2 * ph p z ^ 3 := by rw [h4, hp, ph_mod, ph_mul, ph_pow]
    refine Prod.ext ?_ ?_
    · refine ph_inj (p := p) (hp ▸ box_mod hP.1 _) (hp ▸ (G.box i).1) ?_
      rw [hp, ph_mod, ph_mul, ph_pow, f3]
      have := congrArg (· ^ 2) q
      grind
    · refine ph_inj (p := p) (hp ▸ box_mod hP.1 _) (hp ▸ (G.box i).2) ?_
      rw [hp, ph_mod, ph_mul, ph_pow, f4]
      have := congrArg (· ^ 3) q
      grind
end
theorem tojacR_ct (w : World) {C : Cv} (G : Good C) {i : Int} {p : Addr} {x y : Int} {tx ty : Tok} {c : Nat} (h : (x, y) = C.T i) :
   Calls w 42 1 8 (fun _ => True) [(p, tup2 x y tx ty c)] [.ref p] (OutR C i) := by
  refine (tojac_ct w).mono ?_
  rintro r tl ⟨d, x1, y1, z1, t1, t2, t3, c, e1, e2, e3⟩
  cases e3
  exact ⟨d, _, _, _, t1, t2, t3, c, e1, e2, G.rep1 h⟩
theorem fromjacR_ct (w : World) {C : Cv} (G : Good C) {i : Int} {p cv : Addr} {x y z : Int} {tx ty tz tP tN tA tB tG tH : Tok} {c c' : Nat} (R : Rep C i x y z) :
   Calls w 63 2 16 (fun _ => True) [(p, tup3 x y z tx ty tz c), (cv, tup6 C.P C.N C.A C.B C.Gx C.Gy tP tN tA tB tG tH c')] [.ref p, .ref cv] (OutA C i) := by
  refine (fromjac_ct w G.hP R.1 R.2.1 R.2.2.1 fun h => G.unitP z ?_).mono ?_
  · rw [Int.emod_eq_of_lt R.2.2.1.1 R.2.2.1.2]; exact h
  · rintro r tl ⟨d, x1, y1, t1, t2, c, e1, e2, e3⟩
    exact ⟨d, x1, y1, t1, t2, c, e1, e2, R.aff G e3⟩
theorem word26 : True := by
  k_with "my back2" => ((intro r' tl' h' tk' F' N' O'; obtain ⟨d', x', y', tx', ty', c', e1', e2', A'⟩ := O'; subst e1'; subst e2'; (try simp only [List.cons_append, List.nil_append] at N'); (try k_sweep)))
  exact True.intro
theorem word27 : True := by
  k_with "mine call ref" => (first
      | ((with_reducible show wpAny _ _ (call (Value.ref 42) _) _ _ _); k_dflt (refine' Calls.use (tojacR_ct _ ?hG ?hR) ?kB ?kF ?kX ?kN ?kT ?kk ?kp ?kn ?kd ?ku ?_; (case hG => assumption); (walk_at "my use"); (case hR => assumption); k_whole); k_dflt (k_dflt (walk_at "my back3")))
      | ((with_reducible show wpAny _ _ (call (Value.ref 63) _) _ _ _); k_dflt (refine' Calls.use (fromjacR_ct _ ?hG ?hR) ?kB ?kF ?kX ?kN ?kT ?kk ?kp ?kn ?kd ?ku ?_; (case hG => assumption); (walk_at "my use"); (case hR => assumption); k_whole); k_dflt (walk_at "my back2"))
      | ((with_reducible show wpAny _ _ (call (Value.ref 70) _) _ _ _); k_dflt (refine' Calls.use (jmul_ct _ ?hG ?hR _ _) ?kB ?kF ?kX ?kN ?kT ?kk ?kp ?kn ?kd ?ku ?_; (case hG => assumption); (walk_at "my use"); (case hR => assumption); k_whole); k_dflt (walk_at "my back3")))
  exact True.intro
theorem multiply_ct (w : World) {C : Cv} (G : Good C) {i : Int} {p cv : Addr} {x y : Int} {tx ty tP tN tA tB tG tH : Tok} {c c' : Nat} (hT : (x, y) = C.T i) (n : Int) (tn : Tok) :
   Calls w 77 12 96 (fun _ => True) [(p, tup2 x y tx ty c), (cv, tup6 C.P C.N C.A C.B C.Gx C.Gy tP tN tA tB tG tH c')] [.ref p, .int n tn, .ref cv] (OutA C (n * i)) := by
  w_on
  unfold Calls
  k_fill
  intro mean mg mb dp un gd cn cs a ccd cl outer A₀ base h₀ L m news s Q E B F X N T hk hpre hneed hd hu hret
  have N2 := news_more N hneed
  simp only [List.cons_append, List.nil_append] at N2
  clear N hneed
  refine wpAny_call ?_
  k_dflt ktr_enter
  k_steps
  refine' hret _ [_] _ _ (by assumption) (news_less (by assumption) (sub_one ?hm ?hs)) ⟨_, _, _, _, _, _, rfl, rfl, ?he⟩
  (case hm => k_mem)
  (case hs => (intro q hq; repeat (first | exact hq | refine List.Mem.tail _ ?_)))
  (case he => assumption)
theorem add_ct (w : World) {C : Cv} (G : Good C) {i j : Int} {p q cv : Addr} {x y x1 y1 : Int} {tx ty tx1 ty1 tP tN tA tB tG tH : Tok} {c c1 c' : Nat} (hT : (x, y) = C.T i) (hT1 : (x1, y1) = C.T j) :
   Calls w 84 3 24 (fun _ => True) [(p, tup2 x y tx ty c), (q, tup2 x1 y1 tx1 ty1 c1), (cv, tup6 C.P C.N C.A C.B C.Gx C.Gy tP tN tA tB tG tH c')] [.ref p, .ref q, .ref cv] (OutA C (i + j)) := by
  w_on
  unfold Calls
  k_fill
  intro mean mg mb dp un gd cn cs a ccd cl outer A₀ base h₀ L m news s Q E B F X N T hk hpre hneed hd hu hret
  have N2 := news_more N hneed
  simp only [List.cons_append, List.nil_append] at N2
  clear N hneed
  refine wpAny_call ?_
  k_dflt ktr_enter
  k_steps
  refine' hret _ [_] _ _ (by assumption) (news_less (by assumption) (sub_one ?hm ?hs)) ⟨_, _, _, _, _, _, rfl, rfl, ?he⟩
  (case hm => k_mem)
  (case hs => (intro q hq; repeat (first | exact hq | refine List.Mem.tail _ ?_)))
  (case he => assumption)
section
variable {prog : Program} {w : World} {A : Around} {E : Value → Shared → Prop} {s : Shared} {x y m : Int} {t u v : Tok} {Q : Value → Shared → Prop}
theorem int_pow_mod (a : Int) (t : Tok) (b : Int) (u : Tok) (c : Int) (v : Tok) (hc0 : ¬(c == 0) = true) (hc1 : ¬(c.natAbs == 1) = true) (hc2 : ¬ b < 0) (hc3 : ¬ c < 0) :
    Gives (Builtin.«int.__pow__» ⟨[.int a t, .int b u, .int c v], []⟩) (.int (Builtin.powMod (a % (c.natAbs : Int)).toNat b.natAbs c.natAbs)) :=
  .of_wp fun M A E s Q h => by
    obtain ⟨hp, g, d, tk, os⟩ := s
    have e : (decide (c < 0)) = false := decide_eq_false hc3
    wp_walk
    rw [e, Bool.false_and, if_neg Bool.false_ne_true]
    exact ⟨_, rfl, h⟩
theorem pow3' (hy : 0 ≤ y) (hm : 1 < m) (h : ∀ r, r = ((Builtin.powMod (x % m).toNat y.toNat m.toNat : Nat) : Int) → Q (.int r s.toks) { s with toks := s.toks + 1 }) :
    wpAny (model prog w) A (call (.builtin "pow") [.int x t, .int y u, .int m v]) Q E s := by
  refine Calls.call_function_entry (b := Builtin.«pow») (by decide +kernel) (by decide +kernel) (entryFor_of_fast (by kernel_rfl)) (by unfold argsOk; kernel_rfl) ?_
  unfold Builtin.«pow»
  refine wpAny_bind (wpAny_of_eq (a := [some (.int x t), some (.int y u), some (.int m v)]) (by kernel_rfl) ?_)
  dsimp only [Option.getD]
  refine wpAny_bind (wpAny_rule ?_)
  refine wpAny_bind (wpAny_of_eq (a := .type "int") rfl ?_)
  dsimp only
  refine wpAny_bind (wpAny_of_eq (a := some (.builtin "int.__pow__")) (by rw [typeLookup_type, builtinLookup_eq_fast]; kernel_rfl) ?_)
  dsimp only
  refine wpAny_bind (wpAny_callSpecial?_slot (typeIs_int s x t) slot_int_pow ?_)
  refine call_gives slot_int_pow (typeIs_int s x t) entry_int_pow (by unfold argsOk; kernel_rfl) (int_pow_mod x t y u m v (by simp; omega) (by simp; omega) (by omega) (by omega)) ?_
  show wpAny _ _ (if (Value.int _ _ != Value.notImplemented) = true then ret (Value.int _ _) else _) _ _ _
  rw [if_pos (c := (Value.int _ s.toks != Value.notImplemented) = true) rfl]
  refine wpAny_pure ⟨_, rfl, h _ ?_⟩
  rw [show ((m.natAbs : Nat) : Int) = m by omega, show y.natAbs = y.toNat by omega, show m.natAbs = m.toNat by omega]
end
section
variable {prog : Program} {w : World} {A : Around} {E : Value → Shared → Prop} {H : Heap} {gs : Array GenState} {dr : Drawn} {tk : Nat} {os : OsState} {x y m a b : Int} {t u v : Tok} {Q : Value → Shared → Prop}
theorem pow3 (hy : 0 ≤ y) (hm : 1 < m) (h : ∀ r t' tk', r = ((Builtin.powMod (x % m).toNat y.toNat m.toNat : Nat) : Int) → Q (.int r t') ⟨H, gs, dr, tk', os⟩) :
    wpAny (model prog w) A (call (.builtin "pow") [.int x t, .int y u, .int m v]) Q E ⟨H, gs, dr, tk, os⟩ := pow3' (s := ⟨H, gs, dr, tk, os⟩) hy hm fun r e => h r _ _ e
theorem xor01 (ha : 0 ≤ a ∧ a < 2) (hb : 0 ≤ b ∧ b < 2) (h : ∀ r t' tk', r = (if a = b then 0 else 1) → Q (.int r t') ⟨H, gs, dr, tk', os⟩) :
    wpAny (model prog w) A (binaryOp .BitXor (.int a t) (.int b u)) Q E ⟨H, gs, dr, tk, os⟩ := by
  refine xor_int (s := ⟨H, gs, dr, tk, os⟩) ?_
  have ea : a = 0 ∨ a = 1 := by omega
  have eb : b = 0 ∨ b = 1 := by omega
  have e : Builtin.bitXor a b = if a = b then 0 else 1 := by
    rcases ea with rfl | rfl <;> rcases eb with rfl | rfl <;> decide
  exact h _ _ _ e
/-- a shift of a number that is not below nought -/
theorem shl_sm {k : Nat} (hb : b = 8) (hk : Bd a k) (hk' : k < 2 ^ 40) (h : ∀ r t' tk', r = a * 256 → Bd r (k * 256) → Q (.int r t') ⟨H, gs, dr, tk', os⟩) :
    wpAny (model prog w) A (binaryOp .LShift (.int a t) (.int b u)) Q E ⟨H, gs, dr, tk, os⟩ := by
  subst hb
  exact lshift_int_small (s := ⟨H, gs, dr, tk, os⟩) (by omega) (by omega) (by unfold Bd at hk; omega) (h _ _ _ rfl (hk.mul (Bd.lit 256)))
end
theorem allLt_ne {d : Addr} : ∀ {l : List (Addr × Obj)}, AllLt d l → ∀ p ∈ l, p.1 ≠ d
  | [], _, _, hp => nomatch hp
  | q :: r, h, p, hp => by
    rcases List.mem_cons.mp hp with rfl | hp
    · exact Nat.ne_of_lt h.1
    · exact allLt_ne h.2 p hp
theorem unrEnd_tail {h₀ : Heap} {L I : Addr} {it : Obj} {rest : (Str → Option Value) → List (Addr × Obj) → Prop} {s₁ : Shared} {h' : Heap} {tk : Nat} {m' : Str → Option Value} {news' all : List (Addr × Obj)} (F : Fr h₀ L h' m') (N : News h₀ L h' all)
    (sub : ∀ p ∈ (I, it) :: news', p ∈ all) (l : AllLt I news') (r : rest m' news') : UnrEnd h₀ L s₁ I it rest { s₁ with heap := h', toks := tk } :=
  UnrEnd.intro F N news' sub (allLt_ne l) r
theorem unrEnd_of {h0' h₀ : Heap} {L' L I : Addr} {it : Obj} {rest : (Str → Option Value) → List (Addr × Obj) → Prop} {s0 s₁ : Shared} {h' : Heap} {tk : Nat} {m' : Str → Option Value} {news' all : List (Addr × Obj)} (hN0 : News h0' L' s0.heap news') (F : Fr h₀ L h' m') (N : News h₀ L h' all)
    (sub : ∀ p ∈ (I, it) :: news', p ∈ all) (l : AllLt I news') (r : rest m' news') : UnrEnd h₀ L s₁ I it rest { s₁ with heap := h', toks := tk } :=
  UnrEnd.intro F N news' sub (allLt_ne l) r
def IntAt (s : Shared) (y : Int) (v : Value) (s2 : Shared) : Prop := ∃ t tk', v = .int y t ∧ s2 = { s with toks := tk' }
theorem IntAt.mk {s : Shared} {x y : Int} {t : Tok} {tk' : Nat} (h : x = y) : IntAt s y (.int x t) { s with toks := tk' } := ⟨t, tk', by rw [h], rfl⟩
theorem join_int {M : Model} {A : Around} {E : Value → Shared → Prop} {s : Shared} {Q : Value → Shared → Prop} {cm : Sem Value} (y : Int) (h1 : wpAny M A cm (IntAt s y) E s)
    (h2 : ∀ t tk', Q (.int y t) { s with toks := tk' }) : wpAny M A cm Q E s :=
  wpAny_mono h1 (fun v s2 ⟨t, tk', e1, e2⟩ => by rw [e1, e2]; exact h2 t tk') fun _ _ h => h
local macro_rules | `(tactic| walk_at "binaryOp BitXor int int") => `(tactic| k_extra "mine binaryOp BitXor int int")
theorem word28 : True := by
  k_with "mine binaryOp BitXor int int" => (((with_reducible refine' xor01 ?ha ?hb ?_); (case ha => with_reducible assumption); (case hb => with_reducible assumption); k_whole; intro r' t' tk' e'))
  exact True.intro
local macro_rules | `(tactic| walk_at "binaryOp LShift int int") => `(tactic| k_extra "mine binaryOp LShift int int")
theorem word29 : True := by
  k_with "mine binaryOp LShift int int" => (((with_reducible refine' shl_sm ?hb ?ha ?hk ?_); (case hb => k_dflt rfl); (case ha => walk_at "my bd"); (case hk => k_dflt decide); k_whole; intro r' t' tk' e' b'))
  exact True.intro
local macro_rules | `(tactic| walk_at "pyIter bytes") => `(tactic| k_extra "mine pyIter bytes")
theorem word30 : True := by
  k_with "mine pyIter bytes" => (((with_reducible show wpAny _ _ (pyIter (Value.bytes _ _)) (fun it s₂ => LoopAtV _ _ _ _ _ _ _ _ _ it s₂) _ _); k_here; k_bytesUnr))
  exact True.intro
local macro_rules | `(tactic| walk_at "UnrEnd") => `(tactic| k_extra "mine UnrEnd")
theorem word31 : True := by
  k_with "mine UnrEnd" => ((k_dflt (refine' unrEnd_tail ?kF ?kN (fun q hq => hq) ?kl ?_; (case kF => assumption); (case kN => assumption); (case kl => first | assumption | exact allLt_of (by assumption)); k_whole)))
  exact True.intro
theorem ord_ct (w : World) {v : Int} {tv : Tok} : Calls w 21 1 8 (fun _ => True) [] [.int v tv] (fun r tl => r = .int v tv ∧ tl = []) := by
  w_on
  unfold Calls
  k_fill
  intro mean mg mb dp un gd cn cs a' ccd cl outer A₀ base h₀ L m news s Q E B F X N T hk hpre hneed hd hu hret
  clear hneed
  refine wpAny_call ?_
  k_dflt ktr_enter
  k_steps
  refine hret _ [] _ _ (by assumption) (by assumption) ⟨rfl, rfl⟩
theorem word32 : True := by
  k_with "mine call ref" => (((with_reducible show wpAny _ _ (call (Value.ref 21) _) _ _ _); k_dflt (refine' Calls.use (ord_ct _) ?kB ?kF ?kX ?kN ?kT ?kk ?kp ?kn ?kd ?ku ?_; (walk_at "my use"); k_whole); k_dflt (intro r' tl' h' tk' F' N' O'; obtain ⟨e1', e2'⟩ := O'; subst e1'; subst e2'; (try simp only [List.nil_append] at N'); (try k_sweep))))
  exact True.intro
theorem bti_ct (w : World) {b : Array UInt8} {tb : Tok} {c3 c2 c1 c0 : Int} (hb : KBw.bInts b = [c3, c2, c1, c0]) (h3 : 0 ≤ c3 ∧ c3 < 256) (h2 : 0 ≤ c2 ∧ c2 < 256) (h1 : 0 ≤ c1 ∧ c1 < 256) (h0 : 0 ≤ c0 ∧ c0 < 256) :
   Calls w 28 2 16 (fun _ => True) [] [.bytes b tb] (Out1 (fun x => x = ((c3 * 256 + c2) * 256 + c1) * 256 + c0)) := by
  w_on
  unfold Calls
  k_fill
  intro mean mg mb dp un gd cn cs a' ccd cl outer A₀ base h₀ L m news s Q E B F X N T hk hpre hneed hd hu hret
  clear hneed
  have hlen : [c3, c2, c1, c0].length = 4 := rfl
  have b3 : Bd c3 255 := by unfold Bd; omega
  have b2 : Bd c2 255 := by unfold Bd; omega
  have b1 : Bd c1 255 := by unfold Bd; omega
  have b0 : Bd c0 255 := by unfold Bd; omega
  refine wpAny_call ?_
  k_dflt ktr_enter
  k_steps
  refine hret _ [] _ _ (by assumption) (news_less (by assumption) ?_) ⟨_, _, rfl, rfl, ?_⟩
  · intro q hq; repeat (first | exact hq | refine List.Mem.tail _ ?_)
  · omega
theorem at_ct (w : World) {l : Addr} {vs : List Value} {ns : List Int} {k : Int} {tk' : Tok} (hI : IntsAre vs ns) (hlen : ns.length ≤ 63) (hk : 0 ≤ k ∧ k ≤ 7) :
   Calls w 105 1 8 (fun base => base.IsList l vs.toArray) [] [.ref l, .int k tk'] (Out1 (fun x => -1000000000 < x ∧ x < 1000000000)) := by
  w_on
  unfold Calls
  k_fill
  intro mean mg mb dp un gd cn cs a ccd cl outer A₀ base h₀ L m news s Q E B F X N T hkk hpre hneed hd hu hret
  clear hneed
  have hk0 : 0 ≤ k := hk.1
  refine wpAny_call ?_
  k_dflt cell_enter
  k_steps
  all_goals exact hret _ [] _ _ (by assumption) (by assumption) ⟨_, _, rfl, rfl, by omega, by omega⟩
local macro_rules | `(tactic| walk_at "call builtin:pow") => `(tactic| k_extra "mine call builtin:pow")
theorem word33 : True := by
  k_with "mine call builtin:pow" => (((with_reducible show wpAny _ _ (call (Value.builtin "pow") [Value.int _ _, Value.int _ _, Value.int _ _]) _ _ _); k_dflt (refine' pow3 ?hy ?hm ?_; (case hy => omega); (case hm => omega); k_whole); intro r' t' tk' e'))
  exact True.intro
local macro_rules | `(tactic| walk_at "exec Raise some none") => `(tactic| k_extra "mine exec Raise some none")
theorem word34 : True := by
  k_with "mine exec Raise some none" => ((refine stop_here ?_))
  exact True.intro
local macro_rules | `(tactic| walk_at "eval IfExp") => `(tactic| k_extra "mine eval IfExp")
theorem word35 : True := by
  k_with "mine eval IfExp" => ((refine stop_here ?_))
  exact True.intro
theorem word36 : True := by
  k_with "mine call ref" => (((with_reducible show wpAny _ _ (call (Value.ref 28) _) _ _ _); k_dflt (refine' Calls.use (bti_ct _ ?h0 ?h1 ?h2 ?h3 ?h4) ?kB ?kF ?kX ?kN ?kT ?kk ?kp ?kn ?kd ?ku ?_; (walk_at "my use"); (case h0 => assumption); (case h1 => assumption); (case h2 => assumption); (case h3 => assumption); (case h4 => assumption); k_whole); k_dflt (intro r' tl' h' tk' F' N' O'; obtain ⟨x', tx', e1', e2', e3'⟩ := O'; subst e1'; subst e2'; (try simp only [List.nil_append] at N'); (try k_sweep))))
  exact True.intro
theorem beta_eq {P A B r a1 a2 a3 a4 a5 a6 a7 a8 β : Int} (e9 : β = ((Builtin.powMod (a6 % P).toNat a8.toNat P.toNat : Nat) : Int)) (e6 : a6 = a5 % P) (e8 : a8 = a7 / 4) (e7 : a7 = P + 1) (e5 : a5 = a4 + B) (e4 : a4 = a2 + a3) (e2 : a2 = a1 * r) (e3 : a3 = A * r) (e1 : a1 = r * r) :
    β = Rt P A B r ∧ a6 = (r * r * r + A * r + B) % P := by
  subst e1 e2 e3 e4 e5 e7 e8
  exact ⟨by rw [e9, e6], e6⟩
theorem recover_ct (w : World) {C : Cv} (G : Good C) {b : Array UInt8} {tb : Tok} {c3 c2 c1 c0 : Int} (hb : KBw.bInts b = [c3, c2, c1, c0]) (h3 : 0 ≤ c3 ∧ c3 < 256) (h2 : 0 ≤ c2 ∧ c2 < 256) (h1 : 0 ≤ c1 ∧ c1 < 256) (h0 : 0 ≤ c0 ∧ c0 < 256)
   {q cv : Addr} {k r s' v y : Int} {tv tr ts tP tN tA tB tG tH : Tok} {c c' : Nat} (hk : k % C.N ≠ 0) (hT : (r, y) = C.T k) (hv : v = 27 + y % 2) (hr : r % C.N ≠ 0) (hs : s' % C.N ≠ 0) {ρ : Int} (hρ : (r * ρ) % C.N = 1) :
   Calls w 91 12 96 (fun _ => True) [(q, tup3 v r s' tv tr ts c), (cv, tup6 C.P C.N C.A C.B C.Gx C.Gy tP tN tA tB tG tH c')] [.bytes b tb, .ref q, .ref cv] (OutA C (ρ * (s' * k - (((c3 * 256 + c2) * 256 + c1) * 256 + c0)))) := by
  w_on
  unfold Calls
  k_fill
  intro mean mg mb dp un gd cn cs a ccd cl outer A₀ base h₀ L m news s Q E B F X N T hkk hpre hneed hd hu hret
  have N2 := news_more N hneed
  simp only [List.cons_append, List.nil_append] at N2
  clear N hneed
  have hP := G.hP
  have hN := G.hN
  have hN0 : 0 < C.N := by omega
  have hN1 : C.N ≤ 127 := hN.2
  have hP0 : 0 < C.P := by omega
  have hP1 : C.P ≤ 127 := hP.2
  have hbx := G.box k
  rw [← hT] at hbx
  have hrb : 0 ≤ r ∧ r < C.P := hbx.1
  have hyb : 0 ≤ y ∧ y < C.P := hbx.2
  have bx : Bd r 127 := Bd.box hrb hP1
  have b_y : Bd y 127 := Bd.box hyb hP1
  have bA : Bd C.A 127 := Bd.box G.hA hP1
  have hr127 : 0 ≤ r ∧ r ≤ 127 := by omega
  have hri : r ≠ 0 → ∃ u, (r * u) % C.N = 1 := fun _ => ⟨ρ, hρ⟩
  have R1 := G.rep1 G.base.symm
  have Rk := G.rep1 hT
  have hroot := G.root k hk
  rw [← hT] at hroot
  refine wpAny_call ?_
  k_dflt ktr_enter
  k_steps
  · rename _ = ((Builtin.powMod _ _ _ : Nat) : Int) => hβ
    obtain ⟨hβ', he3⟩ := beta_eq hβ (by assumption) (by assumption) (by assumption) (by assumption) (by assumption) (by assumption) (by assumption) (by assumption)
    clear hβ
    unfold Stop
    refine join_int y (IfExp_ ?_) (fun t tk' => ?_)
    · k_steps
      all_goals (
        refine IntAt.mk ?_
        walk_at "my clear"
        have hc := hroot.1
        rename _ = (if _ = _ then (0 : Int) else 1) => ex
        rename _ = v % 2 => ea
        rename _ = _ % 2 => eb
        subst ea
        subst hv
        subst hβ'
        subst eb
        have ez : ∀ c : Prop, ∀ _ : Decidable c, (if c then (0 : Int) else 1) = 0 ↔ c := fun c _ => by by_cases h : c <;> simp [h]
        by_cases hq : (27 + y % 2) % 2 = Rt C.P C.A C.B r % 2
        · first
            | (rw [if_pos hq] at hc; subst_vars; exact hc)
            | (exfalso; rw [if_pos hq] at ex; omega)
        · first
            | (rw [if_neg hq] at hc; exact hc)
            | (exfalso; rw [if_neg hq] at ex; omega))
    · k_steps
      all_goals first
        | (exfalso; walk_at "my clear"; subst_vars; first | exact hr (by assumption) | exact hs (by assumption) | exact absurd hroot.2 (by assumption))
        | (refine' hret _ [_] _ _ (by assumption) (news_less (by assumption) (sub_one ?hm ?hs)) ⟨_, _, _, _, _, _, rfl, rfl, ?he⟩
           (case hm => k_mem)
           (case hs => (intro q hq; repeat (first | exact hq | refine List.Mem.tail _ ?_)))
           (case he => (walk_at "my clear"; rename (_, _) = C.T (_ * (_ * 1 + s' * k)) => hA; rename InvOk r C.N _ => hI; subst_vars; exact hA.trans (Cv.T_congr (recover_idx G hI hr hρ rfl)))))
  · exfalso
    have : y % 2 = 0 ∨ y % 2 = 1 := by omega
    rename (List.any _ _) = false => hf
    rcases this with e | e <;> (rw [hv, e] at hf; exact absurd hf (by decide))
theorem word37 : True := by
  k_with "mine call ref" => (((with_reducible show wpAny _ _ (call (Value.ref 91) _) _ _ _); k_dflt (refine' Calls.use (recover_ct _ ?hG ?h0 ?h1 ?h2 ?h3 ?h4 ?h5 ?h6 ?h7 ?h8 ?h9 ?h10) ?kB ?kF ?kX ?kN ?kT ?kk ?kp ?kn ?kd ?ku ?_; (case hG => assumption); (walk_at "my use"); (case h0 => assumption); (case h6 => assumption); (case h1 => omega); (case h2 => omega); (case h3 => omega); (case h4 => omega); (case h5 => assumption); (case h7 => assumption); (case h8 => assumption); (case h9 => assumption); (case h10 => assumption); k_whole); k_dflt (walk_at "my back2")))
  exact True.intro
local macro_rules | `(tactic| walk_at "call builtin:int.to_bytes") => `(tactic| k_extra "mine call builtin:int.to_bytes")
theorem word38 : True := by
  k_with "mine call builtin:int.to_bytes" => ((k_here; (with_unfolding_all refine' KTBy.to_big (k := 4) (B := 4294967296) ?ha ?hb ?hc ?hd ?_); (case ha => decide); (case hb => decide); (case hc => assumption); (case hd => assumption); k_whole; intro b' t' k' hb' hl'; (simp only [KTBy.little, List.reverse_cons, List.reverse_nil, List.nil_append, List.cons_append] at hb'); clear hl'))
  exact True.intro
theorem read_ct (w : World) {C : Cv} (G : Good C) {q cv : Addr} {x : Int} {tx : Tok} (hx : 0 ≤ x) (hx1 : x < 4294967296)
   {k r s' v y : Int} {tv tr ts tP tN tA tB tG tH : Tok} {c c' : Nat} (hk : k % C.N ≠ 0) (hT : (r, y) = C.T k) (hv : v = 27 + y % 2) (hr : r % C.N ≠ 0) (hs : s' % C.N ≠ 0) {ρ : Int} (hρ : (r * ρ) % C.N = 1) :
   Calls w 119 13 104 (fun _ => True) [(q, tup3 v r s' tv tr ts c), (cv, tup6 C.P C.N C.A C.B C.Gx C.Gy tP tN tA tB tG tH c')] [.int x tx, .ref q, .ref cv] (OutA C (ρ * (s' * k - x))) := by
  w_on
  unfold Calls
  k_fill
  intro mean mg mb dp un gd cn cs a ccd cl outer A₀ base h₀ L m news s Q E B F X N T hkk hpre hneed hd hu hret
  have N2 := news_more N hneed
  simp only [List.cons_append, List.nil_append] at N2
  clear N hneed
  refine wpAny_call ?_
  k_dflt ktr_enter
  k_steps
  have e : ((x / 256 / 256 / 256 % 256 * 256 + x / 256 / 256 % 256) * 256 + x / 256 % 256) * 256 + x % 256 = x := by omega
  refine' hret _ [_] _ _ (by assumption) (news_less (by assumption) (sub_one ?hm ?hs)) ⟨_, _, _, _, _, _, rfl, rfl, ?he⟩
  (case hm => k_mem)
  (case hs => (intro q hq; repeat (first | exact hq | refine List.Mem.tail _ ?_)))
  (case he => (rename (_, _) = C.T (ρ * _) => hA; rw [e] at hA; exact hA))
def CurveAt (tl : List (Addr × Obj)) (v : Value) : Prop := ∃ (cv : Addr) (C : Cv) (tP tN tA tB tG tH : Tok) (c : Nat), v = .ref cv ∧ (cv, tup6 C.P C.N C.A C.B C.Gx C.Gy tP tN tA tB tG tH c) ∈ tl ∧ Good C
def OutC (r : Value) (tl : List (Addr × Obj)) : Prop := ∃ (l : Addr) (vs : List Value) (c : Nat), r = .ref l ∧ (l, W.listOf vs.toArray c) ∈ tl ∧ vs.length = 13 ∧ ∀ v ∈ vs, CurveAt tl v
theorem curves_ct (w : World) : Calls w 98 1 8 (fun _ => True) [] [] OutC := by
  w_on
  unfold Calls
  k_fill
  intro mean mg mb dp un gd cn cs a ccd cl outer A₀ base h₀ L m news s Q E B F X N T hkk hpre hneed hd hu hret
  clear hneed
  refine wpAny_call ?_
  k_dflt ktr_enter
  k_steps
  refine hret _ [_, _, _, _, _, _, _, _, _, _, _, _, _, _] _ _ (by assumption) (by assumption) ⟨_, [_, _, _, _, _, _, _, _, _, _, _, _, _], _, rfl, List.Mem.head _, rfl, ?_⟩
  refine List.forall_mem_cons.mpr ⟨⟨_, cv0, _, _, _, _, _, _, _, rfl, by k_mem, good0⟩, ?_⟩
  refine List.forall_mem_cons.mpr ⟨⟨_, cv1, _, _, _, _, _, _, _, rfl, by k_mem, good1⟩, ?_⟩
  refine List.forall_mem_cons.mpr ⟨⟨_, cv2, _, _, _, _, _, _, _, rfl, by k_mem, good2⟩, ?_⟩
  refine List.forall_mem_cons.mpr ⟨⟨_, cv3, _, _, _, _, _, _, _, rfl, by k_mem, good3⟩, ?_⟩
  refine List.forall_mem_cons.mpr ⟨⟨_, cv4, _, _, _, _, _, _, _, rfl, by k_mem, good4⟩, ?_⟩
  refine List.forall_mem_cons.mpr ⟨⟨_, cv5, _, _, _, _, _, _, _, rfl, by k_mem, good5⟩, ?_⟩
  refine List.forall_mem_cons.mpr ⟨⟨_, cv6, _, _, _, _, _, _, _, rfl, by k_mem, good6⟩, ?_⟩
  refine List.forall_mem_cons.mpr ⟨⟨_, cv7, _, _, _, _, _, _, _, rfl, by k_mem, good7⟩, ?_⟩
  refine List.forall_mem_cons.mpr ⟨⟨_, cv8, _, _, _, _, _, _, _, rfl, by k_mem, good8⟩, ?_⟩
  refine List.forall_mem_cons.mpr ⟨⟨_, cv9, _, _, _, _, _, _, _, rfl, by k_mem, good9⟩, ?_⟩
  refine List.forall_mem_cons.mpr ⟨⟨_, cv10, _, _, _, _, _, _, _, rfl, by k_mem, good10⟩, ?_⟩
  refine List.forall_mem_cons.mpr ⟨⟨_, cv11, _, _, _, _, _, _, _, rfl, by k_mem, good11⟩, ?_⟩
  refine List.forall_mem_cons.mpr ⟨⟨_, cv12, _, _, _, _, _, _, _, rfl, by k_mem, good12⟩, ?_⟩
  exact List.forall_mem_nil _
theorem word39 : True := by
  k_with "mine call ref" => (first
      | ((with_reducible show wpAny _ _ (call (Value.ref 77) _) _ _ _); k_dflt (refine' Calls.use (multiply_ct _ ?hG ?hT _ _) ?kB ?kF ?kX ?kN ?kT ?kk ?kp ?kn ?kd ?ku ?_; (case hG => assumption); (walk_at "my use"); (case hT => assumption); k_whole); k_dflt (walk_at "my back2"))
      | ((with_reducible show wpAny _ _ (call (Value.ref 84) _) _ _ _); k_dflt (refine' Calls.use (add_ct _ ?hG ?hT ?hS) ?kB ?kF ?kX ?kN ?kT ?kk ?kp ?kn ?kd ?ku ?_; (case hG => assumption); (walk_at "my use"); (case hT => assumption); (case hS => assumption); k_whole); k_dflt (walk_at "my back2")))
  exact True.intro
theorem word40 : True := by
  k_with "mine UnrEnd" => ((k_dflt (refine' unrEnd_of ?kM ?kF ?kN ?ks ?kl ?_; (case kM => assumption); (case kF => assumption); (case kN => assumption); (case ks => (intro q hq; repeat (first | exact hq | refine List.Mem.tail _ ?_))); (case kl => first | assumption | exact allLt_of (by assumption)); k_whole)))
  exact True.intro
def OutF (C : Cv) (r : Value) (tl : List (Addr × Obj)) : Prop := ∃ (d pt : Addr) (nonce x y : Int) (t tx ty : Tok) (c c1 : Nat), r = .ref d ∧ tl = [(d, { cls := .type "tuple", data := .seq #[.int nonce t, .ref pt] c }), (pt, tup2 x y tx ty c1)] ∧
  1 ≤ nonce ∧ nonce < C.N ∧ (x, y) = C.T nonce ∧ x % C.N ≠ 0
theorem six_end {C : Cv} (G : Good C) {m x0 y0 x1 y1 x2 y2 x3 y3 x4 y4 x5 y5 : Int}
    (a0 : (x0, y0) = C.T ((1 + (m + (0 + ((0 : Nat) : Int))) % (C.N - 1)) * 1)) (a1 : (x1, y1) = C.T ((1 + (m + (0 + ((0 + 1 : Nat) : Int))) % (C.N - 1)) * 1)) (a2 : (x2, y2) = C.T ((1 + (m + (0 + ((0 + 1 + 1 : Nat) : Int))) % (C.N - 1)) * 1))
    (a3 : (x3, y3) = C.T ((1 + (m + (0 + ((0 + 1 + 1 + 1 : Nat) : Int))) % (C.N - 1)) * 1)) (a4 : (x4, y4) = C.T ((1 + (m + (0 + ((0 + 1 + 1 + 1 + 1 : Nat) : Int))) % (C.N - 1)) * 1)) (a5 : (x5, y5) = C.T ((1 + (m + (0 + ((0 + 1 + 1 + 1 + 1 + 1 : Nat) : Int))) % (C.N - 1)) * 1))
    (z0 : x0 % C.N = 0) (z1 : x1 % C.N = 0) (z2 : x2 % C.N = 0) (z3 : x3 % C.N = 0) (z4 : x4 % C.N = 0) (z5 : x5 % C.N = 0) : False := by
  obtain ⟨k, hk, hne⟩ := G.six m
  rw [Int.mul_one] at a0 a1 a2 a3 a4 a5
  rcases hk with rfl | rfl | rfl | rfl | rfl | rfl
  · exact hne (a0 ▸ z0)
  · exact hne (a1 ▸ z1)
  · exact hne (a2 ▸ z2)
  · exact hne (a3 ▸ z3)
  · exact hne (a4 ▸ z4)
  · exact hne (a5 ▸ z5)
theorem nonce_ok {C : Cv} (G : Good C) {n r a b : Int} (e1 : n = 1 + r) (h : 0 ≤ r ∧ r < b) (e2 : b = C.N - 1) (he : r = a % b) : 1 ≤ n ∧ n < C.N := by
  have := G.hN
  omega
theorem first_ct (w : World) {C : Cv} (G : Good C) {cv : Addr} {m : Int} {tm tP tN tA tB tG tH : Tok} {c' : Nat} :
   Calls w 112 13 104 (fun _ => True) [(cv, tup6 C.P C.N C.A C.B C.Gx C.Gy tP tN tA tB tG tH c')] [.ref cv, .int m tm] (OutF C) := by
  w_on
  unfold Calls
  k_fill
  intro mean mg mb dp un gd cn cs a ccd cl outer A₀ base h₀ L m' news s Q E B F X N T hkk hpre hneed hd hu hret
  have N2 := news_more N hneed
  simp only [List.cons_append, List.nil_append] at N2
  clear N hneed
  have hN := G.hN
  have hN0 : 0 < C.N := by omega
  have hN1 : C.N ≤ 127 := hN.2
  have hb := G.base.symm
  refine wpAny_call ?_
  k_dflt ktr_enter
  k_steps
  all_goals first
    | (refine' hret _ [_, _] _ _ (by assumption) (news_less (by assumption) (sub_one (news := _ :: news) ?hm (sub_one (news := news) ?hn ?hs))) ⟨_, _, _, _, _, _, _, _, _, _, rfl, rfl, ?he⟩
       (case hm => k_mem)
       (case hn => k_mem)
       (case hs => (intro q hq; repeat (first | exact hq | refine List.Mem.tail _ ?_)))
       (case he => (walk_at "my clear"; rename (_, _) = C.T _ => hA; rename _ = _ % C.N => hq; rw [Int.mul_one] at hA; subst hq; (have hno := nonce_ok G (by with_reducible assumption) (by with_reducible assumption) (by with_reducible assumption) (by with_reducible assumption)); exact ⟨hno.1, hno.2, hA, by assumption⟩)))
    | (exfalso; walk_at "my clear"; subst_vars
       exact six_end G (by with_reducible assumption) (by with_reducible assumption) (by with_reducible assumption) (by with_reducible assumption) (by with_reducible assumption) (by with_reducible assumption) (by with_reducible assumption) (by with_reducible assumption) (by with_reducible assumption) (by with_reducible assumption) (by with_reducible assumption) (by with_reducible assumption))
theorem pick_curve {prog : Program} {w : World} {A : Around} {E : Value → Shared → Prop} {s : Shared} {Q : Value → Shared → Prop} {value slice : PySem.Expr} {l : Addr} {j : Int} {u : Tok} {h₀ : Heap} {L : Addr} {tl news : List (Addr × Obj)} {vs : List Value} {c : Nat}
    (N : News h₀ L s.heap (tl ++ news)) (hm : (l, W.listOf vs.toArray c) ∈ tl) (hlen : vs.length = 13) (hall : ∀ v ∈ vs, CurveAt tl v) (h0 : 0 ≤ j ∧ j < 13)
    (h : ∀ (cv : Addr) (C : Cv) (tP tN tA tB tG tH : Tok) (c : Nat), News h₀ L s.heap [(cv, tup6 C.P C.N C.A C.B C.Gx C.Gy tP tN tA tB tG tH c)] → Good C → Q (.ref cv) s)
    (hs : subscripted slice false (.ref l) (.int j u) = operate [.ref l, .int j u] (getItem (.ref l) (.int j u))) :
    wpAny (model prog w) A (subscriptTail value slice (.ref l) (.int j u)) Q E s := by
  have hl : s.heap.IsList l vs.toArray := News.isList N (List.mem_append_left _ hm)
  have hlt : j.toNat < vs.length := by omega
  obtain ⟨cv, C, tP, tN, tA, tB, tG, tH, c1, e, hmem, G⟩ := hall _ (List.getElem_mem hlt)
  refine tail_any hl.typeIs slot_list_getitem.lookup (wpAny_getItem_list hl h0.1 (by omega) (x := .ref cv) (by simp [hlt, e]) ?_) hs
  exact h cv C tP tN tA tB tG tH c1 (news_less N (need1 (List.mem_append_left _ hmem))) G
theorem modne {n N : Int} (h1 : 1 ≤ n) (h2 : n < N) : n % N ≠ 0 := by rw [Int.emod_eq_of_lt (by omega) h2]; omega
theorem s_ok {s r N : Int} (h : s = 1 + r) (hb : 0 ≤ r ∧ r < N - 1) : 1 ≤ s ∧ s < N := by omega
theorem Bd.of127 {s N : Int} (h : 1 ≤ s ∧ s < N) (hN : N ≤ 127) : Bd s 127 := by unfold Bd; omega
def Marked : Prop := True
theorem whole_ne {s m N : Int} (hs : 1 ≤ s ∧ s < N) (h1 : 1 ≤ m) (h2 : m < N) (h : s + m ≠ N) : (s + m) % N ≠ 0 := by
  by_cases c : s + m < N
  · rw [Int.emod_eq_of_lt (by omega) c]; omega
  · rw [show s + m = (s + m - N) + N by omega, Int.add_emod_right, Int.emod_eq_of_lt (by omega) (by omega)]; omega
theorem whole_ne1 {w s m N : Int} (e : w = s + m) (hs : 1 ≤ s ∧ s < N) (h1 : 1 ≤ m) (h2 : m < N) (h : s + m ≠ N) : w % N ≠ 0 := e ▸ whole_ne hs h1 h2 h
theorem whole_ne2 {w v s m N : Int} (e : w = v % N) (e1 : v = s + m) (hs : 1 ≤ s ∧ s < N) (h1 : 1 ≤ m) (h2 : m < N) (h : s + m ≠ N) : w % N ≠ 0 := by
  rw [e, Int.emod_emod_of_dvd _ (Int.dvd_refl _), e1]; exact whole_ne hs h1 h2 h
theorem mod_back {w v s m N : Int} (e : w = v % N) (e1 : v = s + m) : w % N = (s + m) % N := by rw [e, Int.emod_emod_of_dvd _ (Int.dvd_refl _), e1]
section
variable {C : Cv} (G : Good C)
include G
theorem Good.mul_ne {a b w : Int} (e : w = a * b) (ha : a % C.N ≠ 0) (hb : b % C.N ≠ 0) : w % C.N ≠ 0 := by
  obtain ⟨n, hn, en, h2⟩ := G.finN
  obtain ⟨u, hu⟩ := G.unitN a ha
  obtain ⟨v, hv⟩ := G.unitN b hb
  rw [en] at hu hv ⊢
  have q1 := ph_one h2 hu
  have q2 := ph_one h2 hv
  intro h
  have h' : ph n w = 0 := ph0.mpr h
  rw [e, ph_mul] at h'
  have : (1 : Fin n) = 0 := by
    have : (1 : Fin n) = ph n a * ph n b * (ph n u * ph n v) := by grind
    rw [this, h']; grind
  rw [← ph_1, ← ph_0, ph_ext] at this
  rw [Int.emod_eq_of_lt (by decide) (by omega), Int.zero_emod] at this
  exact absurd this (by decide)
theorem Good.idx0 {ρ w k q s z m o : Int} (hw : w % C.N = (s + m) % C.N) (hq : q = z + o) : (ρ * (w * k - q)) % C.N = (ρ * (s * k - z) + ρ * (m * k - o)) % C.N := by
  obtain ⟨n, hn, en, h2⟩ := G.finN
  rw [en] at hw ⊢
  rw [← ph_ext] at hw ⊢
  subst hq
  simp only [ph_mul, ph_sub, ph_add] at hw ⊢
  grind
theorem Good.idx2 {ρ s k q z m d u t : Int} (hq : q = z + m) (hd : d = C.N - m) (hu : u = d * ρ) (ht : t = u % C.N) : (ρ * (s * k - q)) % C.N = (ρ * (s * k - z) + t * 1) % C.N := by
  obtain ⟨n, hn, en, h2⟩ := G.finN
  rw [en] at hd ht ⊢
  rw [← ph_ext]
  have h0 := ph_self (n := n)
  subst hq hd hu ht
  simp only [ph_mul, ph_sub, ph_add, ph_mod, h0, ph_1]
  grind
theorem Good.idx3 {ρ s k z u v y t : Int} (hu : u = s * k) (hv : v = u - z) (hy : y = v * ρ) (ht : t = y % C.N) : (t * 1) % C.N = (ρ * (s * k - z)) % C.N := by
  subst hu hv hy ht
  rw [Int.mul_one, Int.emod_emod_of_dvd _ (Int.dvd_refl _), Int.mul_comm]
end
theorem idx1 {ρ c s k z u v N : Int} (hu : u = c * z) (hv : v = c * s) : (ρ * (v * k - u)) % N = (c * (ρ * (s * k - z))) % N := by
  subst hu hv
  congr 1
  grind
theorem cz_ok {c z u N : Int} (hu : u = c * z) (hc : 1 ≤ c ∧ c < N) (hN : N ≤ 127) (hz : 0 ≤ z ∧ z < 65536) : 0 ≤ u ∧ u < 4294967296 := by
  have h1 := Int.mul_nonneg (show (0 : Int) ≤ c by omega) hz.1
  have h2 := Int.mul_le_mul (show c ≤ 127 by omega) (show z ≤ 65536 by omega) hz.1 (by decide)
  omega
theorem word41 : True := by
  k_with "mine call ref" => (first
      | ((with_reducible show wpAny _ _ (call (Value.ref 98) _) _ _ _); k_dflt (refine' Calls.use (curves_ct _) ?kB ?kF ?kX ?kN ?kT ?kk ?kp ?kn ?kd ?ku ?_; (walk_at "my use"); k_whole); k_dflt (intro r' tl' h' tk' F' N' O'; obtain ⟨l', vs', c', e1', hm', hl', ha'⟩ := O'; subst e1'; (try k_sweep)))
      | ((with_reducible show wpAny _ _ (call (Value.ref 105) _) _ _ _); k_dflt (refine' Calls.use (at_ct _ ?h1 ?h2 ?h3) ?kB ?kF ?kX ?kN ?kT ?kk ?kp ?kn ?kd ?ku ?_; (walk_at "my use"); (case h1 => assumption); (case h2 => omega); (case h3 => decide); k_whole); k_dflt (intro r' tl' h' tk' F' N' O'; obtain ⟨x', tx', e1', e2', e3'⟩ := O'; subst e1'; subst e2'; (try simp only [List.nil_append] at N'); (try k_sweep)))
      | ((with_reducible show wpAny _ _ (call (Value.ref 112) _) _ _ _); k_dflt (refine' Calls.use (first_ct _ ?hG) ?kB ?kF ?kX ?kN ?kT ?kk ?kp ?kn ?kd ?ku ?_; (case hG => assumption); (walk_at "my use"); k_whole); k_dflt (intro r' tl' h' tk' F' N' O'; obtain ⟨d', pt', no', x', y', t', tx', ty', c', c1', e1', e2', hn1', hn2', hT', hx'⟩ := O'; subst e1'; subst e2'; (try simp only [List.cons_append, List.nil_append] at N'); (try k_sweep)))
      | ((with_reducible show wpAny _ _ (call (Value.ref 119) _) _ _ _); refine stop_here ?_))
  exact True.intro
local macro_rules | `(tactic| walk_at "subscriptTail Call Name nil nil BinOp ref int") => `(tactic| k_extra "mine subscriptTail Call Name nil nil BinOp ref int")
theorem word42 : True := by
  k_with "mine subscriptTail Call Name nil nil BinOp ref int" => (((with_reducible show wpAny _ _ (subscriptTail _ _ (Value.ref _) (Value.int _ _)) _ _ _); (rename News _ _ _ _ => nOld'); (k_dflt (refine' pick_curve nOld' ?hm ?hl ?ha ?h0 ?_ ?hs; (case hm => assumption); (case hl => assumption); (case ha => assumption); (case h0 => assumption); (case hs => with_unfolding_all rfl); k_whole)); clear nOld'; intro cv' C' tP' tN' tA' tB' tG' tH' c' N' G'))
  exact True.intro
local macro_rules | `(tactic| walk_at "compareOp Eq ref ref") => `(tactic| k_extra "mine compareOp Eq ref ref")
theorem word43 : True := by
  k_with "mine compareOp Eq ref ref" => (((fail_if_success (with_reducible rename Marked => x9)); refine stop_here ?_))
  exact True.intro
theorem main_walk : PySem.Challenge.rw_af0013_01.Holds := hd (by
  w_strict (k_go0; (all_goals try k_fold))
  k_steps
  rename Cv => C
  rename Good C => G
  rename (_, _) = C.T _ => hT
  rename 1 ≤ _ => hn1
  rename _ < C.N => hn2
  rename _ % C.N ≠ 0 => hx
  have hk := modne hn1 hn2
  have hN := G.hN
  have hN0 : 0 < C.N := by omega
  have hN1 : C.N ≤ 127 := hN.2
  rename _ = C.N - 2 => h5
  rename _ = ((Builtin.powMod _ _ _ : Nat) : Int) => hp
  rw [h5] at hp
  have hρ := (G.back _ hx).1
  have hρb := (G.back _ hx).2
  rw [← hp] at hρ hρb
  rename _ = C.N - 1 => h2
  subst h2
  rename 0 ≤ _ ∧ _ < C.N - 1 => hb1
  rename _ = 1 + _ => hs0
  have hs1 := s_ok hs0 hb1
  have hs := modne hs1.1 hs1.2
  rename _ = 27 + _ => hv0
  rename _ = _ % 2 => hv1
  subst hv1
  rename 0 ≤ _ ∧ _ < 65536 => hz
  have bz := Bd.box (k := 65536) hz (by decide)
  have bs := Bd.of127 hs1 hN1
  have bn := Bd.of127 ⟨hn1, hn2⟩ hN1
  have bb := Bd.box (k := 127) hρb hN1
  have hG1 := G.base.symm
  unfold Stop
  k_dflt (refine' Calls.use (read_ct _ G hz.1 ?x1 hk hT hv0 hx hs hρ) ?kB ?kF ?kX ?kN ?kT ?kk ?kp ?kn ?kd ?ku ?_; (case x1 => omega); (walk_at "my use"); k_whole)
  walk_at "my back2"
  rename (_, _) = C.T (_ * (_ * _ - _)) => hA
  k_steps
  · unfold Stop
    k_dflt (refine' Calls.use (read_ct _ G ?x0 ?x1 hk hT hv0 hx ?hs hρ) ?kB ?kF ?kX ?kN ?kT ?kk ?kp ?kn ?kd ?ku ?_; (walk_at "my use"); (case x0 => omega); (case x1 => omega); (case hs => exact whole_ne2 (by assumption) (by assumption) hs1 (by omega) (by omega) (by omega)); k_whole)
    walk_at "my back2"
    rename (_, _) = C.T (_ * (_ * _ - _)) => hA1
    k_steps
    unfold Stop
    k_dflt (refine' Calls.use (read_ct _ G ?x0 ?x1 hk hT hv0 hx ?hs hρ) ?kB ?kF ?kX ?kN ?kT ?kk ?kp ?kn ?kd ?ku ?_; (walk_at "my use"); (case x0 => omega); (case x1 => omega); (case hs => exact modne (by omega) (by omega)); k_whole)
    walk_at "my back2"
    rename (_, _) = C.T (_ * (_ * _ - _)) => hA2
    k_steps
    unfold Stop
    rename (_, _) = C.T (_ + _) => hA3
    have eq := hA1.trans ((Cv.T_congr (G.idx0 (mod_back (by assumption) (by assumption)) (by assumption))).trans hA3.symm)
    obtain ⟨q1, q2⟩ := Prod.mk.inj eq
    subst q1
    subst q2
    have mk : Marked := trivial
    k_steps
  · unfold Stop
    k_dflt (refine' Calls.use (read_ct _ G ?x0 ?x1 hk hT hv0 hx ?hs hρ) ?kB ?kF ?kX ?kN ?kT ?kk ?kp ?kn ?kd ?ku ?_; (walk_at "my use"); (case x0 => omega); (case x1 => omega); (case hs => exact whole_ne1 (by assumption) hs1 (by omega) (by omega) (by omega)); k_whole)
    walk_at "my back2"
    rename (_, _) = C.T (_ * (_ * _ - _)) => hA1
    k_steps
    unfold Stop
    k_dflt (refine' Calls.use (read_ct _ G ?x0 ?x1 hk hT hv0 hx ?hs hρ) ?kB ?kF ?kX ?kN ?kT ?kk ?kp ?kn ?kd ?ku ?_; (walk_at "my use"); (case x0 => omega); (case x1 => omega); (case hs => exact modne (by omega) (by omega)); k_whole)
    walk_at "my back2"
    rename (_, _) = C.T (_ * (_ * _ - _)) => hA2
    k_steps
    unfold Stop
    rename (_, _) = C.T (_ + _) => hA3
    have eq := hA1.trans ((Cv.T_congr (G.idx0 (congrArg (· % C.N) (by assumption)) (by assumption))).trans hA3.symm)
    obtain ⟨q1, q2⟩ := Prod.mk.inj eq
    subst q1
    subst q2
    have mk : Marked := trivial
    k_steps
  · unfold Stop
    k_dflt (refine' Calls.use (read_ct _ G ?x0 ?x1 hk hT hv0 hx ?hs hρ) ?kB ?kF ?kX ?kN ?kT ?kk ?kp ?kn ?kd ?ku ?_; (walk_at "my use"); (case x0 => omega); (case x1 => omega); (case hs => exact whole_ne2 (by assumption) (by assumption) hs1 (by omega) (by omega) (by omega)); k_whole)
    walk_at "my back2"
    rename (_, _) = C.T (_ * (_ * _ - _)) => hA1
    k_steps
    unfold Stop
    k_dflt (refine' Calls.use (read_ct _ G ?x0 ?x1 hk hT hv0 hx ?hs hρ) ?kB ?kF ?kX ?kN ?kT ?kk ?kp ?kn ?kd ?ku ?_; (walk_at "my use"); (case x0 => omega); (case x1 => omega); (case hs => exact modne (by omega) (by omega)); k_whole)
    walk_at "my back2"
    rename (_, _) = C.T (_ * (_ * _ - _)) => hA2
    k_steps
    unfold Stop
    rename (_, _) = C.T (_ + _) => hA3
    have eq := hA1.trans ((Cv.T_congr (G.idx0 (mod_back (by assumption) (by assumption)) (by assumption))).trans hA3.symm)
    obtain ⟨q1, q2⟩ := Prod.mk.inj eq
    subst q1
    subst q2
    have mk : Marked := trivial
    k_steps
  · unfold Stop
    k_dflt (refine' Calls.use (read_ct _ G ?x0 ?x1 hk hT hv0 hx ?hs hρ) ?kB ?kF ?kX ?kN ?kT ?kk ?kp ?kn ?kd ?ku ?_; (walk_at "my use"); (case x0 => omega); (case x1 => omega); (case hs => exact whole_ne1 (by assumption) hs1 (by omega) (by omega) (by omega)); k_whole)
    walk_at "my back2"
    rename (_, _) = C.T (_ * (_ * _ - _)) => hA1
    k_steps
    unfold Stop
    k_dflt (refine' Calls.use (read_ct _ G ?x0 ?x1 hk hT hv0 hx ?hs hρ) ?kB ?kF ?kX ?kN ?kT ?kk ?kp ?kn ?kd ?ku ?_; (walk_at "my use"); (case x0 => omega); (case x1 => omega); (case hs => exact modne (by omega) (by omega)); k_whole)
    walk_at "my back2"
    rename (_, _) = C.T (_ * (_ * _ - _)) => hA2
    k_steps
    unfold Stop
    rename (_, _) = C.T (_ + _) => hA3
    have eq := hA1.trans ((Cv.T_congr (G.idx0 (congrArg (· % C.N) (by assumption)) (by assumption))).trans hA3.symm)
    obtain ⟨q1, q2⟩ := Prod.mk.inj eq
    subst q1
    subst q2
    have mk : Marked := trivial
    k_steps
  · unfold Stop
    rename _ = 1 + _ => hc0
    rename _ = C.N - 1 => hc1
    subst hc1
    rename 0 ≤ _ ∧ _ < C.N - 1 => hc2
    have hc := s_ok hc0 hc2
    k_dflt (refine' Calls.use (read_ct _ G ?x0 ?x1 hk hT hv0 hx ?hs hρ) ?kB ?kF ?kX ?kN ?kT ?kk ?kp ?kn ?kd ?ku ?_; (walk_at "my use"); (case x0 => exact (cz_ok (by assumption) hc hN1 hz).1); (case x1 => exact (cz_ok (by assumption) hc hN1 hz).2); (case hs => exact G.mul_ne (by assumption) (modne hc.1 hc.2) hs); k_whole)
    walk_at "my back2"
    rename (_, _) = C.T (_ * (_ * _ - _)) => hA1
    k_steps
    unfold Stop
    rename (_, _) = C.T (_ * (_ * (_ * _ - _))) => hA3
    have eq := hA1.trans ((Cv.T_congr (idx1 (by assumption) (by assumption))).trans hA3.symm)
    obtain ⟨q1, q2⟩ := Prod.mk.inj eq
    subst q1
    subst q2
    have mk : Marked := trivial
    k_steps
  · unfold Stop
    k_dflt (refine' Calls.use (read_ct _ G ?x0 ?x1 hk hT hv0 hx ?hs hρ) ?kB ?kF ?kX ?kN ?kT ?kk ?kp ?kn ?kd ?ku ?_; (walk_at "my use"); (case x0 => omega); (case x1 => omega); (case hs => exact hs); k_whole)
    walk_at "my back2"
    rename (_, _) = C.T (_ * (_ * _ - _)) => hA1
    k_steps
    unfold Stop
    rename (_, _) = C.T (_ + _) => hA3
    have eq := hA1.trans ((Cv.T_congr (G.idx2 (by assumption) (by assumption) (by assumption) (by assumption))).trans hA3.symm)
    obtain ⟨q1, q2⟩ := Prod.mk.inj eq
    subst q1
    subst q2
    have mk : Marked := trivial
    k_steps
  · unfold Stop
    rename (_, _) = C.T (_ * 1) => hA3
    have eq := hA.trans ((Cv.T_congr (G.idx3 (by assumption) (by assumption) (by assumption) (by assumption))).symm.trans hA3.symm)
    obtain ⟨q1, q2⟩ := Prod.mk.inj eq
    subst q1
    subst q2
    have mk : Marked := trivial
    k_steps)
end Mine

theorem PySem.Challenge.cw_af0013_01_holds : PySem.Challenge.rw_af0013_01.Holds := by
  exact Mine.main_walk

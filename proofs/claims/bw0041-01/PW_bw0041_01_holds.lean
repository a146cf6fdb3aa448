import PyProof.Rows.All
import Wide.All
import OpenK.AllK
import Wide.FinOn
import Lean
import PySem.Challenge.RW_bw0041_01
open PySem PySem.W PySem.Calls PyProof.Rows PySem.Spec
set_option Elab.async false
set_option maxRecDepth 100000
set_option maxHeartbeats 8000000
namespace Mine
open_top hd for PySem.Challenge.rw_bw0041_01
section

/-- what holds at a call inside the program, over a ledger `news` -/
def At (w : World) (dep : Nat) (news : List (Addr × Obj)) (P : Around → Heap → Addr → (Str → Option Value) → Shared → Prop) : Prop :=
  ∀ (p : Program) (loose : List Str) (mean : ExcName → Option Value) (mg mb : Str → Option Value) (dp un : Nat) (gd : Option (List Code)) (cn : Str) (cs : Scope) (a : Addr) (ccd : Value) (cl : List (Str × Addr)) (outer : List Env) (A₀ : Around) (base h₀ : Heap) (L : Addr) (m : Str → Option Value) (s : Shared),
    Below A₀ base outer h₀ → Fr h₀ L s.heap m → (Mine.hd.heap_39 w.params).In h₀ → News h₀ L s.heap news → Top p loose mean mg mb h₀ → cs.kind = .function → dp + dep < recursionLimit → un + 8 * dep < cLine →
    P (ktrTop dp un gd cn cs L a ccd cl outer) h₀ L m s
theorem At.use {w : World} {dep : Nat} {news : List (Addr × Obj)} {P : Around → Heap → Addr → (Str → Option Value) → Shared → Prop} {p : Program} {loose : List Str} {mean : ExcName → Option Value} {mg mb : Str → Option Value} {dp un : Nat} {gd : Option (List Code)} {cn : Str} {cs : Scope} {a : Addr} {ccd : Value} {cl : List (Str × Addr)} {outer : List Env} {A₀ : Around} {base h₀ : Heap} {L : Addr} {m : Str → Option Value} {s : Shared}
    (C : At w dep news P) (B : Below A₀ base outer h₀) (F : Fr h₀ L s.heap m) (K : (Mine.hd.heap_39 w.params).In h₀) (N : News h₀ L s.heap news) (T : Top p loose mean mg mb h₀) (hk : cs.kind = .function) (hd : dp + dep < recursionLimit) (hu : un + 8 * dep < cLine) :
    P (ktrTop dp un gd cn cs L a ccd cl outer) h₀ L m s := C _ _ _ _ _ _ _ _ _ _ _ _ _ _ _ _ _ _ _ _ B F K N T hk hd hu

abbrev tup2 (a b : Int) (ta tb : Tok) (n : Nat) : Obj := { cls := .type "tuple", data := .seq #[.int a ta, .int b tb] n }
abbrev tup3 (a b c : Int) (ta tb tc : Tok) (n : Nat) : Obj := { cls := .type "tuple", data := .seq #[.int a ta, .int b tb, .int c tc] n }
abbrev tup6 (a b c d e f : Int) (ta tb tc td te tf : Tok) (n : Nat) : Obj := { cls := .type "tuple", data := .seq #[.int a ta, .int b tb, .int c tc, .int d td, .int e te, .int f tf] n }

theorem subN {l : List (Addr × Obj)} : ∀ p ∈ l, p ∈ l := fun _ h => h
theorem subC {l l' : List (Addr × Obj)} {q : Addr × Obj} (h : ∀ p ∈ l, p ∈ l') : ∀ p ∈ l, p ∈ q :: l' := fun p hp => .tail _ (h p hp)

/-- an equation that omega does not look into -/
inductive Is {α : Type} : α → α → Prop
  | refl (a : α) : Is a a
section
variable {h₀ : Heap} {L : Addr} {m : Str → Option Value} {news news' : List (Addr × Obj)} {s : Shared} {Q : Value → Shared → Prop} {h' : Heap} {tk' : Nat}
def RetI (h₀ : Heap) (L : Addr) (m : Str → Option Value) (news : List (Addr × Obj)) (s : Shared) (Q : Value → Shared → Prop) (P r : Int) : Prop :=
  ∀ (v : Int) (t : Tok) (h' : Heap) (tk' : Nat), Is v r → (0 ≤ v ∧ v < P) → Fr h₀ L h' m → News h₀ L h' news → Q (.int v t) { s with heap := h', toks := tk' }
theorem endI {P r r' : Int} {t : Tok} (h : RetI h₀ L m news s Q P r) (F : Fr h₀ L h' m) (N : News h₀ L h' news') (hs : ∀ p ∈ news, p ∈ news') (e : r' = r) (hr : 0 ≤ r ∧ r < P) : Q (.int r' t) { s with heap := h', toks := tk' } := by
  subst e; exact h r' t h' tk' (.refl _) hr F (fun p hp => N p (hs p hp))
def RetB (h₀ : Heap) (L : Addr) (m : Str → Option Value) (news : List (Addr × Obj)) (s : Shared) (Q : Value → Shared → Prop) (r : Bool) : Prop :=
  ∀ (h' : Heap) (tk' : Nat), Fr h₀ L h' m → News h₀ L h' news → Q (.bool r) { s with heap := h', toks := tk' }
theorem endB {r r' : Bool} (h : RetB h₀ L m news s Q r) (F : Fr h₀ L h' m) (N : News h₀ L h' news') (hs : ∀ p ∈ news, p ∈ news') (e : r' = r) : Q (.bool r') { s with heap := h', toks := tk' } := by
  subst e; exact h h' tk' F (fun p hp => N p (hs p hp))
abbrev In2 (P : Int) (r : Int × Int) : Prop := (0 ≤ r.1 ∧ r.1 < P) ∧ 0 ≤ r.2 ∧ r.2 < P
abbrev In3 (P : Int) (r : Int × Int × Int) : Prop := (0 ≤ r.1 ∧ r.1 < P) ∧ (0 ≤ r.2.1 ∧ r.2.1 < P) ∧ 0 ≤ r.2.2 ∧ r.2.2 < P
def RetT2 (h₀ : Heap) (L : Addr) (m : Str → Option Value) (news : List (Addr × Obj)) (s : Shared) (Q : Value → Shared → Prop) (P : Int) (r : Int × Int) : Prop :=
  ∀ (a b : Int) (D : Addr) (t0 t1 : Tok) (n : Nat) (h' : Heap) (tk' : Nat), Is a r.1 → Is b r.2 → (0 ≤ a ∧ a < P) → (0 ≤ b ∧ b < P) → Fr h₀ L h' m → News h₀ L h' ((D, tup2 a b t0 t1 n) :: news) → Q (.ref D) { s with heap := h', toks := tk' }
theorem endT2 {P : Int} {r : Int × Int} {a b : Int} {D : Addr} {t0 t1 : Tok} {n : Nat} (h : RetT2 h₀ L m news s Q P r) (F : Fr h₀ L h' m) (N : News h₀ L h' news') (hm : (D, tup2 a b t0 t1 n) ∈ news') (hs : ∀ p ∈ news, p ∈ news') (e : (a, b) = r) (hr : In2 P r) :
    Q (.ref D) { s with heap := h', toks := tk' } := by
  subst e
  refine h a b D t0 t1 n h' tk' (.refl _) (.refl _) hr.1 hr.2 F fun p hp => ?_
  rcases List.mem_cons.mp hp with rfl | hp
  · exact N _ hm
  · exact N p (hs p hp)
def RetT3 (h₀ : Heap) (L : Addr) (m : Str → Option Value) (news : List (Addr × Obj)) (s : Shared) (Q : Value → Shared → Prop) (P : Int) (r : Int × Int × Int) : Prop :=
  ∀ (a b c : Int) (D : Addr) (t0 t1 t2 : Tok) (n : Nat) (h' : Heap) (tk' : Nat), Is a r.1 → Is b r.2.1 → Is c r.2.2 → (0 ≤ a ∧ a < P) → (0 ≤ b ∧ b < P) → (0 ≤ c ∧ c < P) → Fr h₀ L h' m → News h₀ L h' ((D, tup3 a b c t0 t1 t2 n) :: news) → Q (.ref D) { s with heap := h', toks := tk' }
theorem endT3 {P : Int} {r : Int × Int × Int} {a b c : Int} {D : Addr} {t0 t1 t2 : Tok} {n : Nat} (h : RetT3 h₀ L m news s Q P r) (F : Fr h₀ L h' m) (N : News h₀ L h' news') (hm : (D, tup3 a b c t0 t1 t2 n) ∈ news') (hs : ∀ p ∈ news, p ∈ news') (e : (a, b, c) = r) (hr : In3 P r) :
    Q (.ref D) { s with heap := h', toks := tk' } := by
  subst e
  refine h a b c D t0 t1 t2 n h' tk' (.refl _) (.refl _) (.refl _) hr.1 hr.2.1 hr.2.2 F fun p hp => ?_
  rcases List.mem_cons.mp hp with rfl | hp
  · exact N _ hm
  · exact N p (hs p hp)
end

theorem fmod_bd {a n : Int} (hn : 0 < n) : 0 ≤ a.fmod n ∧ a.fmod n < n := ⟨Int.fmod_nonneg_of_pos a hn, Int.fmod_lt_of_pos a hn⟩

/-! sizes: a bound on what a product is made of -/
def Sm (k : Nat) (a : Int) : Prop := a.natAbs ≤ k
theorem sm_at {a : Int} (h1 : -1000 ≤ a) (h2 : a ≤ 1000) : Sm 1000 a := by unfold Sm; omega
theorem sm_fmod {a n : Int} (h0 : 0 < n) (h1 : n ≤ 1000) : Sm 1000 (a.fmod n) := by have := fmod_bd (a := a) h0; unfold Sm; omega
theorem sm_add {a b : Int} {k l : Nat} (h1 : Sm k a) (h2 : Sm l b) : Sm (k + l) (a + b) := by unfold Sm at *; omega
theorem sm_sub {a b : Int} {k l : Nat} (h1 : Sm k a) (h2 : Sm l b) : Sm (k + l) (a - b) := by unfold Sm at *; omega
theorem sm_neg {a : Int} {k : Nat} (h1 : Sm k a) : Sm k (-a) := by unfold Sm at *; omega
theorem sm_mul {a b : Int} {k l : Nat} (h1 : Sm k a) (h2 : Sm l b) : Sm (k * l) (a * b) := by unfold Sm at *; rw [Int.natAbs_mul]; exact Nat.mul_le_mul h1 h2
theorem sm_bits {a : Int} {k : Nat} (h : Sm k a) (hk : k ≤ 10 ^ 18) : Builtin.Int.intBits a ≤ 64 := by
  unfold Sm at h; exact PySem.intBits_le_64 (by omega) (by omega)
theorem sm_py {x a : Int} {k : Nat} (h : Sm k a) (hk : k ≤ 10 ^ 9) : Builtin.divisionGoesByPylong x a = false := by
  unfold Sm at h; exact PyProof.noPylong_small (by omega)
theorem sm_abs {a : Int} {k : Nat} (h : Sm k a) (hk : k ≤ 10 ^ 18) : a.natAbs < 2 ^ 64 := by
  unfold Sm at h; omega

theorem mod_gen {prog : Program} {w : World} {A : Around} {E : Value → Shared → Prop} {s : Shared} {a b : Int} {t u : Tok} {Q : Value → Shared → Prop} (hb : 0 < b)
    (h : ∀ v : Int, Is v (a.fmod b) → (0 ≤ v ∧ v < b) → Q (.int v s.toks) { s with toks := s.toks + 1 }) : wpAny (model prog w) A (binaryOp .Mod (.int a t) (.int b u)) Q E s :=
  mod_int' (by omega) (h _ (.refl _) (fmod_bd hb))
theorem imod_gen {prog : Program} {w : World} {A : Around} {E : Value → Shared → Prop} {s : Shared} {a b : Int} {t u : Tok} {Q : Value → Shared → Prop} (hb : 0 < b)
    (h : ∀ v : Int, Is v (a.fmod b) → (0 ≤ v ∧ v < b) → Q (.int v s.toks) { s with toks := s.toks + 1 }) : wpAny (model prog w) A (inplaceOp .Mod (.int a t) (.int b u)) Q E s :=
  imod_int (by omega) (h _ (.refl _) (fmod_bd hb))
theorem mod_lit {prog : Program} {w : World} {A : Around} {E : Value → Shared → Prop} {s : Shared} {a b : Int} {t u : Tok} {Q : Value → Shared → Prop} (_ : a = a) (hb : b ≠ 0)
    (h : Q (.int (a.fmod b) s.toks) { s with toks := s.toks + 1 }) : wpAny (model prog w) A (binaryOp .Mod (.int a t) (.int b u)) Q E s := mod_int' hb h
theorem isn_int {prog : Program} {w : World} {A : Around} {E : Value → Shared → Prop} {s : Shared} {K : Frag} {C : Addr} {a : Int} {t : Tok} {Q : Value → Shared → Prop} (X : K.In s.heap) (e : isNotIn K "int" C = true)
    (h : Q (.bool false) { s with toks := s.toks + 1 }) : wpAny (model prog w) A (call (.builtin "isinstance") [.int a t, .ref C]) Q E s :=
  isn_call (P := fun _ => True) X (fun _ => Looks.of_pure rfl) e (fun e => by cases e) trivial int_cls h
end
local macro_rules | `(tactic| kwd_inv) => `(tactic| first
  | exact sm_fmod (by omega) (by omega)
  | (refine' sm_sub ?smc ?smd; (case smc => kwd_inv); (case smd => kwd_inv))
  | (refine' sm_add ?smc ?smd; (case smc => kwd_inv); (case smd => kwd_inv))
  | (refine' sm_mul ?smc ?smd; (case smc => kwd_inv); (case smd => kwd_inv))
  | (refine' sm_neg ?smc; (case smc => kwd_inv))
  | exact sm_at (by omega) (by omega))
local macro_rules | `(tactic| mul_fits) => `(tactic| first
  | (refine' IntMulOk.of_right (sm_bits ?smk ?sml); (case smk => kwd_inv); (case sml => decide))
  | (refine' IntMulOk.of_left (sm_bits ?smk ?sml); (case smk => kwd_inv); (case sml => decide)))
local macro_rules | `(tactic| walk_at "binaryOp Pow int int") => `(tactic| (k_here; refine' pow_int_small ?k1 ?k2 (sm_abs ?k3 ?k4) ?_; (case k1 => decide); (case k2 => decide); (case k3 => kwd_inv); (case k4 => decide)))
local macro_rules | `(tactic| walk_at "binaryOp Mod int int") => `(tactic| (k_here; first | (refine' mod_lit ?ka ?kb ?_; (case ka => decide); (case kb => decide)) | (refine' mod_gen ?kb ?_; (case kb => omega); intro _ _ _)))
local macro_rules | `(tactic| walk_at "inplaceOp Mod int int") => `(tactic| (k_here; refine' imod_gen ?kb ?_; (case kb => omega); intro _ _ _))
local macro_rules | `(tactic| walk_at "binaryOp FloorDiv int int") => `(tactic| (k_here; refine' floordiv_int ?kb ?_ (hp := Or.inl (sm_py ?kc ?kd)); (case kb => omega); (case kc => kwd_inv); (case kd => decide)))
local macro_rules | `(tactic| mem_news) => `(tactic| first | exact List.Mem.head _ | (refine List.mem_cons_of_mem _ ?_; mem_news) | with_reducible assumption | ktr_member)
local macro_rules | `(tactic| k_mem) => `(tactic| mem_news)
local macro_rules | `(tactic| kwd_less) => `(tactic| repeat (cases ‹Is _ _›))
local macro_rules | `(tactic| kcf_all) => `(tactic| repeat (first | exact subN | refine subC ?_))
local macro_rules | `(tactic| walk_at "subscriptTail Name Constant ref int") => `(tactic| (k_here; k_dflt (refine' item_tupleT ?t ?a ?b ?c ?d ?_; (case t => exact News.isTup (by k_asm) (by k_mem)); (case a => decide); (case b => decide); (case c => rfl); (case d => rfl); k_whole)))
local macro_rules | `(tactic| walk_at "eval Name") => `(tactic| (k_here; goal_lacks envOfC; k_dflt (first
  | (refine' ld ?k1 ?k2 ?_ rfl rfl ?k3; (case k1 => k_asm); (case k2 => exact rfl); (case k3 => rfl); k_whole)
  | (refine' name_K ?k1 ?k2 ?k3 ?k4 ?_ rfl rfl ?k5; (case k1 => k_asm); (case k2 => k_asm); (case k3 => k_asm); (case k4 => k_is); (case k5 => rfl); k_whole)
  | (refine' name_B ?k1 ?k2 ?k3 ?k4 ?k5 ?k6 ?_ rfl rfl ?k7; (case k1 => k_asm); (case k2 => k_asm); (case k3 => k_asm); (case k4 => k_is); (case k5 => boot_fast); (case k6 => decide); (case k7 => rfl); k_whole))))
local macro_rules | `(tactic| walk_at "call builtin:isinstance") => `(tactic| (k_here; k_dflt (first
  | with_reducible refine call_isinstance_yes (typeIs_int _ _ _) meta_int sub_int_int ?_
  | ((with_reducible show wpAny _ _ (call _ [Value.int _ _, Value.ref _]) _ _ _); (refine' isn_int ?k1 ?k3 ?_; (case k1 => k_in); (case k3 => k_not); k_whole))
  | ((with_reducible show wpAny _ _ (call _ [Value.ref _, Value.ref _]) _ _ _); (refine' isi_call ?k1 ?k2 ?k3 ?k4 ?_; (case k1 => k_in); (case k2 => k_types); (case k3 => k_is); (case k4 => intro e; cases e); k_whole)))))
local macro_rules | `(tactic| walk_at "eval Call") => `(tactic| (k_here; k_dflt (refine Call_ ?_)))
local macro_rules | `(tactic| walk_at "getMethod ref") => `(tactic| (k_here; k_dflt (refine' method_inst ?k1 ?k2 ?k3 ?k4 ?k5 ?k6 ?k7 ?_; (case k1 => k_asm); (case k2 => k_asm); (case k3 => k_inst); (case k4 => k_is); (case k5 => k_is); (case k6 => k_is); (case k7 => k_get); k_whole)))
local macro_rules | `(tactic| walk_at "getAttr ref") => `(tactic| (k_here; k_dflt (refine' get_own ?k1 ?k2 ?k3 ?k4 ?k5 ?k6 ?k7 ?k8 ?k9 ?_; (case k1 => k_asm); (case k2 => k_asm); (case k3 => k_inst); (case k4 => k_is); (case k5 => k_is); (case k6 => k_is); (case k7 => k_is); (case k8 => k_get); (case k9 => k_handed); k_whole)))
local macro_rules | `(tactic| walk_at "binaryOp Add ref ref") => `(tactic| (k_here; k_dflt (refine' binop_K ?k1 ?k2 ?k3 ?k4 ?k5 ?k6 ?k7 ?_; (case k1 => k_asm); (case k2 => k_asm); (case k3 => k_inst); (case k4 => k_typeOf); (case k5 => k_is); (case k6 => k_is); (case k7 => k_is); k_whole)))
local macro_rules | `(tactic| walk_at "binaryOp Sub ref ref") => `(tactic| (k_here; k_dflt (refine' binop_K ?k1 ?k2 ?k3 ?k4 ?k5 ?k6 ?k7 ?_; (case k1 => k_asm); (case k2 => k_asm); (case k3 => k_inst); (case k4 => k_typeOf); (case k5 => k_is); (case k6 => k_is); (case k7 => k_is); k_whole)))
local macro_rules | `(tactic| walk_at "binaryOp Mult ref ref") => `(tactic| (k_here; k_dflt (refine' binop_K ?k1 ?k2 ?k3 ?k4 ?k5 ?k6 ?k7 ?_; (case k1 => k_asm); (case k2 => k_asm); (case k3 => k_inst); (case k4 => k_typeOf); (case k5 => k_is); (case k6 => k_is); (case k7 => k_is); k_whole)))
local macro_rules | `(tactic| walk_at "binaryOp Div ref ref") => `(tactic| (k_here; k_dflt (refine' binop_K ?k1 ?k2 ?k3 ?k4 ?k5 ?k6 ?k7 ?_; (case k1 => k_asm); (case k2 => k_asm); (case k3 => k_inst); (case k4 => k_typeOf); (case k5 => k_is); (case k6 => k_is); (case k7 => k_is); k_whole)))
local macro_rules | `(tactic| walk_at "compareOp Eq ref ref") => `(tactic| (k_here; (refine cmp_ofEq ?_); k_dflt (refine' cmp_K ?k1 ?k2 ?k3 ?k4 ?k5 ?k6 ?k7 ?k8 ?_; (case k1 => ktr_units); (case k2 => k_asm); (case k3 => k_asm); (case k4 => k_inst); (case k5 => k_typeOf); (case k6 => k_is); (case k7 => k_is); (case k8 => k_is); k_whole)))
local macro_rules | `(tactic| walk_at "call ref") => `(tactic| (k_here; kct_strs))
local macro_rules | `(tactic| k_in) => `(tactic| (refine' Frag.In.keeps ?kix (Fr.keep ?kif); (case kif => with_reducible assumption); (case kix => with_reducible assumption)))
local macro_rules | `(tactic| ktr_room) => `(tactic| first | ((try simp only [depth_under_make, depth_under_kw, depth_in1, depth_deeper, depth_caller]); decide) | ((try simp only [depth_under_make, depth_under_kw, depth_in1, depth_deeper, depth_caller]); (try dsimp only [ktrTop]); omega))
local macro_rules | `(tactic| ktr_units) => `(tactic| first | ((try simp only [units_in1, units_deeper, Around.mark_units, units_caller]); decide) | ((have hcL9 := cLine_is); (try simp only [units_in1, units_deeper, Around.mark_units, units_caller]); (try dsimp only [ktrTop]); omega))
section
def egc : Nat → Int → Int → Int → Int → Int
  | 0, lm, _, _, _ => lm
  | k+1, lm, low, hm, high => if 1 < low then egc k (hm - lm * high.fdiv low) (high - low * high.fdiv low) lm low else lm
def invF (a n : Int) : Int := if a = 0 then 0 else (egc (a.fmod n).toNat 1 (a.fmod n) 0 n).fmod n
theorem invF_in {a n : Int} (hn : 1 < n) : 0 ≤ invF a n ∧ invF a n < n := by
  unfold invF; split
  · omega
  · exact fmod_bd (by omega)

structure InvI (a n lm low hm high : Int) : Prop where
  l0 : 0 ≤ low
  lh : low < high
  hh : high ≤ 1000
  ex : ∃ k : Nat, low.toNat ≤ k ∧ egc k lm low hm high = egc (a.fmod n).toNat 1 (a.fmod n) 0 n
theorem InvI.start {a n v : Int} (hn : 1 < n) (hn' : n ≤ 1000) (hv : Is v (a.fmod n)) : InvI a n 1 v 0 n := by
  cases hv; exact
  ⟨(fmod_bd (by omega)).1, (fmod_bd (by omega)).2, hn', _, Nat.le_refl _, rfl⟩
theorem fdiv_eqn (high low : Int) : high - low * high.fdiv low = high.fmod low := by
  have := Int.fmod_add_mul_fdiv high low; omega
theorem InvI.step {a n lm low hm high : Int} (I : InvI a n lm low hm high) (h : 1 < low) : InvI a n (hm - lm * high.fdiv low) (high - low * high.fdiv low) lm low := by
  have hb := fmod_bd (a := high) (n := low) (by omega)
  obtain ⟨k, hk, e⟩ := I.ex
  refine ⟨by rw [fdiv_eqn]; exact hb.1, by rw [fdiv_eqn]; exact hb.2, by have := I.lh; have := I.hh; omega, ?_⟩
  cases k with
  | zero => omega
  | succ k =>
    refine ⟨k, by rw [fdiv_eqn]; omega, ?_⟩
    rw [← e, egc, if_pos h]
theorem InvI.stop {a n lm low hm high : Int} (I : InvI a n lm low hm high) (h : ¬ 1 < low) : lm.fmod n = (egc (a.fmod n).toNat 1 (a.fmod n) 0 n).fmod n := by
  obtain ⟨k, hk, e⟩ := I.ex
  rw [← e]
  cases k with
  | zero => rfl
  | succ k => rw [egc, if_neg h]
theorem InvI.less {a n lm low hm high : Int} (_ : InvI a n lm low hm high) (h : 1 < low) : (high - low * high.fdiv low).toNat < low.toNat := by
  have hb := fmod_bd (a := high) (n := low) (by omega)
  rw [fdiv_eqn]; omega
theorem InvI.bits {a n lm low hm high : Int} (I : InvI a n lm low hm high) (h : 1 < low) : Sm 1000 (high.fdiv low) := by
  have h0 : 0 ≤ high.fdiv low := Int.fdiv_nonneg (by have := I.lh; omega) (by omega)
  have h1 : high.fdiv low ≤ high := by
    have := fdiv_eqn high low
    have hb := fmod_bd (a := high) (n := low) (by omega)
    have h2 : 1 * high.fdiv low ≤ low * high.fdiv low := Int.mul_le_mul_of_nonneg_right (by omega) h0
    omega
  have := I.hh
  exact sm_at (by omega) (by omega)
theorem InvI.lowS {a n lm low hm high : Int} (I : InvI a n lm low hm high) : Sm 1000 low := by
  have := I.l0; have := I.lh; have := I.hh
  exact sm_at (by omega) (by omega)
local macro_rules | `(tactic| kwd_inv) => `(tactic| first | exact InvI.bits (by assumption) (by assumption) | exact InvI.lowS (by assumption))
theorem c_inv {w : World} {a n : Int} {ta tn : Tok} {news : List (Addr × Obj)} (hn : 1 < n) (hn' : n ≤ 1000) :
    At w 1 news fun A h₀ L m s => ∀ (Q E : Value → Shared → Prop), RetI h₀ L m news s Q n (invF a n) →
      wpAny (model PySem.Challenge.rw_bw0041_01.row.prog w) A (call (.ref 28) [.int a ta, .int n tn]) Q E s := by
  unfold At
  w_top off
  k_fill
  intro p loose mean mg mb dp un gd cn cs fa ccd cl outer A₀ base h₀ L m s B F KX N T hk hd hu Q E hret
  k_with "state" => first | exact InvI.start (by assumption) (by assumption) (by assumption) | exact InvI.step (by assumption) (by assumption)
  k_with "measure" => exact InvI.less (by assumption) (by assumption)
  k_with "exec While Compare cons nil" => k_while (fun _ lm low hm high => InvI a n lm low hm high) (fun _ _ low _ _ => low.toNat) "lm" "low" "hm" "high"
  refine wpAny_call ?_
  k_dflt (refine' code_def ?k1 ?k2 ?k3 ?k4 ?k5 ?kA ?kF ?kK ?k6 ?k7 ?k8 ?k9 ?kB ?_ ?c2 ?c3 ?c4 ?c5; (case kA => exact rfl); (case kF => exact rfl); (case kK => first | exact rfl | assumption); (case k1 => k_asm); (case k2 => k_asm); (case k3 => k_asm); (case k4 => k_asm); (case k5 => k_asm); (case k6 => k_is); (case k7 => k_is); (case k8 => ktr_room); (case k9 => exact BindsTo.of_eq rfl); (case c5 => decide); (case kB => exact locs rfl); (case c2 => exact rfl); (case c3 => exact rfl); (case c4 => exact rfl); k_whole; intro g' L' h' FG' F' N' B' X' T'; (try (replace F' : Fr _ _ _ (fun y => List.lookup y [(Str.ofString "n", _), (Str.ofString "a", _)]) := F')); (try dsimp only); (try k_lift B'); (try k_fold))
  k_steps
  all_goals (refine' endI (h' := _) (tk' := _) hret ?F ?N ?s ?e (invF_in hn); (case F => assumption); (case N => assumption); (case s => kcf_all); (case e => (kwd_less; unfold invF; first | rw [if_pos (by assumption)] | (rw [if_neg (by assumption)]; exact InvI.stop (by assumption) (by assumption)))))
  k_with_none
local macro_rules | `(tactic| kct_strs) => `(tactic| (k_here; (with_reducible show wpAny _ _ (call (Value.ref 28) _) _ _ _); k_dflt (refine' (At.use (c_inv ?ch0 ?ch1) ?kB ?kF ?kK ?kN ?kT ?kk ?kd ?ku) _ _ ?_; (case kB => k_asm); (case kF => k_asm); (case kK => k_asm); (case kN => k_asm); (case kT => k_asm); (case kk => first | exact rfl | assumption); (case ch0 => omega); (case ch1 => omega); (case kd => ktr_room); (case ku => ktr_units); intro _ _ _ _ _ _ _ _; skip); (all_goals (try dsimp only [PySem.W.CmpBack, PySem.W.InitBack, PySem.W.BoolBack, PySem.W.LenBack, PySem.W.StrBack])); (all_goals (try k_fold))))
end
local macro_rules | `(tactic| kct_strs) => `(tactic| (k_here; (with_reducible show wpAny _ _ (call (Value.ref 28) _) _ _ _); k_dflt (refine' (At.use (c_inv ?ch0 ?ch1) ?kB ?kF ?kK ?kN ?kT ?kk ?kd ?ku) _ _ ?_; (case kB => k_asm); (case kF => k_asm); (case kK => k_asm); (case kN => k_asm); (case kT => k_asm); (case kk => first | exact rfl | assumption); (case ch0 => omega); (case ch1 => omega); (case kd => ktr_room); (case ku => ktr_units); intro _ _ _ _ _ _ _ _; skip); (all_goals (try dsimp only [PySem.W.CmpBack, PySem.W.InitBack, PySem.W.BoolBack, PySem.W.LenBack, PySem.W.StrBack])); (all_goals (try k_fold))))
section
def jdbl (P A X Y Z : Int) : Int × Int × Int :=
  if Y = 0 then (0, 0, 0) else
    let ysq := (Y ^ 2).fmod P
    let S := (4 * X * ysq).fmod P
    let M := (3 * X ^ 2 + A * Z ^ 4).fmod P
    let nx := (M ^ 2 - 2 * S).fmod P
    (nx, (M * (S - nx) - 8 * ysq ^ 2).fmod P, (2 * Y * Z).fmod P)
theorem jdbl_in {P A X Y Z : Int} (hP : 1 < P) : In3 P (jdbl P A X Y Z) := by
  unfold jdbl; split
  · exact ⟨⟨by decide, by show (0 : Int) < P; omega⟩, ⟨by decide, by show (0 : Int) < P; omega⟩, by decide, by show (0 : Int) < P; omega⟩
  · exact ⟨fmod_bd (by omega), fmod_bd (by omega), fmod_bd (by omega)⟩
theorem c_jdbl {w : World} {P N' A B' gx gy X Y Z : Int} {t0 t1 t2 t3 t4 t5 u0 u1 u2 : Tok} {D C : Addr} {n n' : Nat} {news : List (Addr × Obj)}
    (hC : (C, tup6 P N' A B' gx gy t0 t1 t2 t3 t4 t5 n) ∈ news) (hD : (D, tup3 X Y Z u0 u1 u2 n') ∈ news) (hP : 1 < P) (hP' : P ≤ 1000) (hA : A = 0) (hX : 0 ≤ X ∧ X < P) (hY : 0 ≤ Y ∧ Y < P) (hZ : 0 ≤ Z ∧ Z < P) :
    At w 1 news fun Ar h₀ L m s => ∀ (Q E : Value → Shared → Prop), RetT3 h₀ L m news s Q P (jdbl P A X Y Z) →
      wpAny (model PySem.Challenge.rw_bw0041_01.row.prog w) Ar (call (.ref 42) [.ref D, .ref C]) Q E s := by
  unfold At
  w_top off
  k_fill
  intro p loose mean mg mb dp un gd cn cs fa ccd cl outer A₀ base h₀ L m s B F KX N T hk hd hu Q E hret
  refine wpAny_call ?_
  k_dflt (refine' code_def ?k1 ?k2 ?k3 ?k4 ?k5 ?kA ?kF ?kK ?k6 ?k7 ?k8 ?k9 ?kB ?_ ?c2 ?c3 ?c4 ?c5; (case kA => exact rfl); (case kF => exact rfl); (case kK => first | exact rfl | assumption); (case k1 => k_asm); (case k2 => k_asm); (case k3 => k_asm); (case k4 => k_asm); (case k5 => k_asm); (case k6 => k_is); (case k7 => k_is); (case k8 => ktr_room); (case k9 => exact BindsTo.of_eq rfl); (case c5 => decide); (case kB => exact locs rfl); (case c2 => exact rfl); (case c3 => exact rfl); (case c4 => exact rfl); k_whole; intro g' L' h' FG' F' N' B' X' T'; (try (replace F' : Fr _ _ _ (fun y => List.lookup y [(Str.ofString "curve", _), (Str.ofString "p", _)]) := F')); (try dsimp only); (try k_lift B'); (try k_fold))
  k_steps
  all_goals (refine' endT3 hret ?F ?N ?m ?s ?e (jdbl_in hP); (case F => assumption); (case N => assumption); (case m => k_mem); (case s => kcf_all); (case e => (kwd_less; unfold jdbl; first | rw [if_pos (by assumption)] | (rw [if_neg (by assumption)]; rfl))))
local macro_rules | `(tactic| kct_strs) => `(tactic| (k_here; (with_reducible show wpAny _ _ (call (Value.ref 42) _) _ _ _); k_dflt (refine' (At.use (c_jdbl ?ch0 ?ch1 ?ch2 ?ch3 ?ch4 ?ch5 ?ch6 ?ch7) ?kB ?kF ?kK ?kN ?kT ?kk ?kd ?ku) _ _ ?_; (case kB => k_asm); (case kF => k_asm); (case kK => k_asm); (case kN => k_asm); (case kT => k_asm); (case kk => first | exact rfl | assumption); (case ch0 => k_mem); (case ch1 => k_mem); (case ch2 => omega); (case ch3 => omega); (case ch4 => omega); (case ch5 => omega); (case ch6 => omega); (case ch7 => omega); (case kd => ktr_room); (case ku => ktr_units); intro _ _ _ _ _ _ _ _ _ _ _ _ _ _ _; skip); (all_goals (try dsimp only [PySem.W.CmpBack, PySem.W.InitBack, PySem.W.BoolBack, PySem.W.LenBack, PySem.W.StrBack])); (all_goals (try k_fold))))
end
local macro_rules | `(tactic| kct_strs) => `(tactic| (k_here; (with_reducible show wpAny _ _ (call (Value.ref 42) _) _ _ _); k_dflt (refine' (At.use (c_jdbl ?ch0 ?ch1 ?ch2 ?ch3 ?ch4 ?ch5 ?ch6 ?ch7) ?kB ?kF ?kK ?kN ?kT ?kk ?kd ?ku) _ _ ?_; (case kB => k_asm); (case kF => k_asm); (case kK => k_asm); (case kN => k_asm); (case kT => k_asm); (case kk => first | exact rfl | assumption); (case ch0 => k_mem); (case ch1 => k_mem); (case ch2 => omega); (case ch3 => omega); (case ch4 => omega); (case ch5 => omega); (case ch6 => omega); (case ch7 => omega); (case kd => ktr_room); (case ku => ktr_units); intro _ _ _ _ _ _ _ _ _ _ _ _ _ _ _; skip); (all_goals (try dsimp only [PySem.W.CmpBack, PySem.W.InitBack, PySem.W.BoolBack, PySem.W.LenBack, PySem.W.StrBack])); (all_goals (try k_fold))))
section
def jadd (P A X1 Y1 Z1 X2 Y2 Z2 : Int) : Int × Int × Int :=
  if Y1 = 0 then (X2, Y2, Z2) else if Y2 = 0 then (X1, Y1, Z1) else
    let U1 := (X1 * Z2 ^ 2).fmod P
    let U2 := (X2 * Z1 ^ 2).fmod P
    let S1 := (Y1 * Z2 ^ 3).fmod P
    let S2 := (Y2 * Z1 ^ 3).fmod P
    if U1 = U2 then (if S1 = S2 then jdbl P A X1 Y1 Z1 else (0, 0, 1)) else
      let H := U2 - U1
      let R := S2 - S1
      let H2 := (H * H).fmod P
      let H3 := (H * H2).fmod P
      let U1H2 := (U1 * H2).fmod P
      let nx := (R ^ 2 - H3 - 2 * U1H2).fmod P
      (nx, (R * (U1H2 - nx) - S1 * H3).fmod P, (H * Z1 * Z2).fmod P)
theorem jadd_in {P A X1 Y1 Z1 X2 Y2 Z2 : Int} (hP : 1 < P) (h1 : In3 P (X1, Y1, Z1)) (h2 : In3 P (X2, Y2, Z2)) : In3 P (jadd P A X1 Y1 Z1 X2 Y2 Z2) := by
  unfold jadd
  split
  · exact h2
  split
  · exact h1
  dsimp only
  split
  · split
    · exact jdbl_in hP
    · exact ⟨⟨by decide, by show (0 : Int) < P; omega⟩, ⟨by decide, by show (0 : Int) < P; omega⟩, by decide, by show (1 : Int) < P; omega⟩
  · exact ⟨fmod_bd (by omega), fmod_bd (by omega), fmod_bd (by omega)⟩
theorem c_jadd {w : World} {P N' A B' gx gy X1 Y1 Z1 X2 Y2 Z2 : Int} {t0 t1 t2 t3 t4 t5 u0 u1 u2 v0 v1 v2 : Tok} {D1 D2 C : Addr} {n n' n'' : Nat} {news : List (Addr × Obj)}
    (hC : (C, tup6 P N' A B' gx gy t0 t1 t2 t3 t4 t5 n) ∈ news) (hD1 : (D1, tup3 X1 Y1 Z1 u0 u1 u2 n') ∈ news) (hD2 : (D2, tup3 X2 Y2 Z2 v0 v1 v2 n'') ∈ news) (hP : 1 < P) (hP' : P ≤ 1000) (hA : A = 0)
    (hX1 : 0 ≤ X1 ∧ X1 < P) (hY1 : 0 ≤ Y1 ∧ Y1 < P) (hZ1 : 0 ≤ Z1 ∧ Z1 < P) (hX2 : 0 ≤ X2 ∧ X2 < P) (hY2 : 0 ≤ Y2 ∧ Y2 < P) (hZ2 : 0 ≤ Z2 ∧ Z2 < P) :
    At w 2 news fun Ar h₀ L m s => ∀ (Q E : Value → Shared → Prop), RetT3 h₀ L m news s Q P (jadd P A X1 Y1 Z1 X2 Y2 Z2) →
      wpAny (model PySem.Challenge.rw_bw0041_01.row.prog w) Ar (call (.ref 49) [.ref D1, .ref D2, .ref C]) Q E s := by
  unfold At
  w_top off
  k_fill
  intro p loose mean mg mb dp un gd cn cs fa ccd cl outer A₀ base h₀ L m s B F KX N T hk hd hu Q E hret
  refine wpAny_call ?_
  k_dflt (refine' code_def ?k1 ?k2 ?k3 ?k4 ?k5 ?kA ?kF ?kK ?k6 ?k7 ?k8 ?k9 ?kB ?_ ?c2 ?c3 ?c4 ?c5; (case kA => exact rfl); (case kF => exact rfl); (case kK => first | exact rfl | assumption); (case k1 => k_asm); (case k2 => k_asm); (case k3 => k_asm); (case k4 => k_asm); (case k5 => k_asm); (case k6 => k_is); (case k7 => k_is); (case k8 => ktr_room); (case k9 => exact BindsTo.of_eq rfl); (case c5 => decide); (case kB => exact locs rfl); (case c2 => exact rfl); (case c3 => exact rfl); (case c4 => exact rfl); k_whole; intro g' L' h' FG' F' N' B' X' T'; (try (replace F' : Fr _ _ _ (fun y => List.lookup y [(Str.ofString "curve", _), (Str.ofString "q", _), (Str.ofString "p", _)]) := F')); (try dsimp only); (try k_lift B'); (try k_fold))
  k_steps
  all_goals (refine' endT3 (h' := _) (tk' := _) hret ?F ?N ?m ?s ?e (jadd_in hP ⟨hX1, hY1, hZ1⟩ ⟨hX2, hY2, hZ2⟩); (case F => assumption); (case N => assumption); (case m => k_mem); (case s => kcf_all); (case e => (kwd_less; unfold jadd; (try dsimp only); (repeat' split) <;> first | rfl | contradiction)))
local macro_rules | `(tactic| kct_strs) => `(tactic| (k_here; (with_reducible show wpAny _ _ (call (Value.ref 49) _) _ _ _); k_dflt (refine' (At.use (c_jadd ?ch0 ?ch1 ?ch2 ?ch3 ?ch4 ?ch5 ?ch6 ?ch7 ?ch8 ?ch9 ?ch10 ?ch11) ?kB ?kF ?kK ?kN ?kT ?kk ?kd ?ku) _ _ ?_; (case kB => k_asm); (case kF => k_asm); (case kK => k_asm); (case kN => k_asm); (case kT => k_asm); (case kk => first | exact rfl | assumption); (case ch0 => k_mem); (case ch1 => k_mem); (case ch2 => k_mem); (case ch3 => omega); (case ch4 => omega); (case ch5 => omega); (case ch6 => omega); (case ch7 => omega); (case ch8 => omega); (case ch9 => omega); (case ch10 => omega); (case ch11 => omega); (case kd => ktr_room); (case ku => ktr_units); intro _ _ _ _ _ _ _ _ _ _ _ _ _ _ _; skip); (all_goals (try dsimp only [PySem.W.CmpBack, PySem.W.InitBack, PySem.W.BoolBack, PySem.W.LenBack, PySem.W.StrBack])); (all_goals (try k_fold))))
end
local macro_rules | `(tactic| kct_strs) => `(tactic| (k_here; (with_reducible show wpAny _ _ (call (Value.ref 49) _) _ _ _); k_dflt (refine' (At.use (c_jadd ?ch0 ?ch1 ?ch2 ?ch3 ?ch4 ?ch5 ?ch6 ?ch7 ?ch8 ?ch9 ?ch10 ?ch11) ?kB ?kF ?kK ?kN ?kT ?kk ?kd ?ku) _ _ ?_; (case kB => k_asm); (case kF => k_asm); (case kK => k_asm); (case kN => k_asm); (case kT => k_asm); (case kk => first | exact rfl | assumption); (case ch0 => k_mem); (case ch1 => k_mem); (case ch2 => k_mem); (case ch3 => omega); (case ch4 => omega); (case ch5 => omega); (case ch6 => omega); (case ch7 => omega); (case ch8 => omega); (case ch9 => omega); (case ch10 => omega); (case ch11 => omega); (case kd => ktr_room); (case ku => ktr_units); intro _ _ _ _ _ _ _ _ _ _ _ _ _ _ _; skip); (all_goals (try dsimp only [PySem.W.CmpBack, PySem.W.InitBack, PySem.W.BoolBack, PySem.W.LenBack, PySem.W.StrBack])); (all_goals (try k_fold))))
section
def fromj (P X Y Z : Int) : Int × Int := ((X * invF Z P ^ 2).fmod P, (Y * invF Z P ^ 3).fmod P)
theorem fromj_in {P X Y Z : Int} (hP : 1 < P) : In2 P (fromj P X Y Z) := ⟨fmod_bd (by omega), fmod_bd (by omega)⟩
theorem c_fromj {w : World} {P N' A B' gx gy X Y Z : Int} {t0 t1 t2 t3 t4 t5 u0 u1 u2 : Tok} {D C : Addr} {n n' : Nat} {news : List (Addr × Obj)}
    (hC : (C, tup6 P N' A B' gx gy t0 t1 t2 t3 t4 t5 n) ∈ news) (hD : (D, tup3 X Y Z u0 u1 u2 n') ∈ news) (hP : 1 < P) (hP' : P ≤ 1000) (hX : 0 ≤ X ∧ X < P) (hY : 0 ≤ Y ∧ Y < P) (hZ : 0 ≤ Z ∧ Z < P) :
    At w 2 news fun Ar h₀ L m s => ∀ (Q E : Value → Shared → Prop), RetT2 h₀ L m news s Q P (fromj P X Y Z) →
      wpAny (model PySem.Challenge.rw_bw0041_01.row.prog w) Ar (call (.ref 56) [.ref D, .ref C]) Q E s := by
  unfold At
  w_top off
  k_fill
  intro p loose mean mg mb dp un gd cn cs fa ccd cl outer A₀ base h₀ L m s B F KX N T hk hd hu Q E hret
  refine wpAny_call ?_
  k_dflt (refine' code_def ?k1 ?k2 ?k3 ?k4 ?k5 ?kA ?kF ?kK ?k6 ?k7 ?k8 ?k9 ?kB ?_ ?c2 ?c3 ?c4 ?c5; (case kA => exact rfl); (case kF => exact rfl); (case kK => first | exact rfl | assumption); (case k1 => k_asm); (case k2 => k_asm); (case k3 => k_asm); (case k4 => k_asm); (case k5 => k_asm); (case k6 => k_is); (case k7 => k_is); (case k8 => ktr_room); (case k9 => exact BindsTo.of_eq rfl); (case c5 => decide); (case kB => exact locs rfl); (case c2 => exact rfl); (case c3 => exact rfl); (case c4 => exact rfl); k_whole; intro g' L' h' FG' F' N' B' X' T'; (try (replace F' : Fr _ _ _ (fun y => List.lookup y [(Str.ofString "curve", _), (Str.ofString "p", _)]) := F')); (try dsimp only); (try k_lift B'); (try k_fold))
  k_steps
  all_goals (refine' endT2 (h' := _) (tk' := _) hret ?F ?N ?m ?s ?e (fromj_in hP); (case F => assumption); (case N => assumption); (case m => k_mem); (case s => kcf_all); (case e => (kwd_less; rfl)))
local macro_rules | `(tactic| kct_strs) => `(tactic| (k_here; (with_reducible show wpAny _ _ (call (Value.ref 56) _) _ _ _); k_dflt (refine' (At.use (c_fromj ?ch0 ?ch1 ?ch2 ?ch3 ?ch4 ?ch5 ?ch6) ?kB ?kF ?kK ?kN ?kT ?kk ?kd ?ku) _ _ ?_; (case kB => k_asm); (case kF => k_asm); (case kK => k_asm); (case kN => k_asm); (case kT => k_asm); (case kk => first | exact rfl | assumption); (case ch0 => k_mem); (case ch1 => k_mem); (case ch2 => omega); (case ch3 => omega); (case ch4 => omega); (case ch5 => omega); (case ch6 => omega); (case kd => ktr_room); (case ku => ktr_units); intro _ _ _ _ _ _ _ _ _ _ _ _; skip); (all_goals (try dsimp only [PySem.W.CmpBack, PySem.W.InitBack, PySem.W.BoolBack, PySem.W.LenBack, PySem.W.StrBack])); (all_goals (try k_fold))))

def jmul (P N A X Y Z : Int) : Nat → Int → Int × Int × Int
  | 0, _ => (0, 0, 1)
  | k + 1, n => if Y = 0 ∨ n = 0 then (0, 0, 1) else if n = 1 then (X, Y, Z) else if n < 0 ∨ n ≥ N then jmul P N A X Y Z k (n.fmod N) else
      let r := jmul P N A X Y Z k (n.fdiv 2)
      let d := jdbl P A r.1 r.2.1 r.2.2
      if n.fmod 2 = 0 then d else jadd P A d.1 d.2.1 d.2.2 X Y Z
theorem jmul_succ (P N A X Y Z : Int) (k : Nat) (n : Int) : jmul P N A X Y Z (k + 1) n = if Y = 0 ∨ n = 0 then (0, 0, 1) else if n = 1 then (X, Y, Z) else if n < 0 ∨ n ≥ N then jmul P N A X Y Z k (n.fmod N) else
      if n.fmod 2 = 0 then jdbl P A (jmul P N A X Y Z k (n.fdiv 2)).1 (jmul P N A X Y Z k (n.fdiv 2)).2.1 (jmul P N A X Y Z k (n.fdiv 2)).2.2
      else jadd P A (jdbl P A (jmul P N A X Y Z k (n.fdiv 2)).1 (jmul P N A X Y Z k (n.fdiv 2)).2.1 (jmul P N A X Y Z k (n.fdiv 2)).2.2).1 (jdbl P A (jmul P N A X Y Z k (n.fdiv 2)).1 (jmul P N A X Y Z k (n.fdiv 2)).2.1 (jmul P N A X Y Z k (n.fdiv 2)).2.2).2.1 (jdbl P A (jmul P N A X Y Z k (n.fdiv 2)).1 (jmul P N A X Y Z k (n.fdiv 2)).2.1 (jmul P N A X Y Z k (n.fdiv 2)).2.2).2.2 X Y Z := rfl
section
variable {P N A X Y Z : Int} {k : Nat} {n : Int}
theorem jmul_s0 (h : Y = 0 ∨ n = 0) : (0, 0, 1) = jmul P N A X Y Z (k + 1) n := by rw [jmul_succ, if_pos h]
theorem jmul_s1 (h0 : Y ≠ 0) (h : n = 1) : (X, Y, Z) = jmul P N A X Y Z (k + 1) n := by rw [jmul_succ, if_neg (by omega), if_pos h]
theorem jmul_s2 (h0 : Y ≠ 0) (h1 : n ≠ 0) (h2 : n ≠ 1) (h : n < 0 ∨ n ≥ N) : jmul P N A X Y Z k (n.fmod N) = jmul P N A X Y Z (k + 1) n := by rw [jmul_succ, if_neg (by omega), if_neg h2, if_pos h]
theorem jmul_s3 (h0 : Y ≠ 0) (h1 : n ≠ 0) (h2 : n ≠ 1) (h3 : ¬ (n < 0 ∨ n ≥ N)) (h : n.fmod 2 = 0) :
    jdbl P A (jmul P N A X Y Z k (n.fdiv 2)).1 (jmul P N A X Y Z k (n.fdiv 2)).2.1 (jmul P N A X Y Z k (n.fdiv 2)).2.2 = jmul P N A X Y Z (k + 1) n := by rw [jmul_succ, if_neg (by omega), if_neg h2, if_neg h3, if_pos h]
theorem jmul_s4 (h0 : Y ≠ 0) (h1 : n ≠ 0) (h2 : n ≠ 1) (h3 : ¬ (n < 0 ∨ n ≥ N)) (h : n.fmod 2 ≠ 0) :
    jadd P A (jdbl P A (jmul P N A X Y Z k (n.fdiv 2)).1 (jmul P N A X Y Z k (n.fdiv 2)).2.1 (jmul P N A X Y Z k (n.fdiv 2)).2.2).1 (jdbl P A (jmul P N A X Y Z k (n.fdiv 2)).1 (jmul P N A X Y Z k (n.fdiv 2)).2.1 (jmul P N A X Y Z k (n.fdiv 2)).2.2).2.1 (jdbl P A (jmul P N A X Y Z k (n.fdiv 2)).1 (jmul P N A X Y Z k (n.fdiv 2)).2.1 (jmul P N A X Y Z k (n.fdiv 2)).2.2).2.2 X Y Z = jmul P N A X Y Z (k + 1) n := by rw [jmul_succ, if_neg (by omega), if_neg h2, if_neg h3, if_neg h]
end
theorem jmul_in {P N A X Y Z : Int} (hP : 1 < P) (h : In3 P (X, Y, Z)) : ∀ k n, In3 P (jmul P N A X Y Z k n) := by
  intro k
  have h0 : In3 P (0, 0, 1) := ⟨⟨by decide, by show (0 : Int) < P; omega⟩, ⟨by decide, by show (0 : Int) < P; omega⟩, by decide, by show (1 : Int) < P; omega⟩
  induction k with
  | zero => intro n; exact h0
  | succ k ih =>
    intro n
    unfold jmul
    split
    · exact h0
    split
    · exact h
    split
    · exact ih _
    dsimp only
    split
    · exact jdbl_in hP
    · exact jadd_in hP (jdbl_in hP) h
def MulOk (N : Int) (k : Nat) (n : Int) : Prop := 0 ≤ n ∧ ((n < N ∧ n < 2 ^ k) ∨ (1 ≤ k ∧ N ≤ 2 ^ (k - 1)))
theorem MulOk.zero {N n : Int} (h : MulOk N 0 n) : n = 0 := by
  obtain ⟨h0, h | h⟩ := h
  · have := h.2; simp at this; omega
  · omega
theorem MulOk.half {N n : Int} {k : Nat} (h : MulOk N (k + 1) n) (hN : n < N) : MulOk N k (n.fdiv 2) := by
  obtain ⟨h0, h⟩ := h
  have e : n.fdiv 2 = n / 2 := Int.fdiv_eq_ediv_of_nonneg n (by decide)
  have h2 : (2 : Int) ^ (k + 1) = 2 ^ k * 2 := Int.pow_succ 2 k
  rw [e]
  refine ⟨by omega, .inl ⟨by omega, ?_⟩⟩
  rcases h with h | ⟨_, h⟩
  · have := h.2; omega
  · simp only [Nat.add_sub_cancel] at h; omega
theorem MulOk.rest {N n v : Int} {k : Nat} (h : MulOk N (k + 1) n) (hN : ¬ n < N) (hp : 0 < N) (hv : Is v (n.fmod N)) : MulOk N k v := by
  cases hv
  obtain ⟨h0, h | ⟨_, h⟩⟩ := h
  · exact absurd h.1 hN
  · have := fmod_bd (a := n) hp
    simp only [Nat.add_sub_cancel] at h
    exact ⟨this.1, .inl ⟨this.2, by omega⟩⟩
theorem fmod_two (n : Int) : n.fmod 2 = 0 ∨ n.fmod 2 = 1 := by have := fmod_bd (a := n) (n := 2) (by decide); omega

theorem c_jmul {w : World} {P N' A B' gx gy X Y Z : Int} {t0 t1 t2 t3 t4 t5 u0 u1 u2 : Tok} {D C : Addr} {e e' : Nat} (hP : 1 < P) (hP' : P ≤ 1000) (hA : A = 0) (hN : 0 < N') (hN' : N' ≤ 1000) (hX : 0 ≤ X ∧ X < P) (hY : 0 ≤ Y ∧ Y < P) (hZ : 0 ≤ Z ∧ Z < P) :
    ∀ (k : Nat) {n : Int} {tn : Tok} {news : List (Addr × Obj)} (_ : (C, tup6 P N' A B' gx gy t0 t1 t2 t3 t4 t5 e) ∈ news) (_ : (D, tup3 X Y Z u0 u1 u2 e') ∈ news) (_ : MulOk N' k n),
    At w (k + 3) news fun Ar h₀ L m s => ∀ (Q E : Value → Shared → Prop), RetT3 h₀ L m news s Q P (jmul P N' A X Y Z k n) →
      wpAny (model PySem.Challenge.rw_bw0041_01.row.prog w) Ar (call (.ref 63) [.ref D, .int n tn, .ref C]) Q E s := by
  intro k
  induction k with
  | zero =>
    intro n tn news hC hD hn
    obtain rfl := hn.zero
    unfold At
    w_top off
    k_fill
    intro p loose mean mg mb dp un gd cn cs fa ccd cl outer A₀ base h₀ L m s B F KX N T hk hd hu Q E hret
    refine wpAny_call ?_
    k_dflt (refine' code_def ?k1 ?k2 ?k3 ?k4 ?k5 ?kA ?kF ?kK ?k6 ?k7 ?k8 ?k9 ?kB ?_ ?c2 ?c3 ?c4 ?c5; (case kA => exact rfl); (case kF => exact rfl); (case kK => first | exact rfl | assumption); (case k1 => k_asm); (case k2 => k_asm); (case k3 => k_asm); (case k4 => k_asm); (case k5 => k_asm); (case k6 => k_is); (case k7 => k_is); (case k8 => ktr_room); (case k9 => exact BindsTo.of_eq rfl); (case c5 => decide); (case kB => exact locs rfl); (case c2 => exact rfl); (case c3 => exact rfl); (case c4 => exact rfl); k_whole; intro g' L' h' FG' F' N' B' X' T'; (try (replace F' : Fr _ _ _ (fun y => List.lookup y [(Str.ofString "curve", _), (Str.ofString "n", _), (Str.ofString "a", _)]) := F')); (try dsimp only); (try k_lift B'); (try k_fold))
    k_steps
    all_goals (refine' endT3 (h' := _) (tk' := _) hret ?F ?N ?m ?s ?e ?i; (case F => assumption); (case N => assumption); (case m => k_mem); (case s => kcf_all); (case e => (kwd_less; rfl)); (case i => exact jmul_in hP ⟨hX, hY, hZ⟩ 0 0))
  | succ k ih =>
    intro n tn news hC hD hn
    have hn0 := hn.1
    have hb := jmul_in (P := P) (N := N') (A := A) hP ⟨hX, hY, hZ⟩ (k + 1) n
    unfold At
    w_top off
    k_fill
    intro p loose mean mg mb dp un gd cn cs fa ccd cl outer A₀ base h₀ L m s B F KX N T hk hd hu Q E hret
    k_with "call ref" => ((with_reducible show wpAny _ _ (call (Value.ref 63) _) _ _ _); k_dflt (refine' (At.use (ih ?ch0 ?ch1 ?ch2) ?kB ?kF ?kK ?kN ?kT ?kk ?kd ?ku) _ _ ?_; (case kB => k_asm); (case kF => k_asm); (case kK => k_asm); (case kN => k_asm); (case kT => k_asm); (case kk => first | exact rfl | assumption); (case ch0 => k_mem); (case ch1 => k_mem); (case ch2 => first | exact MulOk.half hn (by omega) | exact MulOk.rest hn (by omega) (by omega) (by assumption)); (case kd => ktr_room); (case ku => ktr_units)); (intro _ _ _ _ _ _ _ _ _ _ _ _ _ _ _); (try dsimp only); (try k_fold))
    refine wpAny_call ?_
    k_dflt (refine' code_def ?k1 ?k2 ?k3 ?k4 ?k5 ?kA ?kF ?kK ?k6 ?k7 ?k8 ?k9 ?kB ?_ ?c2 ?c3 ?c4 ?c5; (case kA => exact rfl); (case kF => exact rfl); (case kK => first | exact rfl | assumption); (case k1 => k_asm); (case k2 => k_asm); (case k3 => k_asm); (case k4 => k_asm); (case k5 => k_asm); (case k6 => k_is); (case k7 => k_is); (case k8 => ktr_room); (case k9 => exact BindsTo.of_eq rfl); (case c5 => decide); (case kB => exact locs rfl); (case c2 => exact rfl); (case c3 => exact rfl); (case c4 => exact rfl); k_whole; intro g' L' h' FG' F' N' B' X' T'; (try (replace F' : Fr _ _ _ (fun y => List.lookup y [(Str.ofString "curve", _), (Str.ofString "n", _), (Str.ofString "a", _)]) := F')); (try dsimp only); (try k_lift B'); (try k_fold))
    k_steps
    all_goals first
      | (refine' endT3 (h' := _) (tk' := _) hret ?F ?N ?m ?s ?e hb; (case F => assumption); (case N => assumption); (case m => k_mem); (case s => kcf_all); (case e => kwd_less; first | exact jmul_s0 (by omega) | exact jmul_s1 (by omega) (by omega) | exact jmul_s2 (by omega) (by omega) (by omega) (by omega) | exact jmul_s3 (by omega) (by omega) (by omega) (by omega) (by assumption) | exact jmul_s4 (by omega) (by omega) (by omega) (by omega) (by assumption)))
      | (exfalso; kwd_less; omega)
theorem c_jmul9 {w : World} {P N' A B' gx gy X Y Z : Int} {t0 t1 t2 t3 t4 t5 u0 u1 u2 : Tok} {D C : Addr} {e e' : Nat} {n : Int} {tn : Tok} {news : List (Addr × Obj)} (hC : (C, tup6 P N' A B' gx gy t0 t1 t2 t3 t4 t5 e) ∈ news) (hD : (D, tup3 X Y Z u0 u1 u2 e') ∈ news) (h : MulOk N' 9 n)
    (hP : 1 < P) (hP' : P ≤ 1000) (hA : A = 0) (hN : 0 < N') (hN' : N' ≤ 1000) (hX : 0 ≤ X ∧ X < P) (hY : 0 ≤ Y ∧ Y < P) (hZ : 0 ≤ Z ∧ Z < P) :
    At w 12 news fun Ar h₀ L m s => ∀ (Q E : Value → Shared → Prop), RetT3 h₀ L m news s Q P (jmul P N' A X Y Z 9 n) →
      wpAny (model PySem.Challenge.rw_bw0041_01.row.prog w) Ar (call (.ref 63) [.ref D, .int n tn, .ref C]) Q E s := c_jmul hP hP' hA hN hN' hX hY hZ 9 hC hD h
local macro_rules | `(tactic| kct_strs) => `(tactic| (k_here; (with_reducible show wpAny _ _ (call (Value.ref 63) _) _ _ _); k_dflt (refine' (At.use (c_jmul9 ?ch0 ?ch1 ?ch2 ?ch3 ?ch4 ?ch5 ?ch6 ?ch7 ?ch8 ?ch9 ?ch10) ?kB ?kF ?kK ?kN ?kT ?kk ?kd ?ku) _ _ ?_; (case kB => k_asm); (case kF => k_asm); (case kK => k_asm); (case kN => k_asm); (case kT => k_asm); (case kk => first | exact rfl | assumption); (case ch0 => k_mem); (case ch1 => k_mem); (case ch2 => assumption); (case ch3 => omega); (case ch4 => omega); (case ch5 => omega); (case ch6 => omega); (case ch7 => omega); (case ch8 => omega); (case ch9 => omega); (case ch10 => omega); (case kd => ktr_room); (case ku => ktr_units); intro _ _ _ _ _ _ _ _ _ _ _ _ _ _ _; skip); (all_goals (try dsimp only [PySem.W.CmpBack, PySem.W.InitBack, PySem.W.BoolBack, PySem.W.LenBack, PySem.W.StrBack])); (all_goals (try k_fold))))
end
local macro_rules | `(tactic| kct_strs) => `(tactic| (k_here; (with_reducible show wpAny _ _ (call (Value.ref 56) _) _ _ _); k_dflt (refine' (At.use (c_fromj ?ch0 ?ch1 ?ch2 ?ch3 ?ch4 ?ch5 ?ch6) ?kB ?kF ?kK ?kN ?kT ?kk ?kd ?ku) _ _ ?_; (case kB => k_asm); (case kF => k_asm); (case kK => k_asm); (case kN => k_asm); (case kT => k_asm); (case kk => first | exact rfl | assumption); (case ch0 => k_mem); (case ch1 => k_mem); (case ch2 => omega); (case ch3 => omega); (case ch4 => omega); (case ch5 => omega); (case ch6 => omega); (case kd => ktr_room); (case ku => ktr_units); intro _ _ _ _ _ _ _ _ _ _ _ _; skip); (all_goals (try dsimp only [PySem.W.CmpBack, PySem.W.InitBack, PySem.W.BoolBack, PySem.W.LenBack, PySem.W.StrBack])); (all_goals (try k_fold))))
local macro_rules | `(tactic| kct_strs) => `(tactic| (k_here; (with_reducible show wpAny _ _ (call (Value.ref 63) _) _ _ _); k_dflt (refine' (At.use (c_jmul9 ?ch0 ?ch1 ?ch2 ?ch3 ?ch4 ?ch5 ?ch6 ?ch7 ?ch8 ?ch9 ?ch10) ?kB ?kF ?kK ?kN ?kT ?kk ?kd ?ku) _ _ ?_; (case kB => k_asm); (case kF => k_asm); (case kK => k_asm); (case kN => k_asm); (case kT => k_asm); (case kk => first | exact rfl | assumption); (case ch0 => k_mem); (case ch1 => k_mem); (case ch2 => assumption); (case ch3 => omega); (case ch4 => omega); (case ch5 => omega); (case ch6 => omega); (case ch7 => omega); (case ch8 => omega); (case ch9 => omega); (case ch10 => omega); (case kd => ktr_room); (case ku => ktr_units); intro _ _ _ _ _ _ _ _ _ _ _ _ _ _ _; skip); (all_goals (try dsimp only [PySem.W.CmpBack, PySem.W.InitBack, PySem.W.BoolBack, PySem.W.LenBack, PySem.W.StrBack])); (all_goals (try k_fold))))
section
local macro_rules | `(tactic| kct_strs) => `(tactic| (k_here; (with_reducible show wpAny _ _ (call (Value.ref 35) _) _ _ _); refine wpAny_call ?_; k_dflt (refine' code_def ?k1 ?k2 ?k3 ?k4 ?k5 ?kA ?kF ?kK ?k6 ?k7 ?k8 ?k9 ?kB ?_ ?c2 ?c3 ?c4 ?c5; (case kA => exact rfl); (case kF => exact rfl); (case kK => first | exact rfl | assumption); (case k1 => k_asm); (case k2 => k_asm); (case k3 => k_asm); (case k4 => k_asm); (case k5 => k_asm); (case k6 => k_is); (case k7 => k_is); (case k8 => ktr_room); (case k9 => exact BindsTo.of_eq rfl); (case c5 => decide); (case kB => exact locs rfl); (case c2 => exact rfl); (case c3 => exact rfl); (case c4 => exact rfl); k_whole; intro g' L' h' FG' F' N' B' X' T'; (try (replace F' : Fr _ _ _ (fun y => List.lookup y [(Str.ofString "p", _)]) := F')); (try dsimp only); (try k_lift B'); (try k_fold))))
def smul (P N A x y n : Int) : Int × Int := fromj P (jmul P N A x y 1 9 n).1 (jmul P N A x y 1 9 n).2.1 (jmul P N A x y 1 9 n).2.2
def sadd (P A x1 y1 x2 y2 : Int) : Int × Int := fromj P (jadd P A x1 y1 1 x2 y2 1).1 (jadd P A x1 y1 1 x2 y2 1).2.1 (jadd P A x1 y1 1 x2 y2 1).2.2
theorem mulOk9 {N n : Int} (h : 0 ≤ n) (hN : N ≤ 200) : MulOk N 9 n := ⟨h, .inr ⟨by decide, by show N ≤ 256; omega⟩⟩
theorem c_smul {w : World} {P N' A B' gx gy x y n : Int} {t0 t1 t2 t3 t4 t5 u0 u1 tn : Tok} {D C : Addr} {e e' : Nat} {news : List (Addr × Obj)}
    (hC : (C, tup6 P N' A B' gx gy t0 t1 t2 t3 t4 t5 e) ∈ news) (hD : (D, tup2 x y u0 u1 e') ∈ news) (hP : 1 < P) (hP' : P ≤ 1000) (hA : A = 0) (hN : 0 < N') (hN' : N' ≤ 200) (hX : 0 ≤ x ∧ x < P) (hY : 0 ≤ y ∧ y < P) (hn : 0 ≤ n) :
    At w 14 news fun Ar h₀ L m s => ∀ (Q E : Value → Shared → Prop), RetT2 h₀ L m news s Q P (smul P N' A x y n) →
      wpAny (model PySem.Challenge.rw_bw0041_01.row.prog w) Ar (call (.ref 70) [.ref D, .int n tn, .ref C]) Q E s := by
  have h9 := mulOk9 hn hN'
  unfold At
  w_top off
  k_fill
  intro p loose mean mg mb dp un gd cn cs fa ccd cl outer A₀ base h₀ L m s B F KX N T hk hd hu Q E hret
  refine wpAny_call ?_
  k_dflt (refine' code_def ?k1 ?k2 ?k3 ?k4 ?k5 ?kA ?kF ?kK ?k6 ?k7 ?k8 ?k9 ?kB ?_ ?c2 ?c3 ?c4 ?c5; (case kA => exact rfl); (case kF => exact rfl); (case kK => first | exact rfl | assumption); (case k1 => k_asm); (case k2 => k_asm); (case k3 => k_asm); (case k4 => k_asm); (case k5 => k_asm); (case k6 => k_is); (case k7 => k_is); (case k8 => ktr_room); (case k9 => exact BindsTo.of_eq rfl); (case c5 => decide); (case kB => exact locs rfl); (case c2 => exact rfl); (case c3 => exact rfl); (case c4 => exact rfl); k_whole; intro g' L' h' FG' F' N' B' X' T'; (try (replace F' : Fr _ _ _ (fun y => List.lookup y [(Str.ofString "curve", _), (Str.ofString "n", _), (Str.ofString "a", _)]) := F')); (try dsimp only); (try k_lift B'); (try k_fold))
  k_steps
  all_goals (refine' endT2 (h' := _) (tk' := _) hret ?F ?N ?m ?s ?e (fromj_in hP); (case F => assumption); (case N => assumption); (case m => k_mem); (case s => kcf_all); (case e => (kwd_less; rfl)))
local macro_rules | `(tactic| kct_strs) => `(tactic| (k_here; (with_reducible show wpAny _ _ (call (Value.ref 70) _) _ _ _); k_dflt (refine' (At.use (c_smul ?ch0 ?ch1 ?ch2 ?ch3 ?ch4 ?ch5 ?ch6 ?ch7 ?ch8 ?ch9) ?kB ?kF ?kK ?kN ?kT ?kk ?kd ?ku) _ _ ?_; (case kB => k_asm); (case kF => k_asm); (case kK => k_asm); (case kN => k_asm); (case kT => k_asm); (case kk => first | exact rfl | assumption); (case ch0 => k_mem); (case ch1 => k_mem); (case ch2 => omega); (case ch3 => omega); (case ch4 => omega); (case ch5 => omega); (case ch6 => omega); (case ch7 => omega); (case ch8 => omega); (case ch9 => omega); (case kd => ktr_room); (case ku => ktr_units); intro _ _ _ _ _ _ _ _ _ _ _ _; skip); (all_goals (try dsimp only [PySem.W.CmpBack, PySem.W.InitBack, PySem.W.BoolBack, PySem.W.LenBack, PySem.W.StrBack])); (all_goals (try k_fold))))
theorem c_sadd {w : World} {P N' A B' gx gy x1 y1 x2 y2 : Int} {t0 t1 t2 t3 t4 t5 u0 u1 v0 v1 : Tok} {D1 D2 C : Addr} {e e' e'' : Nat} {news : List (Addr × Obj)}
    (hC : (C, tup6 P N' A B' gx gy t0 t1 t2 t3 t4 t5 e) ∈ news) (hD1 : (D1, tup2 x1 y1 u0 u1 e') ∈ news) (hD2 : (D2, tup2 x2 y2 v0 v1 e'') ∈ news) (hP : 1 < P) (hP' : P ≤ 1000) (hA : A = 0) (hX1 : 0 ≤ x1 ∧ x1 < P) (hY1 : 0 ≤ y1 ∧ y1 < P) (hX2 : 0 ≤ x2 ∧ x2 < P) (hY2 : 0 ≤ y2 ∧ y2 < P) :
    At w 14 news fun Ar h₀ L m s => ∀ (Q E : Value → Shared → Prop), RetT2 h₀ L m news s Q P (sadd P A x1 y1 x2 y2) →
      wpAny (model PySem.Challenge.rw_bw0041_01.row.prog w) Ar (call (.ref 77) [.ref D1, .ref D2, .ref C]) Q E s := by
  unfold At
  w_top off
  k_fill
  intro p loose mean mg mb dp un gd cn cs fa ccd cl outer A₀ base h₀ L m s B F KX N T hk hd hu Q E hret
  refine wpAny_call ?_
  k_dflt (refine' code_def ?k1 ?k2 ?k3 ?k4 ?k5 ?kA ?kF ?kK ?k6 ?k7 ?k8 ?k9 ?kB ?_ ?c2 ?c3 ?c4 ?c5; (case kA => exact rfl); (case kF => exact rfl); (case kK => first | exact rfl | assumption); (case k1 => k_asm); (case k2 => k_asm); (case k3 => k_asm); (case k4 => k_asm); (case k5 => k_asm); (case k6 => k_is); (case k7 => k_is); (case k8 => ktr_room); (case k9 => exact BindsTo.of_eq rfl); (case c5 => decide); (case kB => exact locs rfl); (case c2 => exact rfl); (case c3 => exact rfl); (case c4 => exact rfl); k_whole; intro g' L' h' FG' F' N' B' X' T'; (try (replace F' : Fr _ _ _ (fun y => List.lookup y [(Str.ofString "curve", _), (Str.ofString "b", _), (Str.ofString "a", _)]) := F')); (try dsimp only); (try k_lift B'); (try k_fold))
  k_steps
  all_goals (refine' endT2 (h' := _) (tk' := _) hret ?F ?N ?m ?s ?e (fromj_in hP); (case F => assumption); (case N => assumption); (case m => k_mem); (case s => kcf_all); (case e => (kwd_less; rfl)))
local macro_rules | `(tactic| kct_strs) => `(tactic| (k_here; (with_reducible show wpAny _ _ (call (Value.ref 77) _) _ _ _); k_dflt (refine' (At.use (c_sadd ?ch0 ?ch1 ?ch2 ?ch3 ?ch4 ?ch5 ?ch6 ?ch7 ?ch8 ?ch9) ?kB ?kF ?kK ?kN ?kT ?kk ?kd ?ku) _ _ ?_; (case kB => k_asm); (case kF => k_asm); (case kK => k_asm); (case kN => k_asm); (case kT => k_asm); (case kk => first | exact rfl | assumption); (case ch0 => k_mem); (case ch1 => k_mem); (case ch2 => k_mem); (case ch3 => omega); (case ch4 => omega); (case ch5 => omega); (case ch6 => omega); (case ch7 => omega); (case ch8 => omega); (case ch9 => omega); (case kd => ktr_room); (case ku => ktr_units); intro _ _ _ _ _ _ _ _ _ _ _ _; skip); (all_goals (try dsimp only [PySem.W.CmpBack, PySem.W.InitBack, PySem.W.BoolBack, PySem.W.LenBack, PySem.W.StrBack])); (all_goals (try k_fold))))
end
local macro_rules | `(tactic| kct_strs) => `(tactic| (k_here; (with_reducible show wpAny _ _ (call (Value.ref 35) _) _ _ _); refine wpAny_call ?_; k_dflt (refine' code_def ?k1 ?k2 ?k3 ?k4 ?k5 ?kA ?kF ?kK ?k6 ?k7 ?k8 ?k9 ?kB ?_ ?c2 ?c3 ?c4 ?c5; (case kA => exact rfl); (case kF => exact rfl); (case kK => first | exact rfl | assumption); (case k1 => k_asm); (case k2 => k_asm); (case k3 => k_asm); (case k4 => k_asm); (case k5 => k_asm); (case k6 => k_is); (case k7 => k_is); (case k8 => ktr_room); (case k9 => exact BindsTo.of_eq rfl); (case c5 => decide); (case kB => exact locs rfl); (case c2 => exact rfl); (case c3 => exact rfl); (case c4 => exact rfl); k_whole; intro g' L' h' FG' F' N' B' X' T'; (try (replace F' : Fr _ _ _ (fun y => List.lookup y [(Str.ofString "p", _)]) := F')); (try dsimp only); (try k_lift B'); (try k_fold))))
local macro_rules | `(tactic| kct_strs) => `(tactic| (k_here; (with_reducible show wpAny _ _ (call (Value.ref 70) _) _ _ _); k_dflt (refine' (At.use (c_smul ?ch0 ?ch1 ?ch2 ?ch3 ?ch4 ?ch5 ?ch6 ?ch7 ?ch8 ?ch9) ?kB ?kF ?kK ?kN ?kT ?kk ?kd ?ku) _ _ ?_; (case kB => k_asm); (case kF => k_asm); (case kK => k_asm); (case kN => k_asm); (case kT => k_asm); (case kk => first | exact rfl | assumption); (case ch0 => k_mem); (case ch1 => k_mem); (case ch2 => omega); (case ch3 => omega); (case ch4 => omega); (case ch5 => omega); (case ch6 => omega); (case ch7 => omega); (case ch8 => omega); (case ch9 => omega); (case kd => ktr_room); (case ku => ktr_units); intro _ _ _ _ _ _ _ _ _ _ _ _; skip); (all_goals (try dsimp only [PySem.W.CmpBack, PySem.W.InitBack, PySem.W.BoolBack, PySem.W.LenBack, PySem.W.StrBack])); (all_goals (try k_fold))))
local macro_rules | `(tactic| kct_strs) => `(tactic| (k_here; (with_reducible show wpAny _ _ (call (Value.ref 77) _) _ _ _); k_dflt (refine' (At.use (c_sadd ?ch0 ?ch1 ?ch2 ?ch3 ?ch4 ?ch5 ?ch6 ?ch7 ?ch8 ?ch9) ?kB ?kF ?kK ?kN ?kT ?kk ?kd ?ku) _ _ ?_; (case kB => k_asm); (case kF => k_asm); (case kK => k_asm); (case kN => k_asm); (case kT => k_asm); (case kk => first | exact rfl | assumption); (case ch0 => k_mem); (case ch1 => k_mem); (case ch2 => k_mem); (case ch3 => omega); (case ch4 => omega); (case ch5 => omega); (case ch6 => omega); (case ch7 => omega); (case ch8 => omega); (case ch9 => omega); (case kd => ktr_room); (case ku => ktr_units); intro _ _ _ _ _ _ _ _ _ _ _ _; skip); (all_goals (try dsimp only [PySem.W.CmpBack, PySem.W.InitBack, PySem.W.BoolBack, PySem.W.LenBack, PySem.W.StrBack])); (all_goals (try k_fold))))
section
theorem ff {a n : Int} (hn : 0 < n) : (a.fmod n).fmod n = a.fmod n := by
  have h := fmod_bd (a := a) hn
  rw [Int.fmod_eq_emod_of_nonneg _ (by omega)]
  exact Int.emod_eq_of_lt h.1 h.2
abbrev fqd (p n h1 h2 : Int) (k1 t1 k2 t2 : Tok) (e : Nat) : Obj := dictOf [⟨h1, .str (Str.ofString "field_modulus") k1, .int p t1⟩, ⟨h2, .str (Str.ofString "n") k2, .int n t2⟩] e
section
variable {h₀ : Heap} {L : Addr} {m : Str → Option Value} {news news' : List (Addr × Obj)} {s : Shared} {Q : Value → Shared → Prop} {h' : Heap} {tk' : Nat}
def RetFQ (C : Addr) (h₀ : Heap) (L : Addr) (m : Str → Option Value) (news : List (Addr × Obj)) (s : Shared) (Q : Value → Shared → Prop) (p r : Int) : Prop :=
  ∀ (v : Int) (x dx : Addr) (h1 h2 : Int) (k1 t1 k2 t2 : Tok) (e : Nat) (h' : Heap) (tk' : Nat), Is v r → (0 ≤ v ∧ v < p) → Fr h₀ L h' m → News h₀ L h' ((x, instObj C dx) :: (dx, fqd p v h1 h2 k1 t1 k2 t2 e) :: news) → Q (.ref x) { s with heap := h', toks := tk' }
theorem endFQ {C : Addr} {p r r' : Int} {x dx : Addr} {h1 h2 : Int} {k1 t1 k2 t2 : Tok} {e : Nat} (h : RetFQ C h₀ L m news s Q p r) (F : Fr h₀ L h' m) (N : News h₀ L h' news') (hm : (x, instObj C dx) ∈ news') (hm' : (dx, fqd p r' h1 h2 k1 t1 k2 t2 e) ∈ news') (hs : ∀ p ∈ news, p ∈ news') (he : r' = r) (hr : 0 ≤ r ∧ r < p) :
    Q (.ref x) { s with heap := h', toks := tk' } := by
  subst he
  refine h r' x dx h1 h2 k1 t1 k2 t2 e h' tk' (.refl _) hr F fun q hq => ?_
  rcases List.mem_cons.mp hq with rfl | hq
  · exact N _ hm
  rcases List.mem_cons.mp hq with rfl | hq
  · exact N _ hm'
  · exact N q (hs q hq)
end
local macro_rules | `(tactic| k_all) => `(tactic| first | exact fun p hp => Nat.ne_of_lt (ktn_ltOf (by assumption) p hp) | exact fun p hp => Nat.ne_of_lt ((‹∀ p ∈ _, p.1 < _›) p hp))
local macro_rules | `(tactic| kct_strs) => `(tactic| (k_here; (with_reducible show wpAny _ _ (call (Value.ref 255) _) _ _ _); k_dflt (refine' call_cls ?j1 ?j2 ?j3 ?j4 ?j5 ?j6 ?_; (case j1 => k_asm); (case j2 => k_asm); (case j3 => k_asm); (case j4 => k_is); (case j5 => k_is); (case j6 => k_is); k_whole; intro x' d' h' F' N' l1 l2; (try k_lt l1); (try k_lt2 l2); (try k_sweep); refine' code_def ?k1 ?k2 ?k3 ?k4 ?k5 ?kA ?kF ?kK ?k6 ?k7 ?k8 ?k9 ?kB ?_ ?c2 ?c3 ?c4 ?c5; (case kA => exact rfl); (case kF => exact rfl); (case kK => first | exact rfl | assumption); (case k1 => k_asm); (case k2 => k_asm); (case k3 => k_asm); (case k4 => k_asm); (case k5 => k_asm); (case k6 => k_is); (case k7 => k_is); (case k8 => ktr_room); (case k9 => exact BindsTo.of_eq rfl); (case c5 => decide); (case kB => exact locs rfl); (case c2 => exact rfl); (case c3 => exact rfl); (case c4 => exact rfl); k_whole; intro g' L' h' FG' F' N' B' X' T'; (try (replace F' : Fr _ _ _ (fun y => List.lookup y [(Str.ofString "field_modulus", _), (Str.ofString "val", _), (Str.ofString "self", _)]) := F')); (try dsimp only); (try k_lift B'); (try k_fold))))
theorem f_made {w : World} {p a v : Int} {tv : Tok} {x dx : Addr} {h1 h2 : Int} {k1 t1 k2 t2 : Tok} {e : Nat} {news : List (Addr × Obj)}
    (hx : (x, instObj 255 dx) ∈ news) (hdx : (dx, fqd p a h1 h2 k1 t1 k2 t2 e) ∈ news) (hp : 1 < p) (hp' : p ≤ 1000) :
    At w 2 news fun Ar h₀ L m s => ∀ (Q E : Value → Shared → Prop), RetFQ 255 h₀ L m news s Q p (v.fmod p) →
      wpAny (model PySem.Challenge.rw_bw0041_01.row.prog w) Ar (call (.ref 238) [.ref x, .int v tv]) Q E s := by
  unfold At
  w_top off
  k_fill
  intro p' loose mean mg mb dp un gd cn cs fa ccd cl outer A₀ base h₀ L m s B F KX N T hk hd hu Q E hret
  refine wpAny_call ?_
  k_dflt (refine' code_def ?k1 ?k2 ?k3 ?k4 ?k5 ?kA ?kF ?kK ?k6 ?k7 ?k8 ?k9 ?kB ?_ ?c2 ?c3 ?c4 ?c5; (case kA => exact rfl); (case kF => exact rfl); (case kK => first | exact rfl | assumption); (case k1 => k_asm); (case k2 => k_asm); (case k3 => k_asm); (case k4 => k_asm); (case k5 => k_asm); (case k6 => k_is); (case k7 => k_is); (case k8 => ktr_room); (case k9 => exact BindsTo.of_eq rfl); (case c5 => decide); (case kB => exact locs rfl); (case c2 => exact rfl); (case c3 => exact rfl); (case c4 => exact rfl); k_whole; intro g' L' h' FG' F' N' B' X' T'; (try (replace F' : Fr _ _ _ (fun y => List.lookup y [(Str.ofString "val", _), (Str.ofString "self", _)]) := F')); (try dsimp only); (try k_lift B'); (try k_fold))
  k_steps
  all_goals (refine' endFQ (h' := _) (tk' := _) hret ?F ?N ?m ?m' ?s ?e ?r; (case F => assumption); (case N => assumption); (case m => k_mem); (case m' => k_mem); (case s => kcf_all); (case e => kwd_less; first | rfl | (simp only [ff (show 0 < p by omega)]; done)); (case r => exact fmod_bd (by omega)))
local macro_rules | `(tactic| kct_strs) => `(tactic| (k_here; (with_reducible show wpAny _ _ (call (Value.ref 238) _) _ _ _); k_dflt (refine' (At.use (f_made ?ch0 ?ch1 ?ch2 ?ch3) ?kB ?kF ?kK ?kN ?kT ?kk ?kd ?ku) _ _ ?_; (case kB => k_asm); (case kF => k_asm); (case kK => k_asm); (case kN => k_asm); (case kT => k_asm); (case kk => first | exact rfl | assumption); (case ch0 => k_mem); (case ch1 => k_mem); (case ch2 => omega); (case ch3 => omega); (case kd => ktr_room); (case ku => ktr_units); intro _ _ _ _ _ _ _ _ _ _ _ _ _ _ _ _; skip); (all_goals (try dsimp only [PySem.W.CmpBack, PySem.W.InitBack, PySem.W.BoolBack, PySem.W.LenBack, PySem.W.StrBack])); (all_goals (try k_fold))))
local macro_rules | `(tactic| kct_strs) => `(tactic| (k_here; (with_reducible show wpAny _ _ (call (Value.ref 140) _) _ _ _); refine wpAny_call ?_; k_dflt (refine' code_def ?k1 ?k2 ?k3 ?k4 ?k5 ?kA ?kF ?kK ?k6 ?k7 ?k8 ?k9 ?kB ?_ ?c2 ?c3 ?c4 ?c5; (case kA => exact rfl); (case kF => exact rfl); (case kK => first | exact rfl | assumption); (case k1 => k_asm); (case k2 => k_asm); (case k3 => k_asm); (case k4 => k_asm); (case k5 => k_asm); (case k6 => k_is); (case k7 => k_is); (case k8 => ktr_room); (case k9 => exact BindsTo.of_eq rfl); (case c5 => decide); (case kB => exact locs rfl); (case c2 => exact rfl); (case c3 => exact rfl); (case c4 => exact rfl); k_whole; intro g' L' h' FG' F' N' B' X' T'; (try (replace F' : Fr _ _ _ (fun y => List.lookup y [(Str.ofString "other", _), (Str.ofString "self", _)]) := F')); (try dsimp only); (try k_lift B'); (try k_fold))))
theorem f_mul {w : World} {p a b : Int} {x dx : Addr} {h1 h2 : Int} {k1 t1 k2 t2 : Tok} {e : Nat} {y dy : Addr} {g1 g2 : Int} {l1 u1 l2 u2 : Tok} {e' : Nat} {news : List (Addr × Obj)}
    (hx : (x, instObj 255 dx) ∈ news) (hdx : (dx, fqd p a h1 h2 k1 t1 k2 t2 e) ∈ news) (hy : (y, instObj 255 dy) ∈ news) (hdy : (dy, fqd p b g1 g2 l1 u1 l2 u2 e') ∈ news) (hp : 1 < p) (hp' : p ≤ 1000) (ha : 0 ≤ a ∧ a < p) (hb : 0 ≤ b ∧ b < p) :
    At w 4 news fun Ar h₀ L m s => ∀ (Q E : Value → Shared → Prop), RetFQ 255 h₀ L m news s Q p ((a * b).fmod p) →
      wpAny (model PySem.Challenge.rw_bw0041_01.row.prog w) Ar (call (.ref 140) [.ref x, .ref y]) Q E s := by
  unfold At
  w_top off
  k_fill
  intro p' loose mean mg mb dp un gd cn cs fa ccd cl outer A₀ base h₀ L m s B F KX N T hk hd hu Q E hret
  refine wpAny_call ?_
  k_dflt (refine' code_def ?k1 ?k2 ?k3 ?k4 ?k5 ?kA ?kF ?kK ?k6 ?k7 ?k8 ?k9 ?kB ?_ ?c2 ?c3 ?c4 ?c5; (case kA => exact rfl); (case kF => exact rfl); (case kK => first | exact rfl | assumption); (case k1 => k_asm); (case k2 => k_asm); (case k3 => k_asm); (case k4 => k_asm); (case k5 => k_asm); (case k6 => k_is); (case k7 => k_is); (case k8 => ktr_room); (case k9 => exact BindsTo.of_eq rfl); (case c5 => decide); (case kB => exact locs rfl); (case c2 => exact rfl); (case c3 => exact rfl); (case c4 => exact rfl); k_whole; intro g' L' h' FG' F' N' B' X' T'; (try (replace F' : Fr _ _ _ (fun y => List.lookup y [(Str.ofString "other", _), (Str.ofString "self", _)]) := F')); (try dsimp only); (try k_lift B'); (try k_fold))
  k_steps
  all_goals (refine' endFQ (h' := _) (tk' := _) hret ?F ?N ?m ?m' ?s ?e ?r; (case F => assumption); (case N => assumption); (case m => k_mem); (case m' => k_mem); (case s => kcf_all); (case e => kwd_less; first | rfl | (simp only [ff (show 0 < p by omega)]; done)); (case r => exact fmod_bd (by omega)))
local macro_rules | `(tactic| kct_strs) => `(tactic| (k_here; (with_reducible show wpAny _ _ (call (Value.ref 140) _) _ _ _); k_dflt (refine' (At.use (f_mul ?ch0 ?ch1 ?ch2 ?ch3 ?ch4 ?ch5 ?ch6 ?ch7) ?kB ?kF ?kK ?kN ?kT ?kk ?kd ?ku) _ _ ?_; (case kB => k_asm); (case kF => k_asm); (case kK => k_asm); (case kN => k_asm); (case kT => k_asm); (case kk => first | exact rfl | assumption); (case ch0 => k_mem); (case ch1 => k_mem); (case ch2 => k_mem); (case ch3 => k_mem); (case ch4 => omega); (case ch5 => omega); (case ch6 => omega); (case ch7 => omega); (case kd => ktr_room); (case ku => ktr_units); intro _ _ _ _ _ _ _ _ _ _ _ _ _ _ _ _; skip); (all_goals (try dsimp only [PySem.W.CmpBack, PySem.W.InitBack, PySem.W.BoolBack, PySem.W.LenBack, PySem.W.StrBack])); (all_goals (try k_fold))))
theorem f_rmul {w : World} {p a v : Int} {tv : Tok} {x dx : Addr} {h1 h2 : Int} {k1 t1 k2 t2 : Tok} {e : Nat} {news : List (Addr × Obj)}
    (hx : (x, instObj 255 dx) ∈ news) (hdx : (dx, fqd p a h1 h2 k1 t1 k2 t2 e) ∈ news) (hp : 1 < p) (hp' : p ≤ 1000) (ha : 0 ≤ a ∧ a < p) (hv : -1000 ≤ v ∧ v ≤ 1000) :
    At w 5 news fun Ar h₀ L m s => ∀ (Q E : Value → Shared → Prop), RetFQ 255 h₀ L m news s Q p ((a * v).fmod p) →
      wpAny (model PySem.Challenge.rw_bw0041_01.row.prog w) Ar (call (.ref 147) [.ref x, .int v tv]) Q E s := by
  unfold At
  w_top off
  k_fill
  intro p' loose mean mg mb dp un gd cn cs fa ccd cl outer A₀ base h₀ L m s B F KX N T hk hd hu Q E hret
  refine wpAny_call ?_
  k_dflt (refine' code_def ?k1 ?k2 ?k3 ?k4 ?k5 ?kA ?kF ?kK ?k6 ?k7 ?k8 ?k9 ?kB ?_ ?c2 ?c3 ?c4 ?c5; (case kA => exact rfl); (case kF => exact rfl); (case kK => first | exact rfl | assumption); (case k1 => k_asm); (case k2 => k_asm); (case k3 => k_asm); (case k4 => k_asm); (case k5 => k_asm); (case k6 => k_is); (case k7 => k_is); (case k8 => ktr_room); (case k9 => exact BindsTo.of_eq rfl); (case c5 => decide); (case kB => exact locs rfl); (case c2 => exact rfl); (case c3 => exact rfl); (case c4 => exact rfl); k_whole; intro g' L' h' FG' F' N' B' X' T'; (try (replace F' : Fr _ _ _ (fun y => List.lookup y [(Str.ofString "other", _), (Str.ofString "self", _)]) := F')); (try dsimp only); (try k_lift B'); (try k_fold))
  k_steps
  all_goals (refine' endFQ (h' := _) (tk' := _) hret ?F ?N ?m ?m' ?s ?e ?r; (case F => assumption); (case N => assumption); (case m => k_mem); (case m' => k_mem); (case s => kcf_all); (case e => kwd_less; first | rfl | (simp only [ff (show 0 < p by omega)]; done)); (case r => exact fmod_bd (by omega)))
local macro_rules | `(tactic| kct_strs) => `(tactic| (k_here; (with_reducible show wpAny _ _ (call (Value.ref 147) _) _ _ _); k_dflt (refine' (At.use (f_rmul ?ch0 ?ch1 ?ch2 ?ch3 ?ch4 ?ch5) ?kB ?kF ?kK ?kN ?kT ?kk ?kd ?ku) _ _ ?_; (case kB => k_asm); (case kF => k_asm); (case kK => k_asm); (case kN => k_asm); (case kT => k_asm); (case kk => first | exact rfl | assumption); (case ch0 => k_mem); (case ch1 => k_mem); (case ch2 => omega); (case ch3 => omega); (case ch4 => omega); (case ch5 => omega); (case kd => ktr_room); (case ku => ktr_units); intro _ _ _ _ _ _ _ _ _ _ _ _ _ _ _ _; skip); (all_goals (try dsimp only [PySem.W.CmpBack, PySem.W.InitBack, PySem.W.BoolBack, PySem.W.LenBack, PySem.W.StrBack])); (all_goals (try k_fold))))
theorem f_sub {w : World} {p a b : Int} {x dx : Addr} {h1 h2 : Int} {k1 t1 k2 t2 : Tok} {e : Nat} {y dy : Addr} {g1 g2 : Int} {l1 u1 l2 u2 : Tok} {e' : Nat} {news : List (Addr × Obj)}
    (hx : (x, instObj 255 dx) ∈ news) (hdx : (dx, fqd p a h1 h2 k1 t1 k2 t2 e) ∈ news) (hy : (y, instObj 255 dy) ∈ news) (hdy : (dy, fqd p b g1 g2 l1 u1 l2 u2 e') ∈ news) (hp : 1 < p) (hp' : p ≤ 1000) (ha : 0 ≤ a ∧ a < p) (hb : 0 ≤ b ∧ b < p) :
    At w 4 news fun Ar h₀ L m s => ∀ (Q E : Value → Shared → Prop), RetFQ 255 h₀ L m news s Q p ((a - b).fmod p) →
      wpAny (model PySem.Challenge.rw_bw0041_01.row.prog w) Ar (call (.ref 168) [.ref x, .ref y]) Q E s := by
  unfold At
  w_top off
  k_fill
  intro p' loose mean mg mb dp un gd cn cs fa ccd cl outer A₀ base h₀ L m s B F KX N T hk hd hu Q E hret
  refine wpAny_call ?_
  k_dflt (refine' code_def ?k1 ?k2 ?k3 ?k4 ?k5 ?kA ?kF ?kK ?k6 ?k7 ?k8 ?k9 ?kB ?_ ?c2 ?c3 ?c4 ?c5; (case kA => exact rfl); (case kF => exact rfl); (case kK => first | exact rfl | assumption); (case k1 => k_asm); (case k2 => k_asm); (case k3 => k_asm); (case k4 => k_asm); (case k5 => k_asm); (case k6 => k_is); (case k7 => k_is); (case k8 => ktr_room); (case k9 => exact BindsTo.of_eq rfl); (case c5 => decide); (case kB => exact locs rfl); (case c2 => exact rfl); (case c3 => exact rfl); (case c4 => exact rfl); k_whole; intro g' L' h' FG' F' N' B' X' T'; (try (replace F' : Fr _ _ _ (fun y => List.lookup y [(Str.ofString "other", _), (Str.ofString "self", _)]) := F')); (try dsimp only); (try k_lift B'); (try k_fold))
  k_steps
  all_goals (refine' endFQ (h' := _) (tk' := _) hret ?F ?N ?m ?m' ?s ?e ?r; (case F => assumption); (case N => assumption); (case m => k_mem); (case m' => k_mem); (case s => kcf_all); (case e => kwd_less; first | rfl | (simp only [ff (show 0 < p by omega)]; done)); (case r => exact fmod_bd (by omega)))
local macro_rules | `(tactic| kct_strs) => `(tactic| (k_here; (with_reducible show wpAny _ _ (call (Value.ref 168) _) _ _ _); k_dflt (refine' (At.use (f_sub ?ch0 ?ch1 ?ch2 ?ch3 ?ch4 ?ch5 ?ch6 ?ch7) ?kB ?kF ?kK ?kN ?kT ?kk ?kd ?ku) _ _ ?_; (case kB => k_asm); (case kF => k_asm); (case kK => k_asm); (case kN => k_asm); (case kT => k_asm); (case kk => first | exact rfl | assumption); (case ch0 => k_mem); (case ch1 => k_mem); (case ch2 => k_mem); (case ch3 => k_mem); (case ch4 => omega); (case ch5 => omega); (case ch6 => omega); (case ch7 => omega); (case kd => ktr_room); (case ku => ktr_units); intro _ _ _ _ _ _ _ _ _ _ _ _ _ _ _ _; skip); (all_goals (try dsimp only [PySem.W.CmpBack, PySem.W.InitBack, PySem.W.BoolBack, PySem.W.LenBack, PySem.W.StrBack])); (all_goals (try k_fold))))
theorem f_add {w : World} {p a b : Int} {x dx : Addr} {h1 h2 : Int} {k1 t1 k2 t2 : Tok} {e : Nat} {y dy : Addr} {g1 g2 : Int} {l1 u1 l2 u2 : Tok} {e' : Nat} {news : List (Addr × Obj)}
    (hx : (x, instObj 255 dx) ∈ news) (hdx : (dx, fqd p a h1 h2 k1 t1 k2 t2 e) ∈ news) (hy : (y, instObj 255 dy) ∈ news) (hdy : (dy, fqd p b g1 g2 l1 u1 l2 u2 e') ∈ news) (hp : 1 < p) (hp' : p ≤ 1000) (ha : 0 ≤ a ∧ a < p) (hb : 0 ≤ b ∧ b < p) :
    At w 4 news fun Ar h₀ L m s => ∀ (Q E : Value → Shared → Prop), RetFQ 255 h₀ L m news s Q p ((a + b).fmod p) →
      wpAny (model PySem.Challenge.rw_bw0041_01.row.prog w) Ar (call (.ref 133) [.ref x, .ref y]) Q E s := by
  unfold At
  w_top off
  k_fill
  intro p' loose mean mg mb dp un gd cn cs fa ccd cl outer A₀ base h₀ L m s B F KX N T hk hd hu Q E hret
  refine wpAny_call ?_
  k_dflt (refine' code_def ?k1 ?k2 ?k3 ?k4 ?k5 ?kA ?kF ?kK ?k6 ?k7 ?k8 ?k9 ?kB ?_ ?c2 ?c3 ?c4 ?c5; (case kA => exact rfl); (case kF => exact rfl); (case kK => first | exact rfl | assumption); (case k1 => k_asm); (case k2 => k_asm); (case k3 => k_asm); (case k4 => k_asm); (case k5 => k_asm); (case k6 => k_is); (case k7 => k_is); (case k8 => ktr_room); (case k9 => exact BindsTo.of_eq rfl); (case c5 => decide); (case kB => exact locs rfl); (case c2 => exact rfl); (case c3 => exact rfl); (case c4 => exact rfl); k_whole; intro g' L' h' FG' F' N' B' X' T'; (try (replace F' : Fr _ _ _ (fun y => List.lookup y [(Str.ofString "other", _), (Str.ofString "self", _)]) := F')); (try dsimp only); (try k_lift B'); (try k_fold))
  k_steps
  all_goals (refine' endFQ (h' := _) (tk' := _) hret ?F ?N ?m ?m' ?s ?e ?r; (case F => assumption); (case N => assumption); (case m => k_mem); (case m' => k_mem); (case s => kcf_all); (case e => kwd_less; first | rfl | (simp only [ff (show 0 < p by omega)]; done)); (case r => exact fmod_bd (by omega)))
local macro_rules | `(tactic| kct_strs) => `(tactic| (k_here; (with_reducible show wpAny _ _ (call (Value.ref 133) _) _ _ _); k_dflt (refine' (At.use (f_add ?ch0 ?ch1 ?ch2 ?ch3 ?ch4 ?ch5 ?ch6 ?ch7) ?kB ?kF ?kK ?kN ?kT ?kk ?kd ?ku) _ _ ?_; (case kB => k_asm); (case kF => k_asm); (case kK => k_asm); (case kN => k_asm); (case kT => k_asm); (case kk => first | exact rfl | assumption); (case ch0 => k_mem); (case ch1 => k_mem); (case ch2 => k_mem); (case ch3 => k_mem); (case ch4 => omega); (case ch5 => omega); (case ch6 => omega); (case ch7 => omega); (case kd => ktr_room); (case ku => ktr_units); intro _ _ _ _ _ _ _ _ _ _ _ _ _ _ _ _; skip); (all_goals (try dsimp only [PySem.W.CmpBack, PySem.W.InitBack, PySem.W.BoolBack, PySem.W.LenBack, PySem.W.StrBack])); (all_goals (try k_fold))))
theorem f_neg {w : World} {p a : Int} {x dx : Addr} {h1 h2 : Int} {k1 t1 k2 t2 : Tok} {e : Nat} {news : List (Addr × Obj)}
    (hx : (x, instObj 255 dx) ∈ news) (hdx : (dx, fqd p a h1 h2 k1 t1 k2 t2 e) ∈ news) (hp : 1 < p) (hp' : p ≤ 1000) :
    At w 4 news fun Ar h₀ L m s => ∀ (Q E : Value → Shared → Prop), RetFQ 255 h₀ L m news s Q p ((-a).fmod p) →
      wpAny (model PySem.Challenge.rw_bw0041_01.row.prog w) Ar (call (.ref 210) [.ref x]) Q E s := by
  unfold At
  w_top off
  k_fill
  intro p' loose mean mg mb dp un gd cn cs fa ccd cl outer A₀ base h₀ L m s B F KX N T hk hd hu Q E hret
  refine wpAny_call ?_
  k_dflt (refine' code_def ?k1 ?k2 ?k3 ?k4 ?k5 ?kA ?kF ?kK ?k6 ?k7 ?k8 ?k9 ?kB ?_ ?c2 ?c3 ?c4 ?c5; (case kA => exact rfl); (case kF => exact rfl); (case kK => first | exact rfl | assumption); (case k1 => k_asm); (case k2 => k_asm); (case k3 => k_asm); (case k4 => k_asm); (case k5 => k_asm); (case k6 => k_is); (case k7 => k_is); (case k8 => ktr_room); (case k9 => exact BindsTo.of_eq rfl); (case c5 => decide); (case kB => exact locs rfl); (case c2 => exact rfl); (case c3 => exact rfl); (case c4 => exact rfl); k_whole; intro g' L' h' FG' F' N' B' X' T'; (try (replace F' : Fr _ _ _ (fun y => List.lookup y [(Str.ofString "self", _)]) := F')); (try dsimp only); (try k_lift B'); (try k_fold))
  k_steps
  all_goals (refine' endFQ (h' := _) (tk' := _) hret ?F ?N ?m ?m' ?s ?e ?r; (case F => assumption); (case N => assumption); (case m => k_mem); (case m' => k_mem); (case s => kcf_all); (case e => kwd_less; first | rfl | (simp only [ff (show 0 < p by omega)]; done)); (case r => exact fmod_bd (by omega)))
local macro_rules | `(tactic| kct_strs) => `(tactic| (k_here; (with_reducible show wpAny _ _ (call (Value.ref 210) _) _ _ _); k_dflt (refine' (At.use (f_neg ?ch0 ?ch1 ?ch2 ?ch3) ?kB ?kF ?kK ?kN ?kT ?kk ?kd ?ku) _ _ ?_; (case kB => k_asm); (case kF => k_asm); (case kK => k_asm); (case kN => k_asm); (case kT => k_asm); (case kk => first | exact rfl | assumption); (case ch0 => k_mem); (case ch1 => k_mem); (case ch2 => omega); (case ch3 => omega); (case kd => ktr_room); (case ku => ktr_units); intro _ _ _ _ _ _ _ _ _ _ _ _ _ _ _ _; skip); (all_goals (try dsimp only [PySem.W.CmpBack, PySem.W.InitBack, PySem.W.BoolBack, PySem.W.LenBack, PySem.W.StrBack])); (all_goals (try k_fold))))
theorem f_eq {w : World} {p a b : Int} {x dx : Addr} {h1 h2 : Int} {k1 t1 k2 t2 : Tok} {e : Nat} {y dy : Addr} {g1 g2 : Int} {l1 u1 l2 u2 : Tok} {e' : Nat} {news : List (Addr × Obj)}
    (hx : (x, instObj 255 dx) ∈ news) (hdx : (dx, fqd p a h1 h2 k1 t1 k2 t2 e) ∈ news) (hy : (y, instObj 255 dy) ∈ news) (hdy : (dy, fqd p b g1 g2 l1 u1 l2 u2 e') ∈ news) :
    At w 4 news fun Ar h₀ L m s => ∀ (Q E : Value → Shared → Prop), RetB h₀ L m news s Q (decide (a = b)) →
      wpAny (model PySem.Challenge.rw_bw0041_01.row.prog w) Ar (call (.ref 196) [.ref x, .ref y]) Q E s := by
  unfold At
  w_top off
  k_fill
  intro p' loose mean mg mb dp un gd cn cs fa ccd cl outer A₀ base h₀ L m s B F KX N T hk hd hu Q E hret
  refine wpAny_call ?_
  k_dflt (refine' code_def ?k1 ?k2 ?k3 ?k4 ?k5 ?kA ?kF ?kK ?k6 ?k7 ?k8 ?k9 ?kB ?_ ?c2 ?c3 ?c4 ?c5; (case kA => exact rfl); (case kF => exact rfl); (case kK => first | exact rfl | assumption); (case k1 => k_asm); (case k2 => k_asm); (case k3 => k_asm); (case k4 => k_asm); (case k5 => k_asm); (case k6 => k_is); (case k7 => k_is); (case k8 => ktr_room); (case k9 => exact BindsTo.of_eq rfl); (case c5 => decide); (case kB => exact locs rfl); (case c2 => exact rfl); (case c3 => exact rfl); (case c4 => exact rfl); k_whole; intro g' L' h' FG' F' N' B' X' T'; (try (replace F' : Fr _ _ _ (fun y => List.lookup y [(Str.ofString "other", _), (Str.ofString "self", _)]) := F')); (try dsimp only); (try k_lift B'); (try k_fold))
  k_steps
  all_goals (refine' endB (h' := _) (tk' := _) hret ?F ?N ?s ?e; (case F => assumption); (case N => assumption); (case s => kcf_all); (case e => first | rfl | (simp; done)))
local macro_rules | `(tactic| kct_strs) => `(tactic| (k_here; (with_reducible show wpAny _ _ (call (Value.ref 196) _) _ _ _); k_dflt (refine' (At.use (f_eq ?ch0 ?ch1 ?ch2 ?ch3) ?kB ?kF ?kK ?kN ?kT ?kk ?kd ?ku) _ _ ?_; (case kB => k_asm); (case kF => k_asm); (case kK => k_asm); (case kN => k_asm); (case kT => k_asm); (case kk => first | exact rfl | assumption); (case ch0 => k_mem); (case ch1 => k_mem); (case ch2 => k_mem); (case ch3 => k_mem); (case kd => ktr_room); (case ku => ktr_units); intro _ _ _ _; skip); (all_goals (try dsimp only [PySem.W.CmpBack, PySem.W.InitBack, PySem.W.BoolBack, PySem.W.LenBack, PySem.W.StrBack])); (all_goals (try k_fold))))
local macro_rules | `(tactic| kct_strs) => `(tactic| (k_here; (with_reducible show wpAny _ _ (call (Value.ref 417) _) _ _ _); k_dflt (refine' call_cls ?j1 ?j2 ?j3 ?j4 ?j5 ?j6 ?_; (case j1 => k_asm); (case j2 => k_asm); (case j3 => k_asm); (case j4 => k_is); (case j5 => k_is); (case j6 => k_is); k_whole; intro x' d' h' F' N' l1 l2; (try k_lt l1); (try k_lt2 l2); (try k_sweep); refine' code_def ?k1 ?k2 ?k3 ?k4 ?k5 ?kA ?kF ?kK ?k6 ?k7 ?k8 ?k9 ?kB ?_ ?c2 ?c3 ?c4 ?c5; (case kA => exact rfl); (case kF => exact rfl); (case kK => first | exact rfl | assumption); (case k1 => k_asm); (case k2 => k_asm); (case k3 => k_asm); (case k4 => k_asm); (case k5 => k_asm); (case k6 => k_is); (case k7 => k_is); (case k8 => ktr_room); (case k9 => exact BindsTo.of_eq rfl); (case c5 => decide); (case kB => exact locs rfl); (case c2 => exact rfl); (case c3 => exact rfl); (case c4 => exact rfl); k_whole; intro g' L' h' FG' F' N' B' X' T'; (try (replace F' : Fr _ _ _ (fun y => List.lookup y [(Str.ofString "field_modulus", _), (Str.ofString "val", _), (Str.ofString "self", _)]) := F')); (try dsimp only); (try k_lift B'); (try k_fold))))
theorem o_made {w : World} {p a v : Int} {tv : Tok} {x dx : Addr} {h1 h2 : Int} {k1 t1 k2 t2 : Tok} {e : Nat} {news : List (Addr × Obj)}
    (hx : (x, instObj 417 dx) ∈ news) (hdx : (dx, fqd p a h1 h2 k1 t1 k2 t2 e) ∈ news) (hp : 1 < p) (hp' : p ≤ 1000) :
    At w 2 news fun Ar h₀ L m s => ∀ (Q E : Value → Shared → Prop), RetFQ 417 h₀ L m news s Q p (v.fmod p) →
      wpAny (model PySem.Challenge.rw_bw0041_01.row.prog w) Ar (call (.ref 400) [.ref x, .int v tv]) Q E s := by
  unfold At
  w_top off
  k_fill
  intro p' loose mean mg mb dp un gd cn cs fa ccd cl outer A₀ base h₀ L m s B F KX N T hk hd hu Q E hret
  refine wpAny_call ?_
  k_dflt (refine' code_def ?k1 ?k2 ?k3 ?k4 ?k5 ?kA ?kF ?kK ?k6 ?k7 ?k8 ?k9 ?kB ?_ ?c2 ?c3 ?c4 ?c5; (case kA => exact rfl); (case kF => exact rfl); (case kK => first | exact rfl | assumption); (case k1 => k_asm); (case k2 => k_asm); (case k3 => k_asm); (case k4 => k_asm); (case k5 => k_asm); (case k6 => k_is); (case k7 => k_is); (case k8 => ktr_room); (case k9 => exact BindsTo.of_eq rfl); (case c5 => decide); (case kB => exact locs rfl); (case c2 => exact rfl); (case c3 => exact rfl); (case c4 => exact rfl); k_whole; intro g' L' h' FG' F' N' B' X' T'; (try (replace F' : Fr _ _ _ (fun y => List.lookup y [(Str.ofString "val", _), (Str.ofString "self", _)]) := F')); (try dsimp only); (try k_lift B'); (try k_fold))
  k_steps
  all_goals (refine' endFQ (h' := _) (tk' := _) hret ?F ?N ?m ?m' ?s ?e ?r; (case F => assumption); (case N => assumption); (case m => k_mem); (case m' => k_mem); (case s => kcf_all); (case e => kwd_less; first | rfl | (simp only [ff (show 0 < p by omega)]; done)); (case r => exact fmod_bd (by omega)))
local macro_rules | `(tactic| kct_strs) => `(tactic| (k_here; (with_reducible show wpAny _ _ (call (Value.ref 400) _) _ _ _); k_dflt (refine' (At.use (o_made ?ch0 ?ch1 ?ch2 ?ch3) ?kB ?kF ?kK ?kN ?kT ?kk ?kd ?ku) _ _ ?_; (case kB => k_asm); (case kF => k_asm); (case kK => k_asm); (case kN => k_asm); (case kT => k_asm); (case kk => first | exact rfl | assumption); (case ch0 => k_mem); (case ch1 => k_mem); (case ch2 => omega); (case ch3 => omega); (case kd => ktr_room); (case ku => ktr_units); intro _ _ _ _ _ _ _ _ _ _ _ _ _ _ _ _; skip); (all_goals (try dsimp only [PySem.W.CmpBack, PySem.W.InitBack, PySem.W.BoolBack, PySem.W.LenBack, PySem.W.StrBack])); (all_goals (try k_fold))))
local macro_rules | `(tactic| kct_strs) => `(tactic| (k_here; (with_reducible show wpAny _ _ (call (Value.ref 287) _) _ _ _); refine wpAny_call ?_; k_dflt (refine' code_def ?k1 ?k2 ?k3 ?k4 ?k5 ?kA ?kF ?kK ?k6 ?k7 ?k8 ?k9 ?kB ?_ ?c2 ?c3 ?c4 ?c5; (case kA => exact rfl); (case kF => exact rfl); (case kK => first | exact rfl | assumption); (case k1 => k_asm); (case k2 => k_asm); (case k3 => k_asm); (case k4 => k_asm); (case k5 => k_asm); (case k6 => k_is); (case k7 => k_is); (case k8 => ktr_room); (case k9 => exact BindsTo.of_eq rfl); (case c5 => decide); (case kB => exact locs rfl); (case c2 => exact rfl); (case c3 => exact rfl); (case c4 => exact rfl); k_whole; intro g' L' h' FG' F' N' B' X' T'; (try (replace F' : Fr _ _ _ (fun y => List.lookup y [(Str.ofString "other", _), (Str.ofString "self", _)]) := F')); (try dsimp only); (try k_lift B'); (try k_fold))))
theorem o_mul {w : World} {p a b : Int} {x dx : Addr} {h1 h2 : Int} {k1 t1 k2 t2 : Tok} {e : Nat} {y dy : Addr} {g1 g2 : Int} {l1 u1 l2 u2 : Tok} {e' : Nat} {news : List (Addr × Obj)}
    (hx : (x, instObj 417 dx) ∈ news) (hdx : (dx, fqd p a h1 h2 k1 t1 k2 t2 e) ∈ news) (hy : (y, instObj 417 dy) ∈ news) (hdy : (dy, fqd p b g1 g2 l1 u1 l2 u2 e') ∈ news) (hp : 1 < p) (hp' : p ≤ 1000) (ha : 0 ≤ a ∧ a < p) (hb : 0 ≤ b ∧ b < p) :
    At w 4 news fun Ar h₀ L m s => ∀ (Q E : Value → Shared → Prop), RetFQ 417 h₀ L m news s Q p ((a * b).fmod p) →
      wpAny (model PySem.Challenge.rw_bw0041_01.row.prog w) Ar (call (.ref 287) [.ref x, .ref y]) Q E s := by
  unfold At
  w_top off
  k_fill
  intro p' loose mean mg mb dp un gd cn cs fa ccd cl outer A₀ base h₀ L m s B F KX N T hk hd hu Q E hret
  refine wpAny_call ?_
  k_dflt (refine' code_def ?k1 ?k2 ?k3 ?k4 ?k5 ?kA ?kF ?kK ?k6 ?k7 ?k8 ?k9 ?kB ?_ ?c2 ?c3 ?c4 ?c5; (case kA => exact rfl); (case kF => exact rfl); (case kK => first | exact rfl | assumption); (case k1 => k_asm); (case k2 => k_asm); (case k3 => k_asm); (case k4 => k_asm); (case k5 => k_asm); (case k6 => k_is); (case k7 => k_is); (case k8 => ktr_room); (case k9 => exact BindsTo.of_eq rfl); (case c5 => decide); (case kB => exact locs rfl); (case c2 => exact rfl); (case c3 => exact rfl); (case c4 => exact rfl); k_whole; intro g' L' h' FG' F' N' B' X' T'; (try (replace F' : Fr _ _ _ (fun y => List.lookup y [(Str.ofString "other", _), (Str.ofString "self", _)]) := F')); (try dsimp only); (try k_lift B'); (try k_fold))
  k_steps
  all_goals (refine' endFQ (h' := _) (tk' := _) hret ?F ?N ?m ?m' ?s ?e ?r; (case F => assumption); (case N => assumption); (case m => k_mem); (case m' => k_mem); (case s => kcf_all); (case e => kwd_less; first | rfl | (simp only [ff (show 0 < p by omega)]; done)); (case r => exact fmod_bd (by omega)))
local macro_rules | `(tactic| kct_strs) => `(tactic| (k_here; (with_reducible show wpAny _ _ (call (Value.ref 287) _) _ _ _); k_dflt (refine' (At.use (o_mul ?ch0 ?ch1 ?ch2 ?ch3 ?ch4 ?ch5 ?ch6 ?ch7) ?kB ?kF ?kK ?kN ?kT ?kk ?kd ?ku) _ _ ?_; (case kB => k_asm); (case kF => k_asm); (case kK => k_asm); (case kN => k_asm); (case kT => k_asm); (case kk => first | exact rfl | assumption); (case ch0 => k_mem); (case ch1 => k_mem); (case ch2 => k_mem); (case ch3 => k_mem); (case ch4 => omega); (case ch5 => omega); (case ch6 => omega); (case ch7 => omega); (case kd => ktr_room); (case ku => ktr_units); intro _ _ _ _ _ _ _ _ _ _ _ _ _ _ _ _; skip); (all_goals (try dsimp only [PySem.W.CmpBack, PySem.W.InitBack, PySem.W.BoolBack, PySem.W.LenBack, PySem.W.StrBack])); (all_goals (try k_fold))))
theorem o_rmul {w : World} {p a v : Int} {tv : Tok} {x dx : Addr} {h1 h2 : Int} {k1 t1 k2 t2 : Tok} {e : Nat} {news : List (Addr × Obj)}
    (hx : (x, instObj 417 dx) ∈ news) (hdx : (dx, fqd p a h1 h2 k1 t1 k2 t2 e) ∈ news) (hp : 1 < p) (hp' : p ≤ 1000) (ha : 0 ≤ a ∧ a < p) (hv : -1000 ≤ v ∧ v ≤ 1000) :
    At w 5 news fun Ar h₀ L m s => ∀ (Q E : Value → Shared → Prop), RetFQ 417 h₀ L m news s Q p ((a * v).fmod p) →
      wpAny (model PySem.Challenge.rw_bw0041_01.row.prog w) Ar (call (.ref 294) [.ref x, .int v tv]) Q E s := by
  unfold At
  w_top off
  k_fill
  intro p' loose mean mg mb dp un gd cn cs fa ccd cl outer A₀ base h₀ L m s B F KX N T hk hd hu Q E hret
  refine wpAny_call ?_
  k_dflt (refine' code_def ?k1 ?k2 ?k3 ?k4 ?k5 ?kA ?kF ?kK ?k6 ?k7 ?k8 ?k9 ?kB ?_ ?c2 ?c3 ?c4 ?c5; (case kA => exact rfl); (case kF => exact rfl); (case kK => first | exact rfl | assumption); (case k1 => k_asm); (case k2 => k_asm); (case k3 => k_asm); (case k4 => k_asm); (case k5 => k_asm); (case k6 => k_is); (case k7 => k_is); (case k8 => ktr_room); (case k9 => exact BindsTo.of_eq rfl); (case c5 => decide); (case kB => exact locs rfl); (case c2 => exact rfl); (case c3 => exact rfl); (case c4 => exact rfl); k_whole; intro g' L' h' FG' F' N' B' X' T'; (try (replace F' : Fr _ _ _ (fun y => List.lookup y [(Str.ofString "other", _), (Str.ofString "self", _)]) := F')); (try dsimp only); (try k_lift B'); (try k_fold))
  k_steps
  all_goals (refine' endFQ (h' := _) (tk' := _) hret ?F ?N ?m ?m' ?s ?e ?r; (case F => assumption); (case N => assumption); (case m => k_mem); (case m' => k_mem); (case s => kcf_all); (case e => kwd_less; first | rfl | (simp only [ff (show 0 < p by omega)]; done)); (case r => exact fmod_bd (by omega)))
local macro_rules | `(tactic| kct_strs) => `(tactic| (k_here; (with_reducible show wpAny _ _ (call (Value.ref 294) _) _ _ _); k_dflt (refine' (At.use (o_rmul ?ch0 ?ch1 ?ch2 ?ch3 ?ch4 ?ch5) ?kB ?kF ?kK ?kN ?kT ?kk ?kd ?ku) _ _ ?_; (case kB => k_asm); (case kF => k_asm); (case kK => k_asm); (case kN => k_asm); (case kT => k_asm); (case kk => first | exact rfl | assumption); (case ch0 => k_mem); (case ch1 => k_mem); (case ch2 => omega); (case ch3 => omega); (case ch4 => omega); (case ch5 => omega); (case kd => ktr_room); (case ku => ktr_units); intro _ _ _ _ _ _ _ _ _ _ _ _ _ _ _ _; skip); (all_goals (try dsimp only [PySem.W.CmpBack, PySem.W.InitBack, PySem.W.BoolBack, PySem.W.LenBack, PySem.W.StrBack])); (all_goals (try k_fold))))
theorem o_sub {w : World} {p a b : Int} {x dx : Addr} {h1 h2 : Int} {k1 t1 k2 t2 : Tok} {e : Nat} {y dy : Addr} {g1 g2 : Int} {l1 u1 l2 u2 : Tok} {e' : Nat} {news : List (Addr × Obj)}
    (hx : (x, instObj 417 dx) ∈ news) (hdx : (dx, fqd p a h1 h2 k1 t1 k2 t2 e) ∈ news) (hy : (y, instObj 417 dy) ∈ news) (hdy : (dy, fqd p b g1 g2 l1 u1 l2 u2 e') ∈ news) (hp : 1 < p) (hp' : p ≤ 1000) (ha : 0 ≤ a ∧ a < p) (hb : 0 ≤ b ∧ b < p) :
    At w 4 news fun Ar h₀ L m s => ∀ (Q E : Value → Shared → Prop), RetFQ 417 h₀ L m news s Q p ((a - b).fmod p) →
      wpAny (model PySem.Challenge.rw_bw0041_01.row.prog w) Ar (call (.ref 315) [.ref x, .ref y]) Q E s := by
  unfold At
  w_top off
  k_fill
  intro p' loose mean mg mb dp un gd cn cs fa ccd cl outer A₀ base h₀ L m s B F KX N T hk hd hu Q E hret
  refine wpAny_call ?_
  k_dflt (refine' code_def ?k1 ?k2 ?k3 ?k4 ?k5 ?kA ?kF ?kK ?k6 ?k7 ?k8 ?k9 ?kB ?_ ?c2 ?c3 ?c4 ?c5; (case kA => exact rfl); (case kF => exact rfl); (case kK => first | exact rfl | assumption); (case k1 => k_asm); (case k2 => k_asm); (case k3 => k_asm); (case k4 => k_asm); (case k5 => k_asm); (case k6 => k_is); (case k7 => k_is); (case k8 => ktr_room); (case k9 => exact BindsTo.of_eq rfl); (case c5 => decide); (case kB => exact locs rfl); (case c2 => exact rfl); (case c3 => exact rfl); (case c4 => exact rfl); k_whole; intro g' L' h' FG' F' N' B' X' T'; (try (replace F' : Fr _ _ _ (fun y => List.lookup y [(Str.ofString "other", _), (Str.ofString "self", _)]) := F')); (try dsimp only); (try k_lift B'); (try k_fold))
  k_steps
  all_goals (refine' endFQ (h' := _) (tk' := _) hret ?F ?N ?m ?m' ?s ?e ?r; (case F => assumption); (case N => assumption); (case m => k_mem); (case m' => k_mem); (case s => kcf_all); (case e => kwd_less; first | rfl | (simp only [ff (show 0 < p by omega)]; done)); (case r => exact fmod_bd (by omega)))
local macro_rules | `(tactic| kct_strs) => `(tactic| (k_here; (with_reducible show wpAny _ _ (call (Value.ref 315) _) _ _ _); k_dflt (refine' (At.use (o_sub ?ch0 ?ch1 ?ch2 ?ch3 ?ch4 ?ch5 ?ch6 ?ch7) ?kB ?kF ?kK ?kN ?kT ?kk ?kd ?ku) _ _ ?_; (case kB => k_asm); (case kF => k_asm); (case kK => k_asm); (case kN => k_asm); (case kT => k_asm); (case kk => first | exact rfl | assumption); (case ch0 => k_mem); (case ch1 => k_mem); (case ch2 => k_mem); (case ch3 => k_mem); (case ch4 => omega); (case ch5 => omega); (case ch6 => omega); (case ch7 => omega); (case kd => ktr_room); (case ku => ktr_units); intro _ _ _ _ _ _ _ _ _ _ _ _ _ _ _ _; skip); (all_goals (try dsimp only [PySem.W.CmpBack, PySem.W.InitBack, PySem.W.BoolBack, PySem.W.LenBack, PySem.W.StrBack])); (all_goals (try k_fold))))
theorem o_eq {w : World} {p a b : Int} {x dx : Addr} {h1 h2 : Int} {k1 t1 k2 t2 : Tok} {e : Nat} {y dy : Addr} {g1 g2 : Int} {l1 u1 l2 u2 : Tok} {e' : Nat} {news : List (Addr × Obj)}
    (hx : (x, instObj 417 dx) ∈ news) (hdx : (dx, fqd p a h1 h2 k1 t1 k2 t2 e) ∈ news) (hy : (y, instObj 417 dy) ∈ news) (hdy : (dy, fqd p b g1 g2 l1 u1 l2 u2 e') ∈ news) :
    At w 4 news fun Ar h₀ L m s => ∀ (Q E : Value → Shared → Prop), RetB h₀ L m news s Q (decide (a = b)) →
      wpAny (model PySem.Challenge.rw_bw0041_01.row.prog w) Ar (call (.ref 350) [.ref x, .ref y]) Q E s := by
  unfold At
  w_top off
  k_fill
  intro p' loose mean mg mb dp un gd cn cs fa ccd cl outer A₀ base h₀ L m s B F KX N T hk hd hu Q E hret
  refine wpAny_call ?_
  k_dflt (refine' code_def ?k1 ?k2 ?k3 ?k4 ?k5 ?kA ?kF ?kK ?k6 ?k7 ?k8 ?k9 ?kB ?_ ?c2 ?c3 ?c4 ?c5; (case kA => exact rfl); (case kF => exact rfl); (case kK => first | exact rfl | assumption); (case k1 => k_asm); (case k2 => k_asm); (case k3 => k_asm); (case k4 => k_asm); (case k5 => k_asm); (case k6 => k_is); (case k7 => k_is); (case k8 => ktr_room); (case k9 => exact BindsTo.of_eq rfl); (case c5 => decide); (case kB => exact locs rfl); (case c2 => exact rfl); (case c3 => exact rfl); (case c4 => exact rfl); k_whole; intro g' L' h' FG' F' N' B' X' T'; (try (replace F' : Fr _ _ _ (fun y => List.lookup y [(Str.ofString "other", _), (Str.ofString "self", _)]) := F')); (try dsimp only); (try k_lift B'); (try k_fold))
  k_steps
  all_goals (refine' endB (h' := _) (tk' := _) hret ?F ?N ?s ?e; (case F => assumption); (case N => assumption); (case s => kcf_all); (case e => first | rfl | (simp; done)))
local macro_rules | `(tactic| kct_strs) => `(tactic| (k_here; (with_reducible show wpAny _ _ (call (Value.ref 350) _) _ _ _); k_dflt (refine' (At.use (o_eq ?ch0 ?ch1 ?ch2 ?ch3) ?kB ?kF ?kK ?kN ?kT ?kk ?kd ?ku) _ _ ?_; (case kB => k_asm); (case kF => k_asm); (case kK => k_asm); (case kN => k_asm); (case kT => k_asm); (case kk => first | exact rfl | assumption); (case ch0 => k_mem); (case ch1 => k_mem); (case ch2 => k_mem); (case ch3 => k_mem); (case kd => ktr_room); (case ku => ktr_units); intro _ _ _ _; skip); (all_goals (try dsimp only [PySem.W.CmpBack, PySem.W.InitBack, PySem.W.BoolBack, PySem.W.LenBack, PySem.W.StrBack])); (all_goals (try k_fold))))
end
local macro_rules | `(tactic| kct_strs) => `(tactic| (k_here; (with_reducible show wpAny _ _ (call (Value.ref 255) _) _ _ _); k_dflt (refine' call_cls ?j1 ?j2 ?j3 ?j4 ?j5 ?j6 ?_; (case j1 => k_asm); (case j2 => k_asm); (case j3 => k_asm); (case j4 => k_is); (case j5 => k_is); (case j6 => k_is); k_whole; intro x' d' h' F' N' l1 l2; (try k_lt l1); (try k_lt2 l2); (try k_sweep); refine' code_def ?k1 ?k2 ?k3 ?k4 ?k5 ?kA ?kF ?kK ?k6 ?k7 ?k8 ?k9 ?kB ?_ ?c2 ?c3 ?c4 ?c5; (case kA => exact rfl); (case kF => exact rfl); (case kK => first | exact rfl | assumption); (case k1 => k_asm); (case k2 => k_asm); (case k3 => k_asm); (case k4 => k_asm); (case k5 => k_asm); (case k6 => k_is); (case k7 => k_is); (case k8 => ktr_room); (case k9 => exact BindsTo.of_eq rfl); (case c5 => decide); (case kB => exact locs rfl); (case c2 => exact rfl); (case c3 => exact rfl); (case c4 => exact rfl); k_whole; intro g' L' h' FG' F' N' B' X' T'; (try (replace F' : Fr _ _ _ (fun y => List.lookup y [(Str.ofString "field_modulus", _), (Str.ofString "val", _), (Str.ofString "self", _)]) := F')); (try dsimp only); (try k_lift B'); (try k_fold))))
local macro_rules | `(tactic| kct_strs) => `(tactic| (k_here; (with_reducible show wpAny _ _ (call (Value.ref 238) _) _ _ _); k_dflt (refine' (At.use (f_made ?ch0 ?ch1 ?ch2 ?ch3) ?kB ?kF ?kK ?kN ?kT ?kk ?kd ?ku) _ _ ?_; (case kB => k_asm); (case kF => k_asm); (case kK => k_asm); (case kN => k_asm); (case kT => k_asm); (case kk => first | exact rfl | assumption); (case ch0 => k_mem); (case ch1 => k_mem); (case ch2 => omega); (case ch3 => omega); (case kd => ktr_room); (case ku => ktr_units); intro _ _ _ _ _ _ _ _ _ _ _ _ _ _ _ _; skip); (all_goals (try dsimp only [PySem.W.CmpBack, PySem.W.InitBack, PySem.W.BoolBack, PySem.W.LenBack, PySem.W.StrBack])); (all_goals (try k_fold))))
local macro_rules | `(tactic| kct_strs) => `(tactic| (k_here; (with_reducible show wpAny _ _ (call (Value.ref 140) _) _ _ _); refine wpAny_call ?_; k_dflt (refine' code_def ?k1 ?k2 ?k3 ?k4 ?k5 ?kA ?kF ?kK ?k6 ?k7 ?k8 ?k9 ?kB ?_ ?c2 ?c3 ?c4 ?c5; (case kA => exact rfl); (case kF => exact rfl); (case kK => first | exact rfl | assumption); (case k1 => k_asm); (case k2 => k_asm); (case k3 => k_asm); (case k4 => k_asm); (case k5 => k_asm); (case k6 => k_is); (case k7 => k_is); (case k8 => ktr_room); (case k9 => exact BindsTo.of_eq rfl); (case c5 => decide); (case kB => exact locs rfl); (case c2 => exact rfl); (case c3 => exact rfl); (case c4 => exact rfl); k_whole; intro g' L' h' FG' F' N' B' X' T'; (try (replace F' : Fr _ _ _ (fun y => List.lookup y [(Str.ofString "other", _), (Str.ofString "self", _)]) := F')); (try dsimp only); (try k_lift B'); (try k_fold))))
local macro_rules | `(tactic| kct_strs) => `(tactic| (k_here; (with_reducible show wpAny _ _ (call (Value.ref 140) _) _ _ _); k_dflt (refine' (At.use (f_mul ?ch0 ?ch1 ?ch2 ?ch3 ?ch4 ?ch5 ?ch6 ?ch7) ?kB ?kF ?kK ?kN ?kT ?kk ?kd ?ku) _ _ ?_; (case kB => k_asm); (case kF => k_asm); (case kK => k_asm); (case kN => k_asm); (case kT => k_asm); (case kk => first | exact rfl | assumption); (case ch0 => k_mem); (case ch1 => k_mem); (case ch2 => k_mem); (case ch3 => k_mem); (case ch4 => omega); (case ch5 => omega); (case ch6 => omega); (case ch7 => omega); (case kd => ktr_room); (case ku => ktr_units); intro _ _ _ _ _ _ _ _ _ _ _ _ _ _ _ _; skip); (all_goals (try dsimp only [PySem.W.CmpBack, PySem.W.InitBack, PySem.W.BoolBack, PySem.W.LenBack, PySem.W.StrBack])); (all_goals (try k_fold))))
local macro_rules | `(tactic| kct_strs) => `(tactic| (k_here; (with_reducible show wpAny _ _ (call (Value.ref 147) _) _ _ _); k_dflt (refine' (At.use (f_rmul ?ch0 ?ch1 ?ch2 ?ch3 ?ch4 ?ch5) ?kB ?kF ?kK ?kN ?kT ?kk ?kd ?ku) _ _ ?_; (case kB => k_asm); (case kF => k_asm); (case kK => k_asm); (case kN => k_asm); (case kT => k_asm); (case kk => first | exact rfl | assumption); (case ch0 => k_mem); (case ch1 => k_mem); (case ch2 => omega); (case ch3 => omega); (case ch4 => omega); (case ch5 => omega); (case kd => ktr_room); (case ku => ktr_units); intro _ _ _ _ _ _ _ _ _ _ _ _ _ _ _ _; skip); (all_goals (try dsimp only [PySem.W.CmpBack, PySem.W.InitBack, PySem.W.BoolBack, PySem.W.LenBack, PySem.W.StrBack])); (all_goals (try k_fold))))
local macro_rules | `(tactic| kct_strs) => `(tactic| (k_here; (with_reducible show wpAny _ _ (call (Value.ref 168) _) _ _ _); k_dflt (refine' (At.use (f_sub ?ch0 ?ch1 ?ch2 ?ch3 ?ch4 ?ch5 ?ch6 ?ch7) ?kB ?kF ?kK ?kN ?kT ?kk ?kd ?ku) _ _ ?_; (case kB => k_asm); (case kF => k_asm); (case kK => k_asm); (case kN => k_asm); (case kT => k_asm); (case kk => first | exact rfl | assumption); (case ch0 => k_mem); (case ch1 => k_mem); (case ch2 => k_mem); (case ch3 => k_mem); (case ch4 => omega); (case ch5 => omega); (case ch6 => omega); (case ch7 => omega); (case kd => ktr_room); (case ku => ktr_units); intro _ _ _ _ _ _ _ _ _ _ _ _ _ _ _ _; skip); (all_goals (try dsimp only [PySem.W.CmpBack, PySem.W.InitBack, PySem.W.BoolBack, PySem.W.LenBack, PySem.W.StrBack])); (all_goals (try k_fold))))
local macro_rules | `(tactic| kct_strs) => `(tactic| (k_here; (with_reducible show wpAny _ _ (call (Value.ref 133) _) _ _ _); k_dflt (refine' (At.use (f_add ?ch0 ?ch1 ?ch2 ?ch3 ?ch4 ?ch5 ?ch6 ?ch7) ?kB ?kF ?kK ?kN ?kT ?kk ?kd ?ku) _ _ ?_; (case kB => k_asm); (case kF => k_asm); (case kK => k_asm); (case kN => k_asm); (case kT => k_asm); (case kk => first | exact rfl | assumption); (case ch0 => k_mem); (case ch1 => k_mem); (case ch2 => k_mem); (case ch3 => k_mem); (case ch4 => omega); (case ch5 => omega); (case ch6 => omega); (case ch7 => omega); (case kd => ktr_room); (case ku => ktr_units); intro _ _ _ _ _ _ _ _ _ _ _ _ _ _ _ _; skip); (all_goals (try dsimp only [PySem.W.CmpBack, PySem.W.InitBack, PySem.W.BoolBack, PySem.W.LenBack, PySem.W.StrBack])); (all_goals (try k_fold))))
local macro_rules | `(tactic| kct_strs) => `(tactic| (k_here; (with_reducible show wpAny _ _ (call (Value.ref 210) _) _ _ _); k_dflt (refine' (At.use (f_neg ?ch0 ?ch1 ?ch2 ?ch3) ?kB ?kF ?kK ?kN ?kT ?kk ?kd ?ku) _ _ ?_; (case kB => k_asm); (case kF => k_asm); (case kK => k_asm); (case kN => k_asm); (case kT => k_asm); (case kk => first | exact rfl | assumption); (case ch0 => k_mem); (case ch1 => k_mem); (case ch2 => omega); (case ch3 => omega); (case kd => ktr_room); (case ku => ktr_units); intro _ _ _ _ _ _ _ _ _ _ _ _ _ _ _ _; skip); (all_goals (try dsimp only [PySem.W.CmpBack, PySem.W.InitBack, PySem.W.BoolBack, PySem.W.LenBack, PySem.W.StrBack])); (all_goals (try k_fold))))
local macro_rules | `(tactic| kct_strs) => `(tactic| (k_here; (with_reducible show wpAny _ _ (call (Value.ref 196) _) _ _ _); k_dflt (refine' (At.use (f_eq ?ch0 ?ch1 ?ch2 ?ch3) ?kB ?kF ?kK ?kN ?kT ?kk ?kd ?ku) _ _ ?_; (case kB => k_asm); (case kF => k_asm); (case kK => k_asm); (case kN => k_asm); (case kT => k_asm); (case kk => first | exact rfl | assumption); (case ch0 => k_mem); (case ch1 => k_mem); (case ch2 => k_mem); (case ch3 => k_mem); (case kd => ktr_room); (case ku => ktr_units); intro _ _ _ _; skip); (all_goals (try dsimp only [PySem.W.CmpBack, PySem.W.InitBack, PySem.W.BoolBack, PySem.W.LenBack, PySem.W.StrBack])); (all_goals (try k_fold))))
local macro_rules | `(tactic| kct_strs) => `(tactic| (k_here; (with_reducible show wpAny _ _ (call (Value.ref 417) _) _ _ _); k_dflt (refine' call_cls ?j1 ?j2 ?j3 ?j4 ?j5 ?j6 ?_; (case j1 => k_asm); (case j2 => k_asm); (case j3 => k_asm); (case j4 => k_is); (case j5 => k_is); (case j6 => k_is); k_whole; intro x' d' h' F' N' l1 l2; (try k_lt l1); (try k_lt2 l2); (try k_sweep); refine' code_def ?k1 ?k2 ?k3 ?k4 ?k5 ?kA ?kF ?kK ?k6 ?k7 ?k8 ?k9 ?kB ?_ ?c2 ?c3 ?c4 ?c5; (case kA => exact rfl); (case kF => exact rfl); (case kK => first | exact rfl | assumption); (case k1 => k_asm); (case k2 => k_asm); (case k3 => k_asm); (case k4 => k_asm); (case k5 => k_asm); (case k6 => k_is); (case k7 => k_is); (case k8 => ktr_room); (case k9 => exact BindsTo.of_eq rfl); (case c5 => decide); (case kB => exact locs rfl); (case c2 => exact rfl); (case c3 => exact rfl); (case c4 => exact rfl); k_whole; intro g' L' h' FG' F' N' B' X' T'; (try (replace F' : Fr _ _ _ (fun y => List.lookup y [(Str.ofString "field_modulus", _), (Str.ofString "val", _), (Str.ofString "self", _)]) := F')); (try dsimp only); (try k_lift B'); (try k_fold))))
local macro_rules | `(tactic| kct_strs) => `(tactic| (k_here; (with_reducible show wpAny _ _ (call (Value.ref 400) _) _ _ _); k_dflt (refine' (At.use (o_made ?ch0 ?ch1 ?ch2 ?ch3) ?kB ?kF ?kK ?kN ?kT ?kk ?kd ?ku) _ _ ?_; (case kB => k_asm); (case kF => k_asm); (case kK => k_asm); (case kN => k_asm); (case kT => k_asm); (case kk => first | exact rfl | assumption); (case ch0 => k_mem); (case ch1 => k_mem); (case ch2 => omega); (case ch3 => omega); (case kd => ktr_room); (case ku => ktr_units); intro _ _ _ _ _ _ _ _ _ _ _ _ _ _ _ _; skip); (all_goals (try dsimp only [PySem.W.CmpBack, PySem.W.InitBack, PySem.W.BoolBack, PySem.W.LenBack, PySem.W.StrBack])); (all_goals (try k_fold))))
local macro_rules | `(tactic| kct_strs) => `(tactic| (k_here; (with_reducible show wpAny _ _ (call (Value.ref 287) _) _ _ _); refine wpAny_call ?_; k_dflt (refine' code_def ?k1 ?k2 ?k3 ?k4 ?k5 ?kA ?kF ?kK ?k6 ?k7 ?k8 ?k9 ?kB ?_ ?c2 ?c3 ?c4 ?c5; (case kA => exact rfl); (case kF => exact rfl); (case kK => first | exact rfl | assumption); (case k1 => k_asm); (case k2 => k_asm); (case k3 => k_asm); (case k4 => k_asm); (case k5 => k_asm); (case k6 => k_is); (case k7 => k_is); (case k8 => ktr_room); (case k9 => exact BindsTo.of_eq rfl); (case c5 => decide); (case kB => exact locs rfl); (case c2 => exact rfl); (case c3 => exact rfl); (case c4 => exact rfl); k_whole; intro g' L' h' FG' F' N' B' X' T'; (try (replace F' : Fr _ _ _ (fun y => List.lookup y [(Str.ofString "other", _), (Str.ofString "self", _)]) := F')); (try dsimp only); (try k_lift B'); (try k_fold))))
local macro_rules | `(tactic| kct_strs) => `(tactic| (k_here; (with_reducible show wpAny _ _ (call (Value.ref 287) _) _ _ _); k_dflt (refine' (At.use (o_mul ?ch0 ?ch1 ?ch2 ?ch3 ?ch4 ?ch5 ?ch6 ?ch7) ?kB ?kF ?kK ?kN ?kT ?kk ?kd ?ku) _ _ ?_; (case kB => k_asm); (case kF => k_asm); (case kK => k_asm); (case kN => k_asm); (case kT => k_asm); (case kk => first | exact rfl | assumption); (case ch0 => k_mem); (case ch1 => k_mem); (case ch2 => k_mem); (case ch3 => k_mem); (case ch4 => omega); (case ch5 => omega); (case ch6 => omega); (case ch7 => omega); (case kd => ktr_room); (case ku => ktr_units); intro _ _ _ _ _ _ _ _ _ _ _ _ _ _ _ _; skip); (all_goals (try dsimp only [PySem.W.CmpBack, PySem.W.InitBack, PySem.W.BoolBack, PySem.W.LenBack, PySem.W.StrBack])); (all_goals (try k_fold))))
local macro_rules | `(tactic| kct_strs) => `(tactic| (k_here; (with_reducible show wpAny _ _ (call (Value.ref 294) _) _ _ _); k_dflt (refine' (At.use (o_rmul ?ch0 ?ch1 ?ch2 ?ch3 ?ch4 ?ch5) ?kB ?kF ?kK ?kN ?kT ?kk ?kd ?ku) _ _ ?_; (case kB => k_asm); (case kF => k_asm); (case kK => k_asm); (case kN => k_asm); (case kT => k_asm); (case kk => first | exact rfl | assumption); (case ch0 => k_mem); (case ch1 => k_mem); (case ch2 => omega); (case ch3 => omega); (case ch4 => omega); (case ch5 => omega); (case kd => ktr_room); (case ku => ktr_units); intro _ _ _ _ _ _ _ _ _ _ _ _ _ _ _ _; skip); (all_goals (try dsimp only [PySem.W.CmpBack, PySem.W.InitBack, PySem.W.BoolBack, PySem.W.LenBack, PySem.W.StrBack])); (all_goals (try k_fold))))
local macro_rules | `(tactic| kct_strs) => `(tactic| (k_here; (with_reducible show wpAny _ _ (call (Value.ref 315) _) _ _ _); k_dflt (refine' (At.use (o_sub ?ch0 ?ch1 ?ch2 ?ch3 ?ch4 ?ch5 ?ch6 ?ch7) ?kB ?kF ?kK ?kN ?kT ?kk ?kd ?ku) _ _ ?_; (case kB => k_asm); (case kF => k_asm); (case kK => k_asm); (case kN => k_asm); (case kT => k_asm); (case kk => first | exact rfl | assumption); (case ch0 => k_mem); (case ch1 => k_mem); (case ch2 => k_mem); (case ch3 => k_mem); (case ch4 => omega); (case ch5 => omega); (case ch6 => omega); (case ch7 => omega); (case kd => ktr_room); (case ku => ktr_units); intro _ _ _ _ _ _ _ _ _ _ _ _ _ _ _ _; skip); (all_goals (try dsimp only [PySem.W.CmpBack, PySem.W.InitBack, PySem.W.BoolBack, PySem.W.LenBack, PySem.W.StrBack])); (all_goals (try k_fold))))
local macro_rules | `(tactic| kct_strs) => `(tactic| (k_here; (with_reducible show wpAny _ _ (call (Value.ref 350) _) _ _ _); k_dflt (refine' (At.use (o_eq ?ch0 ?ch1 ?ch2 ?ch3) ?kB ?kF ?kK ?kN ?kT ?kk ?kd ?ku) _ _ ?_; (case kB => k_asm); (case kF => k_asm); (case kK => k_asm); (case kN => k_asm); (case kT => k_asm); (case kk => first | exact rfl | assumption); (case ch0 => k_mem); (case ch1 => k_mem); (case ch2 => k_mem); (case ch3 => k_mem); (case kd => ktr_room); (case ku => ktr_units); intro _ _ _ _; skip); (all_goals (try dsimp only [PySem.W.CmpBack, PySem.W.InitBack, PySem.W.BoolBack, PySem.W.LenBack, PySem.W.StrBack])); (all_goals (try k_fold))))
section
local macro_rules | `(tactic| kwd_inv) => `(tactic| first | exact InvI.bits (by assumption) (by assumption) | exact InvI.lowS (by assumption))
theorem InvI.start2 {a n u v : Int} (hn : 1 < n) (hn' : n ≤ 1000) (hu : Is u (a.fmod n)) (hv : Is v (u.fmod n)) : InvI (a.fmod n) n 1 v 0 n := by
  cases hv; cases hu; exact InvI.start hn hn' (.refl _)
theorem c_pfi {w : World} {a n : Int} {ta tn : Tok} {news : List (Addr × Obj)} (hn : 1 < n) (hn' : n ≤ 1000) :
    At w 1 news fun A h₀ L m s => ∀ (Q E : Value → Shared → Prop), RetI h₀ L m news s Q n (invF (a.fmod n) n) →
      wpAny (model PySem.Challenge.rw_bw0041_01.row.prog w) A (call (.ref 112) [.int a ta, .int n tn]) Q E s := by
  unfold At
  w_top off
  k_fill
  intro p loose mean mg mb dp un gd cn cs fa ccd cl outer A₀ base h₀ L m s B F KX N T hk hd hu Q E hret
  k_with "state" => first | exact InvI.start2 (by assumption) (by assumption) (by assumption) (by assumption) | exact InvI.step (by assumption) (by assumption)
  k_with "measure" => exact InvI.less (by assumption) (by assumption)
  k_with "exec While Compare cons nil" => k_while (fun _ lm low hm high => InvI (a.fmod n) n lm low hm high) (fun _ _ low _ _ => low.toNat) "lm" "low" "hm" "high"
  refine wpAny_call ?_
  k_dflt (refine' code_def ?k1 ?k2 ?k3 ?k4 ?k5 ?kA ?kF ?kK ?k6 ?k7 ?k8 ?k9 ?kB ?_ ?c2 ?c3 ?c4 ?c5; (case kA => exact rfl); (case kF => exact rfl); (case kK => first | exact rfl | assumption); (case k1 => k_asm); (case k2 => k_asm); (case k3 => k_asm); (case k4 => k_asm); (case k5 => k_asm); (case k6 => k_is); (case k7 => k_is); (case k8 => ktr_room); (case k9 => exact BindsTo.of_eq rfl); (case c5 => decide); (case kB => exact locs rfl); (case c2 => exact rfl); (case c3 => exact rfl); (case c4 => exact rfl); k_whole; intro g' L' h' FG' F' N' B' X' T'; (try (replace F' : Fr _ _ _ (fun y => List.lookup y [(Str.ofString "n", _), (Str.ofString "a", _)]) := F')); (try dsimp only); (try k_lift B'); (try k_fold))
  k_steps
  all_goals (refine' endI (h' := _) (tk' := _) hret ?F ?N ?s ?e (invF_in hn); (case F => assumption); (case N => assumption); (case s => kcf_all); (case e => (kwd_less; unfold invF; first | rw [if_pos (by assumption)] | (rw [if_neg (by assumption)]; exact InvI.stop (by assumption) (by assumption)))))
  k_with_none
local macro_rules | `(tactic| kct_strs) => `(tactic| (k_here; (with_reducible show wpAny _ _ (call (Value.ref 112) _) _ _ _); k_dflt (refine' (At.use (c_pfi ?ch0 ?ch1) ?kB ?kF ?kK ?kN ?kT ?kk ?kd ?ku) _ _ ?_; (case kB => k_asm); (case kF => k_asm); (case kK => k_asm); (case kN => k_asm); (case kT => k_asm); (case kk => first | exact rfl | assumption); (case ch0 => omega); (case ch1 => omega); (case kd => ktr_room); (case ku => ktr_units); intro _ _ _ _ _ _ _ _; skip); (all_goals (try dsimp only [PySem.W.CmpBack, PySem.W.InitBack, PySem.W.BoolBack, PySem.W.LenBack, PySem.W.StrBack])); (all_goals (try k_fold))))
theorem f_div {w : World} {p a b : Int} {x dx : Addr} {h1 h2 : Int} {k1 t1 k2 t2 : Tok} {e : Nat} {y dy : Addr} {g1 g2 : Int} {l1 u1 l2 u2 : Tok} {e' : Nat} {news : List (Addr × Obj)}
    (hx : (x, instObj 255 dx) ∈ news) (hdx : (dx, fqd p a h1 h2 k1 t1 k2 t2 e) ∈ news) (hy : (y, instObj 255 dy) ∈ news) (hdy : (dy, fqd p b g1 g2 l1 u1 l2 u2 e') ∈ news) (hp : 1 < p) (hp' : p ≤ 1000) (ha : 0 ≤ a ∧ a < p) (hb : 0 ≤ b ∧ b < p) :
    At w 4 news fun Ar h₀ L m s => ∀ (Q E : Value → Shared → Prop), RetFQ 255 h₀ L m news s Q p ((a * invF (b.fmod p) p).fmod p) →
      wpAny (model PySem.Challenge.rw_bw0041_01.row.prog w) Ar (call (.ref 175) [.ref x, .ref y]) Q E s := by
  unfold At
  w_top off
  k_fill
  intro p' loose mean mg mb dp un gd cn cs fa ccd cl outer A₀ base h₀ L m s B F KX N T hk hd hu Q E hret
  refine wpAny_call ?_
  k_dflt (refine' code_def ?k1 ?k2 ?k3 ?k4 ?k5 ?kA ?kF ?kK ?k6 ?k7 ?k8 ?k9 ?kB ?_ ?c2 ?c3 ?c4 ?c5; (case kA => exact rfl); (case kF => exact rfl); (case kK => first | exact rfl | assumption); (case k1 => k_asm); (case k2 => k_asm); (case k3 => k_asm); (case k4 => k_asm); (case k5 => k_asm); (case k6 => k_is); (case k7 => k_is); (case k8 => ktr_room); (case k9 => exact BindsTo.of_eq rfl); (case c5 => decide); (case kB => exact locs rfl); (case c2 => exact rfl); (case c3 => exact rfl); (case c4 => exact rfl); k_whole; intro g' L' h' FG' F' N' B' X' T'; (try (replace F' : Fr _ _ _ (fun y => List.lookup y [(Str.ofString "other", _), (Str.ofString "self", _)]) := F')); (try dsimp only); (try k_lift B'); (try k_fold))
  k_steps
  all_goals (refine' endFQ (h' := _) (tk' := _) hret ?F ?N ?m ?m' ?s ?e ?r; (case F => assumption); (case N => assumption); (case m => k_mem); (case m' => k_mem); (case s => kcf_all); (case e => kwd_less; first | rfl | (simp only [ff (show 0 < p by omega)]; done)); (case r => exact fmod_bd (by omega)))
local macro_rules | `(tactic| kct_strs) => `(tactic| (k_here; (with_reducible show wpAny _ _ (call (Value.ref 175) _) _ _ _); k_dflt (refine' (At.use (f_div ?ch0 ?ch1 ?ch2 ?ch3 ?ch4 ?ch5 ?ch6 ?ch7) ?kB ?kF ?kK ?kN ?kT ?kk ?kd ?ku) _ _ ?_; (case kB => k_asm); (case kF => k_asm); (case kK => k_asm); (case kN => k_asm); (case kT => k_asm); (case kk => first | exact rfl | assumption); (case ch0 => k_mem); (case ch1 => k_mem); (case ch2 => k_mem); (case ch3 => k_mem); (case ch4 => omega); (case ch5 => omega); (case ch6 => omega); (case ch7 => omega); (case kd => ktr_room); (case ku => ktr_units); intro _ _ _ _ _ _ _ _ _ _ _ _ _ _ _ _; skip); (all_goals (try dsimp only [PySem.W.CmpBack, PySem.W.InitBack, PySem.W.BoolBack, PySem.W.LenBack, PySem.W.StrBack])); (all_goals (try k_fold))))
theorem f_pow1 {w : World} {p a v : Int} {tv : Tok} {x dx : Addr} {h1 h2 : Int} {k1 t1 k2 t2 : Tok} {e : Nat} {news : List (Addr × Obj)}
    (hx : (x, instObj 255 dx) ∈ news) (hdx : (dx, fqd p a h1 h2 k1 t1 k2 t2 e) ∈ news) (hp : 1 < p) (hp' : p ≤ 1000) (ha : 0 ≤ a ∧ a < p) (hv : v = 1) :
    At w 4 news fun Ar h₀ L m s => ∀ (Q E : Value → Shared → Prop), RetFQ 255 h₀ L m news s Q p (a.fmod p) →
      wpAny (model PySem.Challenge.rw_bw0041_01.row.prog w) Ar (call (.ref 189) [.ref x, .int v tv]) Q E s := by
  subst hv
  unfold At
  w_top off
  k_fill
  intro p' loose mean mg mb dp un gd cn cs fa ccd cl outer A₀ base h₀ L m s B F KX N T hk hd hu Q E hret
  refine wpAny_call ?_
  k_dflt (refine' code_def ?k1 ?k2 ?k3 ?k4 ?k5 ?kA ?kF ?kK ?k6 ?k7 ?k8 ?k9 ?kB ?_ ?c2 ?c3 ?c4 ?c5; (case kA => exact rfl); (case kF => exact rfl); (case kK => first | exact rfl | assumption); (case k1 => k_asm); (case k2 => k_asm); (case k3 => k_asm); (case k4 => k_asm); (case k5 => k_asm); (case k6 => k_is); (case k7 => k_is); (case k8 => ktr_room); (case k9 => exact BindsTo.of_eq rfl); (case c5 => decide); (case kB => exact locs rfl); (case c2 => exact rfl); (case c3 => exact rfl); (case c4 => exact rfl); k_whole; intro g' L' h' FG' F' N' B' X' T'; (try (replace F' : Fr _ _ _ (fun y => List.lookup y [(Str.ofString "other", _), (Str.ofString "self", _)]) := F')); (try dsimp only); (try k_lift B'); (try k_fold))
  k_steps
  all_goals (refine' endFQ (h' := _) (tk' := _) hret ?F ?N ?m ?m' ?s ?e ?r; (case F => assumption); (case N => assumption); (case m => k_mem); (case m' => k_mem); (case s => kcf_all); (case e => kwd_less; first | rfl | (simp only [ff (show 0 < p by omega)]; done)); (case r => exact fmod_bd (by omega)))
local macro_rules | `(tactic| kct_strs) => `(tactic| (k_here; (with_reducible show wpAny _ _ (call (Value.ref 189) _) _ _ _); k_dflt (refine' (At.use (f_pow1 ?ch0 ?ch1 ?ch2 ?ch3 ?ch4 ?ch5) ?kB ?kF ?kK ?kN ?kT ?kk ?kd ?ku) _ _ ?_; (case kB => k_asm); (case kF => k_asm); (case kK => k_asm); (case kN => k_asm); (case kT => k_asm); (case kk => first | exact rfl | assumption); (case ch0 => k_mem); (case ch1 => k_mem); (case ch2 => omega); (case ch3 => omega); (case ch4 => omega); (case ch5 => first | rfl | decide); (case kd => ktr_room); (case ku => ktr_units); intro _ _ _ _ _ _ _ _ _ _ _ _ _ _ _ _; skip); (all_goals (try dsimp only [PySem.W.CmpBack, PySem.W.InitBack, PySem.W.BoolBack, PySem.W.LenBack, PySem.W.StrBack])); (all_goals (try k_fold))))
theorem f_pow2 {w : World} {p a : Int} {tv : Tok} {x dx : Addr} {h1 h2 : Int} {k1 t1 k2 t2 : Tok} {e : Nat} {news : List (Addr × Obj)}
    (hx : (x, instObj 255 dx) ∈ news) (hdx : (dx, fqd p a h1 h2 k1 t1 k2 t2 e) ∈ news) (hp : 1 < p) (hp' : p ≤ 1000) (ha : 0 ≤ a ∧ a < p) :
    At w 6 news fun Ar h₀ L m s => ∀ (Q E : Value → Shared → Prop), RetFQ 255 h₀ L m news s Q p ((a * a).fmod p) →
      wpAny (model PySem.Challenge.rw_bw0041_01.row.prog w) Ar (call (.ref 189) [.ref x, .int 2 tv]) Q E s := by
  unfold At
  w_top off
  k_fill
  intro p' loose mean mg mb dp un gd cn cs fa ccd cl outer A₀ base h₀ L m s B F KX N T hk hd hu Q E hret
  refine wpAny_call ?_
  k_dflt (refine' code_def ?k1 ?k2 ?k3 ?k4 ?k5 ?kA ?kF ?kK ?k6 ?k7 ?k8 ?k9 ?kB ?_ ?c2 ?c3 ?c4 ?c5; (case kA => exact rfl); (case kF => exact rfl); (case kK => first | exact rfl | assumption); (case k1 => k_asm); (case k2 => k_asm); (case k3 => k_asm); (case k4 => k_asm); (case k5 => k_asm); (case k6 => k_is); (case k7 => k_is); (case k8 => ktr_room); (case k9 => exact BindsTo.of_eq rfl); (case c5 => decide); (case kB => exact locs rfl); (case c2 => exact rfl); (case c3 => exact rfl); (case c4 => exact rfl); k_whole; intro g' L' h' FG' F' N' B' X' T'; (try (replace F' : Fr _ _ _ (fun y => List.lookup y [(Str.ofString "other", _), (Str.ofString "self", _)]) := F')); (try dsimp only); (try k_lift B'); (try k_fold))
  k_steps
  all_goals (refine' endFQ (h' := _) (tk' := _) hret ?F ?N ?m ?m' ?s ?e ?r; (case F => assumption); (case N => assumption); (case m => k_mem); (case m' => k_mem); (case s => kcf_all); (case e => kwd_less; first | rfl | (simp only [ff (show 0 < p by omega)]; done)); (case r => exact fmod_bd (by omega)))
local macro_rules | `(tactic| kct_strs) => `(tactic| (k_here; (with_reducible show wpAny _ _ (call (Value.ref 189) _) _ _ _); k_dflt (refine' (At.use (f_pow2 ?ch0 ?ch1 ?ch2 ?ch3 ?ch4) ?kB ?kF ?kK ?kN ?kT ?kk ?kd ?ku) _ _ ?_; (case kB => k_asm); (case kF => k_asm); (case kK => k_asm); (case kN => k_asm); (case kT => k_asm); (case kk => first | exact rfl | assumption); (case ch0 => k_mem); (case ch1 => k_mem); (case ch2 => omega); (case ch3 => omega); (case ch4 => omega); (case kd => ktr_room); (case ku => ktr_units); intro _ _ _ _ _ _ _ _ _ _ _ _ _ _ _ _; skip); (all_goals (try dsimp only [PySem.W.CmpBack, PySem.W.InitBack, PySem.W.BoolBack, PySem.W.LenBack, PySem.W.StrBack])); (all_goals (try k_fold))))
theorem f_pow3 {w : World} {p a : Int} {tv : Tok} {x dx : Addr} {h1 h2 : Int} {k1 t1 k2 t2 : Tok} {e : Nat} {news : List (Addr × Obj)}
    (hx : (x, instObj 255 dx) ∈ news) (hdx : (dx, fqd p a h1 h2 k1 t1 k2 t2 e) ∈ news) (hp : 1 < p) (hp' : p ≤ 1000) (ha : 0 ≤ a ∧ a < p) :
    At w 6 news fun Ar h₀ L m s => ∀ (Q E : Value → Shared → Prop), RetFQ 255 h₀ L m news s Q p (((a * a).fmod p * a).fmod p) →
      wpAny (model PySem.Challenge.rw_bw0041_01.row.prog w) Ar (call (.ref 189) [.ref x, .int 3 tv]) Q E s := by
  unfold At
  w_top off
  k_fill
  intro p' loose mean mg mb dp un gd cn cs fa ccd cl outer A₀ base h₀ L m s B F KX N T hk hd hu Q E hret
  refine wpAny_call ?_
  k_dflt (refine' code_def ?k1 ?k2 ?k3 ?k4 ?k5 ?kA ?kF ?kK ?k6 ?k7 ?k8 ?k9 ?kB ?_ ?c2 ?c3 ?c4 ?c5; (case kA => exact rfl); (case kF => exact rfl); (case kK => first | exact rfl | assumption); (case k1 => k_asm); (case k2 => k_asm); (case k3 => k_asm); (case k4 => k_asm); (case k5 => k_asm); (case k6 => k_is); (case k7 => k_is); (case k8 => ktr_room); (case k9 => exact BindsTo.of_eq rfl); (case c5 => decide); (case kB => exact locs rfl); (case c2 => exact rfl); (case c3 => exact rfl); (case c4 => exact rfl); k_whole; intro g' L' h' FG' F' N' B' X' T'; (try (replace F' : Fr _ _ _ (fun y => List.lookup y [(Str.ofString "other", _), (Str.ofString "self", _)]) := F')); (try dsimp only); (try k_lift B'); (try k_fold))
  k_steps
  all_goals (refine' endFQ (h' := _) (tk' := _) hret ?F ?N ?m ?m' ?s ?e ?r; (case F => assumption); (case N => assumption); (case m => k_mem); (case m' => k_mem); (case s => kcf_all); (case e => kwd_less; first | rfl | (simp only [ff (show 0 < p by omega)]; done)); (case r => exact fmod_bd (by omega)))
local macro_rules | `(tactic| kct_strs) => `(tactic| (k_here; (with_reducible show wpAny _ _ (call (Value.ref 189) _) _ _ _); k_dflt (refine' (At.use (f_pow3 ?ch0 ?ch1 ?ch2 ?ch3 ?ch4) ?kB ?kF ?kK ?kN ?kT ?kk ?kd ?ku) _ _ ?_; (case kB => k_asm); (case kF => k_asm); (case kK => k_asm); (case kN => k_asm); (case kT => k_asm); (case kk => first | exact rfl | assumption); (case ch0 => k_mem); (case ch1 => k_mem); (case ch2 => omega); (case ch3 => omega); (case ch4 => omega); (case kd => ktr_room); (case ku => ktr_units); intro _ _ _ _ _ _ _ _ _ _ _ _ _ _ _ _; skip); (all_goals (try dsimp only [PySem.W.CmpBack, PySem.W.InitBack, PySem.W.BoolBack, PySem.W.LenBack, PySem.W.StrBack])); (all_goals (try k_fold))))
theorem o_div {w : World} {p a b : Int} {x dx : Addr} {h1 h2 : Int} {k1 t1 k2 t2 : Tok} {e : Nat} {y dy : Addr} {g1 g2 : Int} {l1 u1 l2 u2 : Tok} {e' : Nat} {news : List (Addr × Obj)}
    (hx : (x, instObj 417 dx) ∈ news) (hdx : (dx, fqd p a h1 h2 k1 t1 k2 t2 e) ∈ news) (hy : (y, instObj 417 dy) ∈ news) (hdy : (dy, fqd p b g1 g2 l1 u1 l2 u2 e') ∈ news) (hp : 1 < p) (hp' : p ≤ 1000) (ha : 0 ≤ a ∧ a < p) (hb : 0 ≤ b ∧ b < p) :
    At w 4 news fun Ar h₀ L m s => ∀ (Q E : Value → Shared → Prop), RetFQ 417 h₀ L m news s Q p ((a * invF (b.fmod p) p).fmod p) →
      wpAny (model PySem.Challenge.rw_bw0041_01.row.prog w) Ar (call (.ref 329) [.ref x, .ref y]) Q E s := by
  unfold At
  w_top off
  k_fill
  intro p' loose mean mg mb dp un gd cn cs fa ccd cl outer A₀ base h₀ L m s B F KX N T hk hd hu Q E hret
  refine wpAny_call ?_
  k_dflt (refine' code_def ?k1 ?k2 ?k3 ?k4 ?k5 ?kA ?kF ?kK ?k6 ?k7 ?k8 ?k9 ?kB ?_ ?c2 ?c3 ?c4 ?c5; (case kA => exact rfl); (case kF => exact rfl); (case kK => first | exact rfl | assumption); (case k1 => k_asm); (case k2 => k_asm); (case k3 => k_asm); (case k4 => k_asm); (case k5 => k_asm); (case k6 => k_is); (case k7 => k_is); (case k8 => ktr_room); (case k9 => exact BindsTo.of_eq rfl); (case c5 => decide); (case kB => exact locs rfl); (case c2 => exact rfl); (case c3 => exact rfl); (case c4 => exact rfl); k_whole; intro g' L' h' FG' F' N' B' X' T'; (try (replace F' : Fr _ _ _ (fun y => List.lookup y [(Str.ofString "other", _), (Str.ofString "self", _)]) := F')); (try dsimp only); (try k_lift B'); (try k_fold))
  k_steps
  all_goals (refine' endFQ (h' := _) (tk' := _) hret ?F ?N ?m ?m' ?s ?e ?r; (case F => assumption); (case N => assumption); (case m => k_mem); (case m' => k_mem); (case s => kcf_all); (case e => kwd_less; first | rfl | (simp only [ff (show 0 < p by omega)]; done)); (case r => exact fmod_bd (by omega)))
local macro_rules | `(tactic| kct_strs) => `(tactic| (k_here; (with_reducible show wpAny _ _ (call (Value.ref 329) _) _ _ _); k_dflt (refine' (At.use (o_div ?ch0 ?ch1 ?ch2 ?ch3 ?ch4 ?ch5 ?ch6 ?ch7) ?kB ?kF ?kK ?kN ?kT ?kk ?kd ?ku) _ _ ?_; (case kB => k_asm); (case kF => k_asm); (case kK => k_asm); (case kN => k_asm); (case kT => k_asm); (case kk => first | exact rfl | assumption); (case ch0 => k_mem); (case ch1 => k_mem); (case ch2 => k_mem); (case ch3 => k_mem); (case ch4 => omega); (case ch5 => omega); (case ch6 => omega); (case ch7 => omega); (case kd => ktr_room); (case ku => ktr_units); intro _ _ _ _ _ _ _ _ _ _ _ _ _ _ _ _; skip); (all_goals (try dsimp only [PySem.W.CmpBack, PySem.W.InitBack, PySem.W.BoolBack, PySem.W.LenBack, PySem.W.StrBack])); (all_goals (try k_fold))))
theorem o_one {w : World} {p a : Int} {x dx : Addr} {h1 h2 : Int} {k1 t1 k2 t2 : Tok} {e : Nat} {news : List (Addr × Obj)}
    (hx : (x, instObj 417 dx) ∈ news) (hdx : (dx, fqd p a h1 h2 k1 t1 k2 t2 e) ∈ news) (hp : 1 < p) (hp' : p ≤ 1000) :
    At w 4 news fun Ar h₀ L m s => ∀ (Q E : Value → Shared → Prop), RetFQ 417 h₀ L m news s Q p ((1 : Int).fmod p) →
      wpAny (model PySem.Challenge.rw_bw0041_01.row.prog w) Ar (call (.ref 407) [.ref x]) Q E s := by
  unfold At
  w_top off
  k_fill
  intro p' loose mean mg mb dp un gd cn cs fa ccd cl outer A₀ base h₀ L m s B F KX N T hk hd hu Q E hret
  refine wpAny_call ?_
  k_dflt (refine' code_def ?k1 ?k2 ?k3 ?k4 ?k5 ?kA ?kF ?kK ?k6 ?k7 ?k8 ?k9 ?kB ?_ ?c2 ?c3 ?c4 ?c5; (case kA => exact rfl); (case kF => exact rfl); (case kK => first | exact rfl | assumption); (case k1 => k_asm); (case k2 => k_asm); (case k3 => k_asm); (case k4 => k_asm); (case k5 => k_asm); (case k6 => k_is); (case k7 => k_is); (case k8 => ktr_room); (case k9 => exact BindsTo.of_eq rfl); (case c5 => decide); (case kB => exact locs rfl); (case c2 => exact rfl); (case c3 => exact rfl); (case c4 => exact rfl); k_whole; intro g' L' h' FG' F' N' B' X' T'; (try (replace F' : Fr _ _ _ (fun y => List.lookup y [(Str.ofString "self", _)]) := F')); (try dsimp only); (try k_lift B'); (try k_fold))
  k_steps
  all_goals (refine' endFQ (h' := _) (tk' := _) hret ?F ?N ?m ?m' ?s ?e ?r; (case F => assumption); (case N => assumption); (case m => k_mem); (case m' => k_mem); (case s => kcf_all); (case e => kwd_less; first | rfl | (simp only [ff (show 0 < p by omega)]; done)); (case r => exact fmod_bd (by omega)))
local macro_rules | `(tactic| kct_strs) => `(tactic| (k_here; (with_reducible show wpAny _ _ (call (Value.ref 407) _) _ _ _); k_dflt (refine' (At.use (o_one ?ch0 ?ch1 ?ch2 ?ch3) ?kB ?kF ?kK ?kN ?kT ?kk ?kd ?ku) _ _ ?_; (case kB => k_asm); (case kF => k_asm); (case kK => k_asm); (case kN => k_asm); (case kT => k_asm); (case kk => first | exact rfl | assumption); (case ch0 => k_mem); (case ch1 => k_mem); (case ch2 => omega); (case ch3 => omega); (case kd => ktr_room); (case ku => ktr_units); intro _ _ _ _ _ _ _ _ _ _ _ _ _ _ _ _; skip); (all_goals (try dsimp only [PySem.W.CmpBack, PySem.W.InitBack, PySem.W.BoolBack, PySem.W.LenBack, PySem.W.StrBack])); (all_goals (try k_fold))))
theorem o_zero {w : World} {p a : Int} {x dx : Addr} {h1 h2 : Int} {k1 t1 k2 t2 : Tok} {e : Nat} {news : List (Addr × Obj)}
    (hx : (x, instObj 417 dx) ∈ news) (hdx : (dx, fqd p a h1 h2 k1 t1 k2 t2 e) ∈ news) (hp : 1 < p) (hp' : p ≤ 1000) :
    At w 4 news fun Ar h₀ L m s => ∀ (Q E : Value → Shared → Prop), RetFQ 417 h₀ L m news s Q p ((0 : Int).fmod p) →
      wpAny (model PySem.Challenge.rw_bw0041_01.row.prog w) Ar (call (.ref 414) [.ref x]) Q E s := by
  unfold At
  w_top off
  k_fill
  intro p' loose mean mg mb dp un gd cn cs fa ccd cl outer A₀ base h₀ L m s B F KX N T hk hd hu Q E hret
  refine wpAny_call ?_
  k_dflt (refine' code_def ?k1 ?k2 ?k3 ?k4 ?k5 ?kA ?kF ?kK ?k6 ?k7 ?k8 ?k9 ?kB ?_ ?c2 ?c3 ?c4 ?c5; (case kA => exact rfl); (case kF => exact rfl); (case kK => first | exact rfl | assumption); (case k1 => k_asm); (case k2 => k_asm); (case k3 => k_asm); (case k4 => k_asm); (case k5 => k_asm); (case k6 => k_is); (case k7 => k_is); (case k8 => ktr_room); (case k9 => exact BindsTo.of_eq rfl); (case c5 => decide); (case kB => exact locs rfl); (case c2 => exact rfl); (case c3 => exact rfl); (case c4 => exact rfl); k_whole; intro g' L' h' FG' F' N' B' X' T'; (try (replace F' : Fr _ _ _ (fun y => List.lookup y [(Str.ofString "self", _)]) := F')); (try dsimp only); (try k_lift B'); (try k_fold))
  k_steps
  all_goals (refine' endFQ (h' := _) (tk' := _) hret ?F ?N ?m ?m' ?s ?e ?r; (case F => assumption); (case N => assumption); (case m => k_mem); (case m' => k_mem); (case s => kcf_all); (case e => kwd_less; first | rfl | (simp only [ff (show 0 < p by omega)]; done)); (case r => exact fmod_bd (by omega)))
local macro_rules | `(tactic| kct_strs) => `(tactic| (k_here; (with_reducible show wpAny _ _ (call (Value.ref 414) _) _ _ _); k_dflt (refine' (At.use (o_zero ?ch0 ?ch1 ?ch2 ?ch3) ?kB ?kF ?kK ?kN ?kT ?kk ?kd ?ku) _ _ ?_; (case kB => k_asm); (case kF => k_asm); (case kK => k_asm); (case kN => k_asm); (case kT => k_asm); (case kk => first | exact rfl | assumption); (case ch0 => k_mem); (case ch1 => k_mem); (case ch2 => omega); (case ch3 => omega); (case kd => ktr_room); (case ku => ktr_units); intro _ _ _ _ _ _ _ _ _ _ _ _ _ _ _ _; skip); (all_goals (try dsimp only [PySem.W.CmpBack, PySem.W.InitBack, PySem.W.BoolBack, PySem.W.LenBack, PySem.W.StrBack])); (all_goals (try k_fold))))
end
local macro_rules | `(tactic| kct_strs) => `(tactic| (k_here; (with_reducible show wpAny _ _ (call (Value.ref 112) _) _ _ _); k_dflt (refine' (At.use (c_pfi ?ch0 ?ch1) ?kB ?kF ?kK ?kN ?kT ?kk ?kd ?ku) _ _ ?_; (case kB => k_asm); (case kF => k_asm); (case kK => k_asm); (case kN => k_asm); (case kT => k_asm); (case kk => first | exact rfl | assumption); (case ch0 => omega); (case ch1 => omega); (case kd => ktr_room); (case ku => ktr_units); intro _ _ _ _ _ _ _ _; skip); (all_goals (try dsimp only [PySem.W.CmpBack, PySem.W.InitBack, PySem.W.BoolBack, PySem.W.LenBack, PySem.W.StrBack])); (all_goals (try k_fold))))
local macro_rules | `(tactic| kct_strs) => `(tactic| (k_here; (with_reducible show wpAny _ _ (call (Value.ref 175) _) _ _ _); k_dflt (refine' (At.use (f_div ?ch0 ?ch1 ?ch2 ?ch3 ?ch4 ?ch5 ?ch6 ?ch7) ?kB ?kF ?kK ?kN ?kT ?kk ?kd ?ku) _ _ ?_; (case kB => k_asm); (case kF => k_asm); (case kK => k_asm); (case kN => k_asm); (case kT => k_asm); (case kk => first | exact rfl | assumption); (case ch0 => k_mem); (case ch1 => k_mem); (case ch2 => k_mem); (case ch3 => k_mem); (case ch4 => omega); (case ch5 => omega); (case ch6 => omega); (case ch7 => omega); (case kd => ktr_room); (case ku => ktr_units); intro _ _ _ _ _ _ _ _ _ _ _ _ _ _ _ _; skip); (all_goals (try dsimp only [PySem.W.CmpBack, PySem.W.InitBack, PySem.W.BoolBack, PySem.W.LenBack, PySem.W.StrBack])); (all_goals (try k_fold))))
local macro_rules | `(tactic| kct_strs) => `(tactic| (k_here; (with_reducible show wpAny _ _ (call (Value.ref 189) _) _ _ _); k_dflt (refine' (At.use (f_pow1 ?ch0 ?ch1 ?ch2 ?ch3 ?ch4 ?ch5) ?kB ?kF ?kK ?kN ?kT ?kk ?kd ?ku) _ _ ?_; (case kB => k_asm); (case kF => k_asm); (case kK => k_asm); (case kN => k_asm); (case kT => k_asm); (case kk => first | exact rfl | assumption); (case ch0 => k_mem); (case ch1 => k_mem); (case ch2 => omega); (case ch3 => omega); (case ch4 => omega); (case ch5 => first | rfl | decide); (case kd => ktr_room); (case ku => ktr_units); intro _ _ _ _ _ _ _ _ _ _ _ _ _ _ _ _; skip); (all_goals (try dsimp only [PySem.W.CmpBack, PySem.W.InitBack, PySem.W.BoolBack, PySem.W.LenBack, PySem.W.StrBack])); (all_goals (try k_fold))))
local macro_rules | `(tactic| kct_strs) => `(tactic| (k_here; (with_reducible show wpAny _ _ (call (Value.ref 189) _) _ _ _); k_dflt (refine' (At.use (f_pow2 ?ch0 ?ch1 ?ch2 ?ch3 ?ch4) ?kB ?kF ?kK ?kN ?kT ?kk ?kd ?ku) _ _ ?_; (case kB => k_asm); (case kF => k_asm); (case kK => k_asm); (case kN => k_asm); (case kT => k_asm); (case kk => first | exact rfl | assumption); (case ch0 => k_mem); (case ch1 => k_mem); (case ch2 => omega); (case ch3 => omega); (case ch4 => omega); (case kd => ktr_room); (case ku => ktr_units); intro _ _ _ _ _ _ _ _ _ _ _ _ _ _ _ _; skip); (all_goals (try dsimp only [PySem.W.CmpBack, PySem.W.InitBack, PySem.W.BoolBack, PySem.W.LenBack, PySem.W.StrBack])); (all_goals (try k_fold))))
local macro_rules | `(tactic| kct_strs) => `(tactic| (k_here; (with_reducible show wpAny _ _ (call (Value.ref 189) _) _ _ _); k_dflt (refine' (At.use (f_pow3 ?ch0 ?ch1 ?ch2 ?ch3 ?ch4) ?kB ?kF ?kK ?kN ?kT ?kk ?kd ?ku) _ _ ?_; (case kB => k_asm); (case kF => k_asm); (case kK => k_asm); (case kN => k_asm); (case kT => k_asm); (case kk => first | exact rfl | assumption); (case ch0 => k_mem); (case ch1 => k_mem); (case ch2 => omega); (case ch3 => omega); (case ch4 => omega); (case kd => ktr_room); (case ku => ktr_units); intro _ _ _ _ _ _ _ _ _ _ _ _ _ _ _ _; skip); (all_goals (try dsimp only [PySem.W.CmpBack, PySem.W.InitBack, PySem.W.BoolBack, PySem.W.LenBack, PySem.W.StrBack])); (all_goals (try k_fold))))
local macro_rules | `(tactic| kct_strs) => `(tactic| (k_here; (with_reducible show wpAny _ _ (call (Value.ref 329) _) _ _ _); k_dflt (refine' (At.use (o_div ?ch0 ?ch1 ?ch2 ?ch3 ?ch4 ?ch5 ?ch6 ?ch7) ?kB ?kF ?kK ?kN ?kT ?kk ?kd ?ku) _ _ ?_; (case kB => k_asm); (case kF => k_asm); (case kK => k_asm); (case kN => k_asm); (case kT => k_asm); (case kk => first | exact rfl | assumption); (case ch0 => k_mem); (case ch1 => k_mem); (case ch2 => k_mem); (case ch3 => k_mem); (case ch4 => omega); (case ch5 => omega); (case ch6 => omega); (case ch7 => omega); (case kd => ktr_room); (case ku => ktr_units); intro _ _ _ _ _ _ _ _ _ _ _ _ _ _ _ _; skip); (all_goals (try dsimp only [PySem.W.CmpBack, PySem.W.InitBack, PySem.W.BoolBack, PySem.W.LenBack, PySem.W.StrBack])); (all_goals (try k_fold))))
local macro_rules | `(tactic| kct_strs) => `(tactic| (k_here; (with_reducible show wpAny _ _ (call (Value.ref 407) _) _ _ _); k_dflt (refine' (At.use (o_one ?ch0 ?ch1 ?ch2 ?ch3) ?kB ?kF ?kK ?kN ?kT ?kk ?kd ?ku) _ _ ?_; (case kB => k_asm); (case kF => k_asm); (case kK => k_asm); (case kN => k_asm); (case kT => k_asm); (case kk => first | exact rfl | assumption); (case ch0 => k_mem); (case ch1 => k_mem); (case ch2 => omega); (case ch3 => omega); (case kd => ktr_room); (case ku => ktr_units); intro _ _ _ _ _ _ _ _ _ _ _ _ _ _ _ _; skip); (all_goals (try dsimp only [PySem.W.CmpBack, PySem.W.InitBack, PySem.W.BoolBack, PySem.W.LenBack, PySem.W.StrBack])); (all_goals (try k_fold))))
local macro_rules | `(tactic| kct_strs) => `(tactic| (k_here; (with_reducible show wpAny _ _ (call (Value.ref 414) _) _ _ _); k_dflt (refine' (At.use (o_zero ?ch0 ?ch1 ?ch2 ?ch3) ?kB ?kF ?kK ?kN ?kT ?kk ?kd ?ku) _ _ ?_; (case kB => k_asm); (case kF => k_asm); (case kK => k_asm); (case kN => k_asm); (case kT => k_asm); (case kk => first | exact rfl | assumption); (case ch0 => k_mem); (case ch1 => k_mem); (case ch2 => omega); (case ch3 => omega); (case kd => ktr_room); (case ku => ktr_units); intro _ _ _ _ _ _ _ _ _ _ _ _ _ _ _ _; skip); (all_goals (try dsimp only [PySem.W.CmpBack, PySem.W.InitBack, PySem.W.BoolBack, PySem.W.LenBack, PySem.W.StrBack])); (all_goals (try k_fold))))
section
theorem int_mul_plain (a : Int) (t : Tok) (x : Addr) (c : Value) (d : Option Addr) (sl : Array (Option Value)) :
    Meets (Builtin.«int.__mul__» ⟨[.int a t, .ref x], []⟩) (fun _ R s => s.heap.get? x = some { cls := c, dict := d, data := .plain, slots := sl } ∧ R (.ok (.ret Value.notImplemented)) s) :=
  .of_wp fun prog w A R s h => by obtain ⟨hp, g, d, tk, os⟩ := s; obtain ⟨hl, h⟩ := h; wp_walk; exact ⟨_, rfl, h⟩
theorem rmul_K {prog : Program} {w : World} {A : Around} {E : Value → Shared → Prop} {s : Shared} {K : Frag} {x C dx L f f' : Addr} {h₀ : Heap} {m : Str → Option Value} {i : Int} {t : Tok} {od : Option Obj} {Q : Value → Shared → Prop}
    (F : Fr h₀ L s.heap m) (X₀ : K.In h₀) (I : InstAt s.heap x (instObj C dx) C od) (hc : selfFirst K C = true) (hs : findIn K (.ref C) (PySem.dunder "mul") = some (some (.ref f'))) (hr : findIn K (.ref C) (dunderR "mul") = some (some (.ref f))) (hf : isFn K (.ref f) = true)
    (hsub : subIn K (.ref C) (.type "int") = some false)
    (h : wpAny (model prog w) A (call (.ref f) [.ref x, .int i t]) (PySem.W.CmpBack Q) E s) : wpAny (model prog w) A (binaryOp .Mult (.int i t) (.ref x)) Q E s := by
  have X := X₀.keeps F.keep
  obtain ⟨cd, rest, hcd, hm⟩ := ksp_first hc
  have one := ksp_try X I hr hf h
  have hg : s.heap.get? x = some (instObj C dx) := I.1
  have dec : wpAny (model prog w) A (call (.builtin "int.__mul__") [.int i t, .ref x]) (fun v s' => v = .notImplemented ∧ s' = s) E s :=
    call_meets PySem.F.slot_int_mul (typeIs_int s i t) PySem.F.entry_int_mul (PySem.F.args_int_mul_2 _ _) (int_mul_plain i t x _ _ _) ⟨hg, rfl, rfl⟩
  have tm : wpAny (model prog w) A (tryMethod (.int i t) (PySem.dunder "mul") (.ref x)) (fun r s' => r = none ∧ s' = s) E s := by
    refine wpAny_tryMethod_declines (T := "int") (id := "int.__mul__") ?_ ?_ ?_
    · exact typeIs_int s i t
    · exact PySem.F.slot_int_mul
    · exact wpAny_mono dec (fun v s' h' => ⟨h'.1, rfl, h'.2⟩) fun _ _ e => e
  have L1 : Looks (model prog w) s.heap (typeOf (.ref x)) (.ref C) := I.type
  have L3 : Looks (model prog w) s.heap (fillsNumberSlot (.ref C) "mul") true := fills_K X hcd hm hs
  have L5 : Looks (model prog w) s.heap (isSubtype (.ref C) (.type "int")) false := looks_subIn X hsub
  have hne : (Value.type "int" == Value.ref C) = false := Bool.eq_false_iff.mpr fun q => by cases beq_iff_eq.mp q
  unfold binaryOp
  refine wpAny_holding (wpAny_bind ?_)
  unfold binaryOp1
  refine wpAny_bind (wpAny_typeOf (typeIs_int s i t) (wpAny_bind (L1.here (wpAny_bind (wpAny_of_eq PySem.F.fills_int_mul ?_)))))
  simp only [hne, Bool.false_eq_true, if_false]
  refine wpAny_bind (L3.here ?_)
  simp only [Bool.and_self, if_true]
  refine wpAny_bind (L5.here ?_)
  have L7 : Looks (model prog w) s.heap (numberSlotInPython (.type "int") "mul") false := Looks.of_pure rfl
  simp only [Bool.false_eq_true, if_false, pure_bind, Bool.not_false, Bool.and_self, if_true]
  refine wpAny_bind (L7.here ?_)
  simp only [Bool.false_eq_true, if_false, pure_bind, Bool.not_false, Bool.and_self, if_true]
  refine wpAny_bind (wpAny_mono tm (fun r s' hr => ?_) fun _ _ e => e)
  obtain ⟨rfl, rfl⟩ := hr
  simp only [Bool.false_eq_true, if_false, pure_bind, Bool.not_false, Bool.and_self, if_true]
  refine wpAny_bind (wpAny_mono one (fun r s' hr' => ?_) fun _ _ e => e)
  obtain ⟨v, rfl, hq⟩ := hr'
  exact wpAny_bind (wpAny_rule (wpAny_pure (wpAny_pure hq)))
local macro_rules | `(tactic| walk_at "binaryOp Mult int ref") => `(tactic| (k_here; k_dflt (refine' rmul_K ?F ?X ?I ?hC ?hS ?hR ?hF ?hU ?_; (case F => k_asm); (case X => k_asm); (case I => k_inst); (case hS => k_is); (case hR => k_is); (case hC => k_is); (case hF => k_is); (case hU => k_is); k_whole))) --KEEP
abbrev tupR2 (x y : Addr) (n : Nat) : Obj := { cls := .type "tuple", data := .seq #[.ref x, .ref y] n }
section
variable {h₀ : Heap} {L : Addr} {m : Str → Option Value} {news news' : List (Addr × Obj)} {s : Shared} {Q : Value → Shared → Prop} {h' : Heap} {tk' : Nat}
def RetP (C : Addr) (h₀ : Heap) (L : Addr) (m : Str → Option Value) (news : List (Addr × Obj)) (s : Shared) (Q : Value → Shared → Prop) (p : Int) (r : Int × Int) : Prop :=
  ∀ (a b : Int) (D x dx : Addr) (h1 h2 : Int) (k1 t1 k2 t2 : Tok) (e : Nat) (y dy : Addr) (g1 g2 : Int) (l1 u1 l2 u2 : Tok) (e' n : Nat) (h' : Heap) (tk' : Nat), Is a r.1 → Is b r.2 → (0 ≤ a ∧ a < p) → (0 ≤ b ∧ b < p) → Fr h₀ L h' m → News h₀ L h' ((D, tupR2 x y n) :: (x, instObj C dx) :: (dx, fqd p a h1 h2 k1 t1 k2 t2 e) :: (y, instObj C dy) :: (dy, fqd p b g1 g2 l1 u1 l2 u2 e') :: news) →
    Q (.ref D) { s with heap := h', toks := tk' }
theorem endP {C : Addr} {p ra rb : Int} {r : Int × Int} {D x dx y dy : Addr} {h1 h2 g1 g2 : Int} {k1 t1 k2 t2 l1 u1 l2 u2 : Tok} {e e' n : Nat} (h : RetP C h₀ L m news s Q p r) (F : Fr h₀ L h' m) (N : News h₀ L h' news') (hm : (D, tupR2 x y n) ∈ news') (hx : (x, instObj C dx) ∈ news') (hdx : (dx, fqd p ra h1 h2 k1 t1 k2 t2 e) ∈ news') (hy : (y, instObj C dy) ∈ news') (hdy : (dy, fqd p rb g1 g2 l1 u1 l2 u2 e') ∈ news')
    (hs : ∀ p ∈ news, p ∈ news') (he : (ra, rb) = r) (hr : In2 p r) : Q (.ref D) { s with heap := h', toks := tk' } := by
  subst he
  refine h ra rb D x dx h1 h2 k1 t1 k2 t2 e y dy g1 g2 l1 u1 l2 u2 e' n h' tk' (.refl _) (.refl _) hr.1 hr.2 F fun q hq => ?_
  rcases List.mem_cons.mp hq with rfl | hq
  · exact N _ hm
  rcases List.mem_cons.mp hq with rfl | hq
  · exact N _ hx
  rcases List.mem_cons.mp hq with rfl | hq
  · exact N _ hdx
  rcases List.mem_cons.mp hq with rfl | hq
  · exact N _ hy
  rcases List.mem_cons.mp hq with rfl | hq
  · exact N _ hdy
  · exact N q (hs q hq)
end
def bny (p m nx x y : Int) : Int := ((((-m).fmod p * nx).fmod p + (m * x).fmod p).fmod p - y).fmod p
def bdm (p x y : Int) : Int := (((x * x).fmod p * 3).fmod p * invF (((y * 2).fmod p).fmod p) p).fmod p
def bdx (p x y : Int) : Int := ((bdm p x y * bdm p x y).fmod p - (x * 2).fmod p).fmod p
def bdbl (p x y : Int) : Int × Int := (bdx p x y, bny p (bdm p x y) (bdx p x y) x y)
theorem bdbl_in {p x y : Int} (hp : 1 < p) : In2 p (bdbl p x y) := ⟨fmod_bd (by omega), fmod_bd (by omega)⟩
local macro_rules | `(tactic| kct_strs) => `(tactic| (k_here; (with_reducible show wpAny _ _ (call (Value.ref 84) _) _ _ _); refine wpAny_call ?_; k_dflt (refine' code_def ?k1 ?k2 ?k3 ?k4 ?k5 ?kA ?kF ?kK ?k6 ?k7 ?k8 ?k9 ?kB ?_ ?c2 ?c3 ?c4 ?c5; (case kA => exact rfl); (case kF => exact rfl); (case kK => first | exact rfl | assumption); (case k1 => k_asm); (case k2 => k_asm); (case k3 => k_asm); (case k4 => k_asm); (case k5 => k_asm); (case k6 => k_is); (case k7 => k_is); (case k8 => ktr_room); (case k9 => exact BindsTo.of_eq rfl); (case c5 => decide); (case kB => exact locs rfl); (case c2 => exact rfl); (case c3 => exact rfl); (case c4 => exact rfl); k_whole; intro g' L' h' FG' F' N' B' X' T'; (try (replace F' : Fr _ _ _ (fun y => List.lookup y [(Str.ofString "pt", _)]) := F')); (try dsimp only); (try k_lift B'); (try k_fold))))
theorem c_bdbl {w : World} {p a b : Int} {D x dx y dy : Addr} {h1 h2 g1 g2 : Int} {k1 t1 k2 t2 l1 u1 l2 u2 : Tok} {e e' n : Nat} {news : List (Addr × Obj)}
    (hD : (D, tupR2 x y n) ∈ news) (hx : (x, instObj 255 dx) ∈ news) (hdx : (dx, fqd p a h1 h2 k1 t1 k2 t2 e) ∈ news) (hy : (y, instObj 255 dy) ∈ news) (hdy : (dy, fqd p b g1 g2 l1 u1 l2 u2 e') ∈ news) (hp : 1 < p) (hp' : p ≤ 1000) (ha : 0 ≤ a ∧ a < p) (hb : 0 ≤ b ∧ b < p) :
    At w 8 news fun Ar h₀ L m s => ∀ (Q E : Value → Shared → Prop), RetP 255 h₀ L m news s Q p (bdbl p a b) →
      wpAny (model PySem.Challenge.rw_bw0041_01.row.prog w) Ar (call (.ref 98) [.ref D]) Q E s := by
  unfold At
  w_top off
  k_fill
  intro p' loose mean mg mb dp un gd cn cs fa ccd cl outer A₀ base h₀ L m s B F KX N T hk hd hu Q E hret
  refine wpAny_call ?_
  k_dflt (refine' code_def ?k1 ?k2 ?k3 ?k4 ?k5 ?kA ?kF ?kK ?k6 ?k7 ?k8 ?k9 ?kB ?_ ?c2 ?c3 ?c4 ?c5; (case kA => exact rfl); (case kF => exact rfl); (case kK => first | exact rfl | assumption); (case k1 => k_asm); (case k2 => k_asm); (case k3 => k_asm); (case k4 => k_asm); (case k5 => k_asm); (case k6 => k_is); (case k7 => k_is); (case k8 => ktr_room); (case k9 => exact BindsTo.of_eq rfl); (case c5 => decide); (case kB => exact locs rfl); (case c2 => exact rfl); (case c3 => exact rfl); (case c4 => exact rfl); k_whole; intro g' L' h' FG' F' N' B' X' T'; (try (replace F' : Fr _ _ _ (fun y => List.lookup y [(Str.ofString "pt", _)]) := F')); (try dsimp only); (try k_lift B'); (try k_fold))
  k_steps
  all_goals (refine' endP (h' := _) (tk' := _) hret ?F ?N ?m ?x ?dx ?y ?dy ?s ?e (bdbl_in hp); (case F => assumption); (case N => assumption); (case m => k_mem); (case x => k_mem); (case dx => k_mem); (case y => k_mem); (case dy => k_mem); (case s => kcf_all); (case e => (kwd_less; rfl)))
local macro_rules | `(tactic| kct_strs) => `(tactic| (k_here; (with_reducible show wpAny _ _ (call (Value.ref 98) _) _ _ _); k_dflt (refine' (At.use (c_bdbl ?ch0 ?ch1 ?ch2 ?ch3 ?ch4 ?ch5 ?ch6 ?ch7 ?ch8) ?kB ?kF ?kK ?kN ?kT ?kk ?kd ?ku) _ _ ?_; (case kB => k_asm); (case kF => k_asm); (case kK => k_asm); (case kN => k_asm); (case kT => k_asm); (case kk => first | exact rfl | assumption); (case ch0 => k_mem); (case ch1 => k_mem); (case ch2 => k_mem); (case ch3 => k_mem); (case ch4 => k_mem); (case ch5 => omega); (case ch6 => omega); (case ch7 => omega); (case ch8 => omega); (case kd => ktr_room); (case ku => ktr_units); intro _ _ _ _ _ _ _ _ _ _ _ _ _ _ _ _ _ _ _ _ _ _ _ _ _ _ _ _ _; skip); (all_goals (try dsimp only [PySem.W.CmpBack, PySem.W.InitBack, PySem.W.BoolBack, PySem.W.LenBack, PySem.W.StrBack])); (all_goals (try k_fold))))
end
local macro_rules | `(tactic| walk_at "binaryOp Mult int ref") => `(tactic| (k_here; k_dflt (refine' rmul_K ?F ?X ?I ?hC ?hS ?hR ?hF ?hU ?_; (case F => k_asm); (case X => k_asm); (case I => k_inst); (case hS => k_is); (case hR => k_is); (case hC => k_is); (case hF => k_is); (case hU => k_is); k_whole))) --KEEP
local macro_rules | `(tactic| kct_strs) => `(tactic| (k_here; (with_reducible show wpAny _ _ (call (Value.ref 84) _) _ _ _); refine wpAny_call ?_; k_dflt (refine' code_def ?k1 ?k2 ?k3 ?k4 ?k5 ?kA ?kF ?kK ?k6 ?k7 ?k8 ?k9 ?kB ?_ ?c2 ?c3 ?c4 ?c5; (case kA => exact rfl); (case kF => exact rfl); (case kK => first | exact rfl | assumption); (case k1 => k_asm); (case k2 => k_asm); (case k3 => k_asm); (case k4 => k_asm); (case k5 => k_asm); (case k6 => k_is); (case k7 => k_is); (case k8 => ktr_room); (case k9 => exact BindsTo.of_eq rfl); (case c5 => decide); (case kB => exact locs rfl); (case c2 => exact rfl); (case c3 => exact rfl); (case c4 => exact rfl); k_whole; intro g' L' h' FG' F' N' B' X' T'; (try (replace F' : Fr _ _ _ (fun y => List.lookup y [(Str.ofString "pt", _)]) := F')); (try dsimp only); (try k_lift B'); (try k_fold))))
local macro_rules | `(tactic| kct_strs) => `(tactic| (k_here; (with_reducible show wpAny _ _ (call (Value.ref 98) _) _ _ _); k_dflt (refine' (At.use (c_bdbl ?ch0 ?ch1 ?ch2 ?ch3 ?ch4 ?ch5 ?ch6 ?ch7 ?ch8) ?kB ?kF ?kK ?kN ?kT ?kk ?kd ?ku) _ _ ?_; (case kB => k_asm); (case kF => k_asm); (case kK => k_asm); (case kN => k_asm); (case kT => k_asm); (case kk => first | exact rfl | assumption); (case ch0 => k_mem); (case ch1 => k_mem); (case ch2 => k_mem); (case ch3 => k_mem); (case ch4 => k_mem); (case ch5 => omega); (case ch6 => omega); (case ch7 => omega); (case ch8 => omega); (case kd => ktr_room); (case ku => ktr_units); intro _ _ _ _ _ _ _ _ _ _ _ _ _ _ _ _ _ _ _ _ _ _ _ _ _ _ _ _ _; skip); (all_goals (try dsimp only [PySem.W.CmpBack, PySem.W.InitBack, PySem.W.BoolBack, PySem.W.LenBack, PySem.W.StrBack])); (all_goals (try k_fold))))
section
theorem news_sub {h₀ h : Heap} {L : Addr} {news news' : List (Addr × Obj)} (N : News h₀ L h news') (hs : ∀ p ∈ news, p ∈ news') : News h₀ L h news := fun p hp => N p (hs p hp)
def bm (p x1 y1 x2 y2 : Int) : Int := ((y2 - y1).fmod p * invF (((x2 - x1).fmod p).fmod p) p).fmod p
def bx (p x1 y1 x2 y2 : Int) : Int := (((bm p x1 y1 x2 y2 * bm p x1 y1 x2 y2).fmod p - x1).fmod p - x2).fmod p
def badd (p x1 y1 x2 y2 : Int) : Option (Int × Int) :=
  if x2 = x1 then (if y2 = y1 then some (bdbl p x1 y1) else none) else some (bx p x1 y1 x2 y2, bny p (bm p x1 y1 x2 y2) (bx p x1 y1 x2 y2) x1 y1)
theorem badd_in {p x1 y1 x2 y2 : Int} (hp : 1 < p) : ∀ r, badd p x1 y1 x2 y2 = some r → In2 p r := by
  intro r h
  unfold badd at h
  split at h
  · split at h
    · cases h; exact bdbl_in hp
    · cases h
  · cases h; exact ⟨fmod_bd (by omega), fmod_bd (by omega)⟩
/-- what add asks of its own answer -/
def BOk (p x1 y1 x2 y2 : Int) : Prop := x2 ≠ x1 → bny p (bm p x1 y1 x2 y2) (bx p x1 y1 x2 y2) x1 y1 = bny p (bm p x1 y1 x2 y2) (bx p x1 y1 x2 y2) x2 y2
def RetO (C : Addr) (h₀ : Heap) (L : Addr) (m : Str → Option Value) (news : List (Addr × Obj)) (s : Shared) (Q : Value → Shared → Prop) (p : Int) (r : Option (Int × Int)) : Prop :=
  (∀ x y, r = some (x, y) → RetP C h₀ L m news s Q p (x, y)) ∧ (r = none → ∀ (h' : Heap) (tk' : Nat), Fr h₀ L h' m → News h₀ L h' news → Q .none { s with heap := h', toks := tk' })
local macro_rules | `(tactic| kct_strs) => `(tactic| (k_here; (with_reducible show wpAny _ _ (call (Value.ref 105) _) _ _ _); refine wpAny_call ?_; k_dflt (refine' code_def ?k1 ?k2 ?k3 ?k4 ?k5 ?kA ?kF ?kK ?k6 ?k7 ?k8 ?k9 ?kB ?_ ?c2 ?c3 ?c4 ?c5; (case kA => exact rfl); (case kF => exact rfl); (case kK => first | exact rfl | assumption); (case k1 => k_asm); (case k2 => k_asm); (case k3 => k_asm); (case k4 => k_asm); (case k5 => k_asm); (case k6 => k_is); (case k7 => k_is); (case k8 => ktr_room); (case k9 => exact BindsTo.of_eq rfl); (case c5 => decide); (case kB => exact locs rfl); (case c2 => exact rfl); (case c3 => exact rfl); (case c4 => exact rfl); k_whole; intro g' L' h' FG' F' N' B' X' T'; (try (replace F' : Fr _ _ _ (fun y => List.lookup y [(Str.ofString "p2", _), (Str.ofString "p1", _)]) := F')); (try dsimp only); (try k_lift B'); (try k_fold))))
theorem c_badd {w : World} {p a b c d : Int} {D1 D2 x dx y dy z dz v dv : Addr} {h1 h2 g1 g2 h3 h4 g3 g4 : Int} {k1 t1 k2 t2 l1 u1 l2 u2 k3 t3 k4 t4 l3 u3 l4 u4 : Tok} {e1 e2 e3 e4 n1 n2 : Nat} {news : List (Addr × Obj)}
    (hD1 : (D1, tupR2 x y n1) ∈ news) (hx : (x, instObj 255 dx) ∈ news) (hdx : (dx, fqd p a h1 h2 k1 t1 k2 t2 e1) ∈ news) (hy : (y, instObj 255 dy) ∈ news) (hdy : (dy, fqd p b g1 g2 l1 u1 l2 u2 e2) ∈ news)
    (hD2 : (D2, tupR2 z v n2) ∈ news) (hz : (z, instObj 255 dz) ∈ news) (hdz : (dz, fqd p c h3 h4 k3 t3 k4 t4 e3) ∈ news) (hv : (v, instObj 255 dv) ∈ news) (hdv : (dv, fqd p d g3 g4 l3 u3 l4 u4 e4) ∈ news)
    (hp : 1 < p) (hp' : p ≤ 1000) (ha : 0 ≤ a ∧ a < p) (hb : 0 ≤ b ∧ b < p) (hc : 0 ≤ c ∧ c < p) (hd' : 0 ≤ d ∧ d < p) (ok : BOk p a b c d) :
    At w 10 news fun Ar h₀ L m s => ∀ (Q E : Value → Shared → Prop), RetO 255 h₀ L m news s Q p (badd p a b c d) →
      wpAny (model PySem.Challenge.rw_bw0041_01.row.prog w) Ar (call (.ref 105) [.ref D1, .ref D2]) Q E s := by
  unfold At
  w_top off
  k_fill
  intro p' loose mean mg mb dp un gd cn cs fa ccd cl outer A₀ base h₀ L m s B F KX N T hk hd hu Q E hret
  refine wpAny_call ?_
  k_dflt (refine' code_def ?k1 ?k2 ?k3 ?k4 ?k5 ?kA ?kF ?kK ?k6 ?k7 ?k8 ?k9 ?kB ?_ ?c2 ?c3 ?c4 ?c5; (case kA => exact rfl); (case kF => exact rfl); (case kK => first | exact rfl | assumption); (case k1 => k_asm); (case k2 => k_asm); (case k3 => k_asm); (case k4 => k_asm); (case k5 => k_asm); (case k6 => k_is); (case k7 => k_is); (case k8 => ktr_room); (case k9 => exact BindsTo.of_eq rfl); (case c5 => decide); (case kB => exact locs rfl); (case c2 => exact rfl); (case c3 => exact rfl); (case c4 => exact rfl); k_whole; intro g' L' h' FG' F' N' B' X' T'; (try (replace F' : Fr _ _ _ (fun y => List.lookup y [(Str.ofString "p2", _), (Str.ofString "p1", _)]) := F')); (try dsimp only); (try k_lift B'); (try k_fold))
  k_steps
  all_goals first
    | (exfalso; kwd_less; exact absurd (ok (by assumption)) (by assumption))
    | (refine' hret.2 ?e _ _ ?F ?N; (case F => assumption); (case N => exact news_sub (by assumption) (by kcf_all)); (case e => (unfold badd; (repeat' split) <;> first | rfl | contradiction)))
    | (refine' endP (h' := _) (tk' := _) (hret.1 _ _ ?e) ?F ?N ?m ?x ?dx ?y ?dy ?s rfl ?r; (case F => assumption); (case N => assumption); (case m => k_mem); (case x => k_mem); (case dx => k_mem); (case y => k_mem); (case dy => k_mem); (case s => kcf_all); (case r => (refine ⟨⟨?_, ?_⟩, ?_, ?_⟩ <;> dsimp only <;> omega)); (case e => (kwd_less; unfold badd; (repeat' split) <;> first | rfl | contradiction)))
theorem c_onc {w : World} {p a b c : Int} {D1 x dx y dy z dz : Addr} {h1 h2 g1 g2 h3 h4 : Int} {k1 t1 k2 t2 l1 u1 l2 u2 k3 t3 k4 t4 : Tok} {e1 e2 e3 n1 : Nat} {news : List (Addr × Obj)}
    (hD1 : (D1, tupR2 x y n1) ∈ news) (hx : (x, instObj 255 dx) ∈ news) (hdx : (dx, fqd p a h1 h2 k1 t1 k2 t2 e1) ∈ news) (hy : (y, instObj 255 dy) ∈ news) (hdy : (dy, fqd p b g1 g2 l1 u1 l2 u2 e2) ∈ news)
    (hz : (z, instObj 255 dz) ∈ news) (hdz : (dz, fqd p c h3 h4 k3 t3 k4 t4 e3) ∈ news)
    (hp : 1 < p) (hp' : p ≤ 1000) (ha : 0 ≤ a ∧ a < p) (hb : 0 ≤ b ∧ b < p) (hc : 0 ≤ c ∧ c < p) :
    At w 10 news fun Ar h₀ L m s => ∀ (Q E : Value → Shared → Prop), RetB h₀ L m news s Q (decide (((b * b).fmod p - ((a * a).fmod p * a).fmod p).fmod p = c)) →
      wpAny (model PySem.Challenge.rw_bw0041_01.row.prog w) Ar (call (.ref 91) [.ref D1, .ref z]) Q E s := by
  unfold At
  w_top off
  k_fill
  intro p' loose mean mg mb dp un gd cn cs fa ccd cl outer A₀ base h₀ L m s B F KX N T hk hd hu Q E hret
  refine wpAny_call ?_
  k_dflt (refine' code_def ?k1 ?k2 ?k3 ?k4 ?k5 ?kA ?kF ?kK ?k6 ?k7 ?k8 ?k9 ?kB ?_ ?c2 ?c3 ?c4 ?c5; (case kA => exact rfl); (case kF => exact rfl); (case kK => first | exact rfl | assumption); (case k1 => k_asm); (case k2 => k_asm); (case k3 => k_asm); (case k4 => k_asm); (case k5 => k_asm); (case k6 => k_is); (case k7 => k_is); (case k8 => ktr_room); (case k9 => exact BindsTo.of_eq rfl); (case c5 => decide); (case kB => exact locs rfl); (case c2 => exact rfl); (case c3 => exact rfl); (case c4 => exact rfl); k_whole; intro g' L' h' FG' F' N' B' X' T'; (try (replace F' : Fr _ _ _ (fun y => List.lookup y [(Str.ofString "b", _), (Str.ofString "pt", _)]) := F')); (try dsimp only); (try k_lift B'); (try k_fold))
  k_steps
  all_goals (refine' endB (h' := _) (tk' := _) hret ?F ?N ?s ?e; (case F => assumption); (case N => assumption); (case s => kcf_all); (case e => (kwd_less; rfl)))
local macro_rules | `(tactic| kct_strs) => `(tactic| (k_here; (with_reducible show wpAny _ _ (call (Value.ref 105) _) _ _ _); k_dflt (refine' (At.use (c_badd ?ch0 ?ch1 ?ch2 ?ch3 ?ch4 ?ch5 ?ch6 ?ch7 ?ch8 ?ch9 ?ch10 ?ch11 ?ch12 ?ch13 ?ch14 ?ch15 ?ch16) ?kB ?kF ?kK ?kN ?kT ?kk ?kd ?ku) _ _ ?_; (case kB => k_asm); (case kF => k_asm); (case kK => k_asm); (case kN => k_asm); (case kT => k_asm); (case kk => first | exact rfl | assumption); (case ch0 => k_mem); (case ch1 => k_mem); (case ch2 => k_mem); (case ch3 => k_mem); (case ch4 => k_mem); (case ch5 => k_mem); (case ch6 => k_mem); (case ch7 => k_mem); (case ch8 => k_mem); (case ch9 => k_mem); (case ch10 => omega); (case ch11 => omega); (case ch12 => omega); (case ch13 => omega); (case ch14 => omega); (case ch15 => omega); (case ch16 => exact bok (by assumption) (by omega) (by omega)); (case kd => ktr_room); (case ku => ktr_units); (unfold RetO); (refine ⟨fun _ _ hOpt => ?_, fun hOpt => ?_⟩); all_goals (first | (unfold RetP; (intro _ _ _ _ _ _ _ _ _ _ _ _ _ _ _ _ _ _ _ _ _ _ _ _ _ _ _ _); (try dsimp only)) | (exfalso; exact lplain_ne hOpt (by assumption) (by assumption)) | (intro _ _)); skip); (all_goals (try dsimp only [PySem.W.CmpBack, PySem.W.InitBack, PySem.W.BoolBack, PySem.W.LenBack, PySem.W.StrBack])); (all_goals (try k_fold))))
local macro_rules | `(tactic| kct_strs) => `(tactic| (k_here; (with_reducible show wpAny _ _ (call (Value.ref 91) _) _ _ _); refine wpAny_call ?_; k_dflt (refine' code_def ?k1 ?k2 ?k3 ?k4 ?k5 ?kA ?kF ?kK ?k6 ?k7 ?k8 ?k9 ?kB ?_ ?c2 ?c3 ?c4 ?c5; (case kA => exact rfl); (case kF => exact rfl); (case kK => first | exact rfl | assumption); (case k1 => k_asm); (case k2 => k_asm); (case k3 => k_asm); (case k4 => k_asm); (case k5 => k_asm); (case k6 => k_is); (case k7 => k_is); (case k8 => ktr_room); (case k9 => exact BindsTo.of_eq rfl); (case c5 => decide); (case kB => exact locs rfl); (case c2 => exact rfl); (case c3 => exact rfl); (case c4 => exact rfl); k_whole; intro g' L' h' FG' F' N' B' X' T'; (try (replace F' : Fr _ _ _ (fun y => List.lookup y [(Str.ofString "b", _), (Str.ofString "pt", _)]) := F')); (try dsimp only); (try k_lift B'); (try k_fold))))
local macro_rules | `(tactic| kct_strs) => `(tactic| (k_here; (with_reducible show wpAny _ _ (call (Value.ref 91) _) _ _ _); k_dflt (refine' (At.use (c_onc ?ch0 ?ch1 ?ch2 ?ch3 ?ch4 ?ch5 ?ch6 ?ch7 ?ch8 ?ch9 ?ch10 ?ch11) ?kB ?kF ?kK ?kN ?kT ?kk ?kd ?ku) _ _ ?_; (case kB => k_asm); (case kF => k_asm); (case kK => k_asm); (case kN => k_asm); (case kT => k_asm); (case kk => first | exact rfl | assumption); (case ch0 => k_mem); (case ch1 => k_mem); (case ch2 => k_mem); (case ch3 => k_mem); (case ch4 => k_mem); (case ch5 => k_mem); (case ch6 => k_mem); (case ch7 => omega); (case ch8 => omega); (case ch9 => omega); (case ch10 => omega); (case ch11 => omega); (case kd => ktr_room); (case ku => ktr_units); intro _ _ _ _; skip); (all_goals (try dsimp only [PySem.W.CmpBack, PySem.W.InitBack, PySem.W.BoolBack, PySem.W.LenBack, PySem.W.StrBack])); (all_goals (try k_fold))))
end
local macro_rules | `(tactic| kct_strs) => `(tactic| (k_here; (with_reducible show wpAny _ _ (call (Value.ref 105) _) _ _ _); refine wpAny_call ?_; k_dflt (refine' code_def ?k1 ?k2 ?k3 ?k4 ?k5 ?kA ?kF ?kK ?k6 ?k7 ?k8 ?k9 ?kB ?_ ?c2 ?c3 ?c4 ?c5; (case kA => exact rfl); (case kF => exact rfl); (case kK => first | exact rfl | assumption); (case k1 => k_asm); (case k2 => k_asm); (case k3 => k_asm); (case k4 => k_asm); (case k5 => k_asm); (case k6 => k_is); (case k7 => k_is); (case k8 => ktr_room); (case k9 => exact BindsTo.of_eq rfl); (case c5 => decide); (case kB => exact locs rfl); (case c2 => exact rfl); (case c3 => exact rfl); (case c4 => exact rfl); k_whole; intro g' L' h' FG' F' N' B' X' T'; (try (replace F' : Fr _ _ _ (fun y => List.lookup y [(Str.ofString "p2", _), (Str.ofString "p1", _)]) := F')); (try dsimp only); (try k_lift B'); (try k_fold))))
local macro_rules | `(tactic| kct_strs) => `(tactic| (k_here; (with_reducible show wpAny _ _ (call (Value.ref 91) _) _ _ _); refine wpAny_call ?_; k_dflt (refine' code_def ?k1 ?k2 ?k3 ?k4 ?k5 ?kA ?kF ?kK ?k6 ?k7 ?k8 ?k9 ?kB ?_ ?c2 ?c3 ?c4 ?c5; (case kA => exact rfl); (case kF => exact rfl); (case kK => first | exact rfl | assumption); (case k1 => k_asm); (case k2 => k_asm); (case k3 => k_asm); (case k4 => k_asm); (case k5 => k_asm); (case k6 => k_is); (case k7 => k_is); (case k8 => ktr_room); (case k9 => exact BindsTo.of_eq rfl); (case c5 => decide); (case kB => exact locs rfl); (case c2 => exact rfl); (case c3 => exact rfl); (case c4 => exact rfl); k_whole; intro g' L' h' FG' F' N' B' X' T'; (try (replace F' : Fr _ _ _ (fun y => List.lookup y [(Str.ofString "b", _), (Str.ofString "pt", _)]) := F')); (try dsimp only); (try k_lift B'); (try k_fold))))
local macro_rules | `(tactic| kct_strs) => `(tactic| (k_here; (with_reducible show wpAny _ _ (call (Value.ref 91) _) _ _ _); k_dflt (refine' (At.use (c_onc ?ch0 ?ch1 ?ch2 ?ch3 ?ch4 ?ch5 ?ch6 ?ch7 ?ch8 ?ch9 ?ch10 ?ch11) ?kB ?kF ?kK ?kN ?kT ?kk ?kd ?ku) _ _ ?_; (case kB => k_asm); (case kF => k_asm); (case kK => k_asm); (case kN => k_asm); (case kT => k_asm); (case kk => first | exact rfl | assumption); (case ch0 => k_mem); (case ch1 => k_mem); (case ch2 => k_mem); (case ch3 => k_mem); (case ch4 => k_mem); (case ch5 => k_mem); (case ch6 => k_mem); (case ch7 => omega); (case ch8 => omega); (case ch9 => omega); (case ch10 => omega); (case ch11 => omega); (case kd => ktr_room); (case ku => ktr_units); intro _ _ _ _; skip); (all_goals (try dsimp only [PySem.W.CmpBack, PySem.W.InitBack, PySem.W.BoolBack, PySem.W.LenBack, PySem.W.StrBack])); (all_goals (try k_fold))))
section
abbrev tupR3 (x y z : Addr) (n : Nat) : Obj := { cls := .type "tuple", data := .seq #[.ref x, .ref y, .ref z] n }
section
variable {h₀ : Heap} {L : Addr} {m : Str → Option Value} {news news' : List (Addr × Obj)} {s : Shared} {Q : Value → Shared → Prop} {h' : Heap} {tk' : Nat}
def RetQ (h₀ : Heap) (L : Addr) (m : Str → Option Value) (news : List (Addr × Obj)) (s : Shared) (Q : Value → Shared → Prop) (p : Int) (r : Int × Int × Int) : Prop :=
  ∀ (a b c : Int) (D x dx : Addr) (h1 h2 : Int) (k1 t1 k2 t2 : Tok) (e : Nat) (y dy : Addr) (g1 g2 : Int) (l1 u1 l2 u2 : Tok) (e' : Nat) (z dz : Addr) (i1 i2 : Int) (q1 v1 q2 v2 : Tok) (e'' n : Nat) (h' : Heap) (tk' : Nat), Is a r.1 → Is b r.2.1 → Is c r.2.2 → (0 ≤ a ∧ a < p) → (0 ≤ b ∧ b < p) → (0 ≤ c ∧ c < p) → Fr h₀ L h' m →
    News h₀ L h' ((D, tupR3 x y z n) :: (x, instObj 417 dx) :: (dx, fqd p a h1 h2 k1 t1 k2 t2 e) :: (y, instObj 417 dy) :: (dy, fqd p b g1 g2 l1 u1 l2 u2 e') :: (z, instObj 417 dz) :: (dz, fqd p c i1 i2 q1 v1 q2 v2 e'') :: news) → Q (.ref D) { s with heap := h', toks := tk' }
theorem endQ {p ra rb rc : Int} {r : Int × Int × Int} {D x dx y dy z dz : Addr} {h1 h2 g1 g2 i1 i2 : Int} {k1 t1 k2 t2 l1 u1 l2 u2 q1 v1 q2 v2 : Tok} {e e' e'' n : Nat} (h : RetQ h₀ L m news s Q p r) (F : Fr h₀ L h' m) (N : News h₀ L h' news') (hm : (D, tupR3 x y z n) ∈ news') (hx : (x, instObj 417 dx) ∈ news') (hdx : (dx, fqd p ra h1 h2 k1 t1 k2 t2 e) ∈ news')
    (hy : (y, instObj 417 dy) ∈ news') (hdy : (dy, fqd p rb g1 g2 l1 u1 l2 u2 e') ∈ news') (hz : (z, instObj 417 dz) ∈ news') (hdz : (dz, fqd p rc i1 i2 q1 v1 q2 v2 e'') ∈ news')
    (hs : ∀ p ∈ news, p ∈ news') (he : (ra, rb, rc) = r) (hr : In3 p r) : Q (.ref D) { s with heap := h', toks := tk' } := by
  subst he
  refine h ra rb rc D x dx h1 h2 k1 t1 k2 t2 e y dy g1 g2 l1 u1 l2 u2 e' z dz i1 i2 q1 v1 q2 v2 e'' n h' tk' (.refl _) (.refl _) (.refl _) hr.1 hr.2.1 hr.2.2 F fun q hq => ?_
  rcases List.mem_cons.mp hq with rfl | hq
  · exact N _ hm
  rcases List.mem_cons.mp hq with rfl | hq
  · exact N _ hx
  rcases List.mem_cons.mp hq with rfl | hq
  · exact N _ hdx
  rcases List.mem_cons.mp hq with rfl | hq
  · exact N _ hy
  rcases List.mem_cons.mp hq with rfl | hq
  · exact N _ hdy
  rcases List.mem_cons.mp hq with rfl | hq
  · exact N _ hz
  rcases List.mem_cons.mp hq with rfl | hq
  · exact N _ hdz
  · exact N q (hs q hq)
end
def odbl (p x y z : Int) : Int × Int × Int :=
  let W := ((x * 3).fmod p * x).fmod p
  let S := (y * z).fmod p
  let B := ((x * y).fmod p * S).fmod p
  let H := ((W * W).fmod p - (B * 8).fmod p).fmod p
  let S2 := (S * S).fmod p
  (((H * 2).fmod p * S).fmod p, ((W * ((B * 4).fmod p - H).fmod p).fmod p - (((y * 8).fmod p * y).fmod p * S2).fmod p).fmod p, ((S * 8).fmod p * S2).fmod p)
theorem odbl_in {p x y z : Int} (hp : 1 < p) : In3 p (odbl p x y z) := ⟨fmod_bd (by omega), fmod_bd (by omega), fmod_bd (by omega)⟩
theorem c_odbl {w : World} {p a b c : Int} {D x dx y dy z dz : Addr} {h1 h2 g1 g2 i1 i2 : Int} {k1 t1 k2 t2 l1 u1 l2 u2 q1 v1 q2 v2 : Tok} {e e' e'' n : Nat} {news : List (Addr × Obj)}
    (hD : (D, tupR3 x y z n) ∈ news) (hx : (x, instObj 417 dx) ∈ news) (hdx : (dx, fqd p a h1 h2 k1 t1 k2 t2 e) ∈ news) (hy : (y, instObj 417 dy) ∈ news) (hdy : (dy, fqd p b g1 g2 l1 u1 l2 u2 e') ∈ news) (hz : (z, instObj 417 dz) ∈ news) (hdz : (dz, fqd p c i1 i2 q1 v1 q2 v2 e'') ∈ news)
    (hp : 1 < p) (hp' : p ≤ 1000) (ha : 0 ≤ a ∧ a < p) (hb : 0 ≤ b ∧ b < p) (hc : 0 ≤ c ∧ c < p) :
    At w 8 news fun Ar h₀ L m s => ∀ (Q E : Value → Shared → Prop), RetQ h₀ L m news s Q p (odbl p a b c) →
      wpAny (model PySem.Challenge.rw_bw0041_01.row.prog w) Ar (call (.ref 435) [.ref D]) Q E s := by
  unfold At
  w_top off
  k_fill
  intro p' loose mean mg mb dp un gd cn cs fa ccd cl outer A₀ base h₀ L m s B F KX N T hk hd hu Q E hret
  refine wpAny_call ?_
  k_dflt (refine' code_def ?k1 ?k2 ?k3 ?k4 ?k5 ?kA ?kF ?kK ?k6 ?k7 ?k8 ?k9 ?kB ?_ ?c2 ?c3 ?c4 ?c5; (case kA => exact rfl); (case kF => exact rfl); (case kK => first | exact rfl | assumption); (case k1 => k_asm); (case k2 => k_asm); (case k3 => k_asm); (case k4 => k_asm); (case k5 => k_asm); (case k6 => k_is); (case k7 => k_is); (case k8 => ktr_room); (case k9 => exact BindsTo.of_eq rfl); (case c5 => decide); (case kB => exact locs rfl); (case c2 => exact rfl); (case c3 => exact rfl); (case c4 => exact rfl); k_whole; intro g' L' h' FG' F' N' B' X' T'; (try (replace F' : Fr _ _ _ (fun y => List.lookup y [(Str.ofString "pt", _)]) := F')); (try dsimp only); (try k_lift B'); (try k_fold))
  k_steps
  all_goals (refine' endQ (h' := _) (tk' := _) hret ?F ?N ?m ?x ?dx ?y ?dy ?z ?dz ?s ?e (odbl_in hp); (case F => assumption); (case N => assumption); (case m => k_mem); (case x => k_mem); (case dx => k_mem); (case y => k_mem); (case dy => k_mem); (case z => k_mem); (case dz => k_mem); (case s => kcf_all); (case e => (kwd_less; rfl)))
local macro_rules | `(tactic| kct_strs) => `(tactic| (k_here; (with_reducible show wpAny _ _ (call (Value.ref 435) _) _ _ _); k_dflt (refine' (At.use (c_odbl ?ch0 ?ch1 ?ch2 ?ch3 ?ch4 ?ch5 ?ch6 ?ch7 ?ch8 ?ch9 ?ch10 ?ch11) ?kB ?kF ?kK ?kN ?kT ?kk ?kd ?ku) _ _ ?_; (case kB => k_asm); (case kF => k_asm); (case kK => k_asm); (case kN => k_asm); (case kT => k_asm); (case kk => first | exact rfl | assumption); (case ch0 => k_mem); (case ch1 => k_mem); (case ch2 => k_mem); (case ch3 => k_mem); (case ch4 => k_mem); (case ch5 => k_mem); (case ch6 => k_mem); (case ch7 => omega); (case ch8 => omega); (case ch9 => omega); (case ch10 => omega); (case ch11 => omega); (case kd => ktr_room); (case ku => ktr_units); intro _ _ _ _ _ _ _ _ _ _ _ _ _ _ _ _ _ _ _ _ _ _ _ _ _ _ _ _ _ _ _ _ _ _ _ _ _ _ _ _; skip); (all_goals (try dsimp only [PySem.W.CmpBack, PySem.W.InitBack, PySem.W.BoolBack, PySem.W.LenBack, PySem.W.StrBack])); (all_goals (try k_fold))))
def oadd (p x1 y1 z1 x2 y2 z2 : Int) : Int × Int × Int :=
  if z2 = (0 : Int).fmod p then (x1, y1, z1) else if z1 = (0 : Int).fmod p then (x2, y2, z2) else
    let U1 := (y2 * z1).fmod p
    let U2 := (y1 * z2).fmod p
    let V1 := (x2 * z1).fmod p
    let V2 := (x1 * z2).fmod p
    if V1 = V2 then (if U1 = U2 then odbl p x1 y1 z1 else ((1 : Int).fmod p, (1 : Int).fmod p, (0 : Int).fmod p)) else
      let U := (U1 - U2).fmod p
      let V := (V1 - V2).fmod p
      let Vs := (V * V).fmod p
      let VV := (Vs * V2).fmod p
      let Vc := (V * Vs).fmod p
      let W := (z1 * z2).fmod p
      let A := (((((U * U).fmod p * W).fmod p) - Vc).fmod p - (VV * 2).fmod p).fmod p
      ((V * A).fmod p, ((U * (VV - A).fmod p).fmod p - (Vc * U2).fmod p).fmod p, (Vc * W).fmod p)
theorem oadd_in {p x1 y1 z1 x2 y2 z2 : Int} (hp : 1 < p) (h1 : In3 p (x1, y1, z1)) (h2 : In3 p (x2, y2, z2)) : In3 p (oadd p x1 y1 z1 x2 y2 z2) := by
  unfold oadd
  split
  · exact h1
  split
  · exact h2
  dsimp only
  split
  · split
    · exact odbl_in hp
    · exact ⟨fmod_bd (a := 1) (n := p) (by omega), fmod_bd (a := 1) (n := p) (by omega), fmod_bd (a := 0) (n := p) (by omega)⟩
  · exact ⟨fmod_bd (by omega), fmod_bd (by omega), fmod_bd (by omega)⟩
theorem c_oadd {w : World} {p a b c a' b' c' : Int} {D x dx y dy z dz D' x' dx' y' dy' z' dz' : Addr} {h1 h2 g1 g2 i1 i2 h3 h4 g3 g4 i3 i4 : Int} {k1 t1 k2 t2 l1 u1 l2 u2 q1 v1 q2 v2 k3 t3 k4 t4 l3 u3 l4 u4 q3 v3 q4 v4 : Tok} {e e' e'' n f f' f'' n' : Nat} {news : List (Addr × Obj)}
    (hD : (D, tupR3 x y z n) ∈ news) (hx : (x, instObj 417 dx) ∈ news) (hdx : (dx, fqd p a h1 h2 k1 t1 k2 t2 e) ∈ news) (hy : (y, instObj 417 dy) ∈ news) (hdy : (dy, fqd p b g1 g2 l1 u1 l2 u2 e') ∈ news) (hz : (z, instObj 417 dz) ∈ news) (hdz : (dz, fqd p c i1 i2 q1 v1 q2 v2 e'') ∈ news)
    (hD' : (D', tupR3 x' y' z' n') ∈ news) (hx' : (x', instObj 417 dx') ∈ news) (hdx' : (dx', fqd p a' h3 h4 k3 t3 k4 t4 f) ∈ news) (hy' : (y', instObj 417 dy') ∈ news) (hdy' : (dy', fqd p b' g3 g4 l3 u3 l4 u4 f') ∈ news) (hz' : (z', instObj 417 dz') ∈ news) (hdz' : (dz', fqd p c' i3 i4 q3 v3 q4 v4 f'') ∈ news)
    (hp : 1 < p) (hp' : p ≤ 1000) (ha : 0 ≤ a ∧ a < p) (hb : 0 ≤ b ∧ b < p) (hc : 0 ≤ c ∧ c < p) (ha' : 0 ≤ a' ∧ a' < p) (hb' : 0 ≤ b' ∧ b' < p) (hc' : 0 ≤ c' ∧ c' < p) :
    At w 9 news fun Ar h₀ L m s => ∀ (Q E : Value → Shared → Prop), RetQ h₀ L m news s Q p (oadd p a b c a' b' c') →
      wpAny (model PySem.Challenge.rw_bw0041_01.row.prog w) Ar (call (.ref 442) [.ref D, .ref D']) Q E s := by
  unfold At
  w_top off
  k_fill
  intro p' loose mean mg mb dp un gd cn cs fa ccd cl outer A₀ base h₀ L m s B F KX N T hk hd hu Q E hret
  refine wpAny_call ?_
  k_dflt (refine' code_def ?k1 ?k2 ?k3 ?k4 ?k5 ?kA ?kF ?kK ?k6 ?k7 ?k8 ?k9 ?kB ?_ ?c2 ?c3 ?c4 ?c5; (case kA => exact rfl); (case kF => exact rfl); (case kK => first | exact rfl | assumption); (case k1 => k_asm); (case k2 => k_asm); (case k3 => k_asm); (case k4 => k_asm); (case k5 => k_asm); (case k6 => k_is); (case k7 => k_is); (case k8 => ktr_room); (case k9 => exact BindsTo.of_eq rfl); (case c5 => decide); (case kB => exact locs rfl); (case c2 => exact rfl); (case c3 => exact rfl); (case c4 => exact rfl); k_whole; intro g' L' h' FG' F' N' B' X' T'; (try (replace F' : Fr _ _ _ (fun y => List.lookup y [(Str.ofString "p2", _), (Str.ofString "p1", _)]) := F')); (try dsimp only); (try k_lift B'); (try k_fold))
  k_steps
  all_goals (refine' endQ (h' := _) (tk' := _) hret ?F ?N ?m ?x ?dx ?y ?dy ?z ?dz ?s ?e (oadd_in hp ⟨ha, hb, hc⟩ ⟨ha', hb', hc'⟩); (case F => assumption); (case N => assumption); (case m => k_mem); (case x => k_mem); (case dx => k_mem); (case y => k_mem); (case dy => k_mem); (case z => k_mem); (case dz => k_mem); (case s => kcf_all); (case e => (kwd_less; unfold oadd; (try dsimp only); (repeat' split) <;> first | rfl | contradiction)))
local macro_rules | `(tactic| kct_strs) => `(tactic| (k_here; (with_reducible show wpAny _ _ (call (Value.ref 442) _) _ _ _); k_dflt (refine' (At.use (c_oadd ?ch0 ?ch1 ?ch2 ?ch3 ?ch4 ?ch5 ?ch6 ?ch7 ?ch8 ?ch9 ?ch10 ?ch11 ?ch12 ?ch13 ?ch14 ?ch15 ?ch16 ?ch17 ?ch18 ?ch19 ?ch20 ?ch21) ?kB ?kF ?kK ?kN ?kT ?kk ?kd ?ku) _ _ ?_; (case kB => k_asm); (case kF => k_asm); (case kK => k_asm); (case kN => k_asm); (case kT => k_asm); (case kk => first | exact rfl | assumption); (case ch0 => k_mem); (case ch1 => k_mem); (case ch2 => k_mem); (case ch3 => k_mem); (case ch4 => k_mem); (case ch5 => k_mem); (case ch6 => k_mem); (case ch7 => k_mem); (case ch8 => k_mem); (case ch9 => k_mem); (case ch10 => k_mem); (case ch11 => k_mem); (case ch12 => k_mem); (case ch13 => k_mem); (case ch14 => omega); (case ch15 => omega); (case ch16 => omega); (case ch17 => omega); (case ch18 => omega); (case ch19 => omega); (case ch20 => omega); (case ch21 => omega); (case kd => ktr_room); (case ku => ktr_units); intro _ _ _ _ _ _ _ _ _ _ _ _ _ _ _ _ _ _ _ _ _ _ _ _ _ _ _ _ _ _ _ _ _ _ _ _ _ _ _ _; skip); (all_goals (try dsimp only [PySem.W.CmpBack, PySem.W.InitBack, PySem.W.BoolBack, PySem.W.LenBack, PySem.W.StrBack])); (all_goals (try k_fold))))
def omul (p : Int) : Nat → Int → Int → Int → Int → Int × Int × Int
  | 0, _, _, _, _ => ((1 : Int).fmod p, (1 : Int).fmod p, (0 : Int).fmod p)
  | k + 1, x, y, z, n => if n = 0 then ((1 : Int).fmod p, (1 : Int).fmod p, (0 : Int).fmod p) else if n = 1 then (x, y, z) else
      let r := omul p k (odbl p x y z).1 (odbl p x y z).2.1 (odbl p x y z).2.2 (n.fdiv 2)
      if n.fmod 2 = 0 then r else oadd p r.1 r.2.1 r.2.2 x y z
section
variable {p x y z n : Int} {k : Nat}
theorem omul_s0 (h : n = 0) : ((1 : Int).fmod p, (1 : Int).fmod p, (0 : Int).fmod p) = omul p (k + 1) x y z n := by rw [omul, if_pos h]
theorem omul_s1 (h : n = 1) : (x, y, z) = omul p (k + 1) x y z n := by rw [omul, if_neg (by omega), if_pos h]
theorem omul_s2 (h0 : n ≠ 0) (h1 : n ≠ 1) (h : n.fmod 2 = 0) : omul p k (odbl p x y z).1 (odbl p x y z).2.1 (odbl p x y z).2.2 (n.fdiv 2) = omul p (k + 1) x y z n := by rw [omul, if_neg h0, if_neg h1]; dsimp only; rw [if_pos h]
theorem omul_s3 (h0 : n ≠ 0) (h1 : n ≠ 1) (h : n.fmod 2 ≠ 0) : oadd p (omul p k (odbl p x y z).1 (odbl p x y z).2.1 (odbl p x y z).2.2 (n.fdiv 2)).1 (omul p k (odbl p x y z).1 (odbl p x y z).2.1 (odbl p x y z).2.2 (n.fdiv 2)).2.1 (omul p k (odbl p x y z).1 (odbl p x y z).2.1 (odbl p x y z).2.2 (n.fdiv 2)).2.2 x y z = omul p (k + 1) x y z n := by rw [omul, if_neg h0, if_neg h1]; dsimp only; rw [if_neg h]
end
theorem omul_in {p : Int} (hp : 1 < p) : ∀ k x y z n, In3 p (x, y, z) → In3 p (omul p k x y z n) := by
  have h0 : In3 p ((1 : Int).fmod p, (1 : Int).fmod p, (0 : Int).fmod p) := ⟨fmod_bd (a := 1) (n := p) (by omega), fmod_bd (a := 1) (n := p) (by omega), fmod_bd (a := 0) (n := p) (by omega)⟩
  intro k
  induction k with
  | zero => intro x y z n h; exact h0
  | succ k ih =>
    intro x y z n h
    rw [omul]
    split
    · exact h0
    split
    · exact h
    dsimp only
    split
    · exact ih _ _ _ _ (odbl_in hp)
    · exact oadd_in hp (ih _ _ _ _ (odbl_in hp)) h
theorem half_lt {n : Int} {k : Nat} (h0 : 0 ≤ n) (h : n < 2 ^ (k + 1)) : 0 ≤ n.fdiv 2 ∧ n.fdiv 2 < 2 ^ k := by
  have e : n.fdiv 2 = n / 2 := Int.fdiv_eq_ediv_of_nonneg n (by decide)
  have h2 : (2 : Int) ^ (k + 1) = 2 ^ k * 2 := Int.pow_succ 2 k
  rw [e]; omega
end
local macro_rules | `(tactic| kct_strs) => `(tactic| (k_here; (with_reducible show wpAny _ _ (call (Value.ref 435) _) _ _ _); k_dflt (refine' (At.use (c_odbl ?ch0 ?ch1 ?ch2 ?ch3 ?ch4 ?ch5 ?ch6 ?ch7 ?ch8 ?ch9 ?ch10 ?ch11) ?kB ?kF ?kK ?kN ?kT ?kk ?kd ?ku) _ _ ?_; (case kB => k_asm); (case kF => k_asm); (case kK => k_asm); (case kN => k_asm); (case kT => k_asm); (case kk => first | exact rfl | assumption); (case ch0 => k_mem); (case ch1 => k_mem); (case ch2 => k_mem); (case ch3 => k_mem); (case ch4 => k_mem); (case ch5 => k_mem); (case ch6 => k_mem); (case ch7 => omega); (case ch8 => omega); (case ch9 => omega); (case ch10 => omega); (case ch11 => omega); (case kd => ktr_room); (case ku => ktr_units); intro _ _ _ _ _ _ _ _ _ _ _ _ _ _ _ _ _ _ _ _ _ _ _ _ _ _ _ _ _ _ _ _ _ _ _ _ _ _ _ _; skip); (all_goals (try dsimp only [PySem.W.CmpBack, PySem.W.InitBack, PySem.W.BoolBack, PySem.W.LenBack, PySem.W.StrBack])); (all_goals (try k_fold))))
local macro_rules | `(tactic| kct_strs) => `(tactic| (k_here; (with_reducible show wpAny _ _ (call (Value.ref 442) _) _ _ _); k_dflt (refine' (At.use (c_oadd ?ch0 ?ch1 ?ch2 ?ch3 ?ch4 ?ch5 ?ch6 ?ch7 ?ch8 ?ch9 ?ch10 ?ch11 ?ch12 ?ch13 ?ch14 ?ch15 ?ch16 ?ch17 ?ch18 ?ch19 ?ch20 ?ch21) ?kB ?kF ?kK ?kN ?kT ?kk ?kd ?ku) _ _ ?_; (case kB => k_asm); (case kF => k_asm); (case kK => k_asm); (case kN => k_asm); (case kT => k_asm); (case kk => first | exact rfl | assumption); (case ch0 => k_mem); (case ch1 => k_mem); (case ch2 => k_mem); (case ch3 => k_mem); (case ch4 => k_mem); (case ch5 => k_mem); (case ch6 => k_mem); (case ch7 => k_mem); (case ch8 => k_mem); (case ch9 => k_mem); (case ch10 => k_mem); (case ch11 => k_mem); (case ch12 => k_mem); (case ch13 => k_mem); (case ch14 => omega); (case ch15 => omega); (case ch16 => omega); (case ch17 => omega); (case ch18 => omega); (case ch19 => omega); (case ch20 => omega); (case ch21 => omega); (case kd => ktr_room); (case ku => ktr_units); intro _ _ _ _ _ _ _ _ _ _ _ _ _ _ _ _ _ _ _ _ _ _ _ _ _ _ _ _ _ _ _ _ _ _ _ _ _ _ _ _; skip); (all_goals (try dsimp only [PySem.W.CmpBack, PySem.W.InitBack, PySem.W.BoolBack, PySem.W.LenBack, PySem.W.StrBack])); (all_goals (try k_fold))))
section
theorem c_omul {w : World} {p : Int} (hp : 1 < p) (hp' : p ≤ 1000) :
    ∀ (k : Nat) {a b c nn : Int} {tn : Tok} {D x dx y dy z dz : Addr} {h1 h2 g1 g2 i1 i2 : Int} {k1 t1 k2 t2 l1 u1 l2 u2 q1 v1 q2 v2 : Tok} {e e' e'' n : Nat} {news : List (Addr × Obj)}
    (_ : (D, tupR3 x y z n) ∈ news) (_ : (x, instObj 417 dx) ∈ news) (_ : (dx, fqd p a h1 h2 k1 t1 k2 t2 e) ∈ news) (_ : (y, instObj 417 dy) ∈ news) (_ : (dy, fqd p b g1 g2 l1 u1 l2 u2 e') ∈ news) (_ : (z, instObj 417 dz) ∈ news) (_ : (dz, fqd p c i1 i2 q1 v1 q2 v2 e'') ∈ news)
    (_ : 0 ≤ a ∧ a < p) (_ : 0 ≤ b ∧ b < p) (_ : 0 ≤ c ∧ c < p) (_ : 0 ≤ nn ∧ nn < 2 ^ k),
    At w (k + 10) news fun Ar h₀ L m s => ∀ (Q E : Value → Shared → Prop), RetQ h₀ L m news s Q p (omul p k a b c nn) →
      wpAny (model PySem.Challenge.rw_bw0041_01.row.prog w) Ar (call (.ref 449) [.ref D, .int nn tn]) Q E s := by
  intro k
  induction k with
  | zero =>
    intro a b c nn tn D x dx y dy z dz h1 h2 g1 g2 i1 i2 k1 t1 k2 t2 l1 u1 l2 u2 q1 v1 q2 v2 e e' e'' n news hD hx hdx hy hdy hz hdz ha hb hc hn
    have hn' : nn = 0 := by simp at hn; omega
    subst hn'
    have hb' := omul_in hp 0 a b c 0 ⟨ha, hb, hc⟩
    unfold At
    w_top off
    k_fill
    intro p' loose mean mg mb dp un gd cn cs fa ccd cl outer A₀ base h₀ L m s B F KX N T hk hd hu Q E hret
    refine wpAny_call ?_
    k_dflt (refine' code_def ?k1 ?k2 ?k3 ?k4 ?k5 ?kA ?kF ?kK ?k6 ?k7 ?k8 ?k9 ?kB ?_ ?c2 ?c3 ?c4 ?c5; (case kA => exact rfl); (case kF => exact rfl); (case kK => first | exact rfl | assumption); (case k1 => k_asm); (case k2 => k_asm); (case k3 => k_asm); (case k4 => k_asm); (case k5 => k_asm); (case k6 => k_is); (case k7 => k_is); (case k8 => ktr_room); (case k9 => exact BindsTo.of_eq rfl); (case c5 => decide); (case kB => exact locs rfl); (case c2 => exact rfl); (case c3 => exact rfl); (case c4 => exact rfl); k_whole; intro g' L' h' FG' F' N' B' X' T'; (try (replace F' : Fr _ _ _ (fun y => List.lookup y [(Str.ofString "n", _), (Str.ofString "pt", _)]) := F')); (try dsimp only); (try k_lift B'); (try k_fold))
    k_steps
    all_goals (refine' endQ (h' := _) (tk' := _) hret ?F ?N ?m ?x ?dx ?y ?dy ?z ?dz ?s ?e hb'; (case F => assumption); (case N => assumption); (case m => k_mem); (case x => k_mem); (case dx => k_mem); (case y => k_mem); (case dy => k_mem); (case z => k_mem); (case dz => k_mem); (case s => kcf_all); (case e => (kwd_less; rfl)))
  | succ k ih =>
    intro a b c nn tn D x dx y dy z dz h1 h2 g1 g2 i1 i2 k1 t1 k2 t2 l1 u1 l2 u2 q1 v1 q2 v2 e e' e'' n news hD hx hdx hy hdy hz hdz ha hb hc hn
    have hh := half_lt hn.1 hn.2
    have hb' := omul_in hp (k + 1) a b c nn ⟨ha, hb, hc⟩
    unfold At
    w_top off
    k_fill
    intro p' loose mean mg mb dp un gd cn cs fa ccd cl outer A₀ base h₀ L m s B F KX N T hk hd hu Q E hret
    k_with "call ref" => ((with_reducible show wpAny _ _ (call (Value.ref 449) _) _ _ _); k_dflt (refine' (At.use (ih ?c0 ?c1 ?c2 ?c3 ?c4 ?c5 ?c6 ?c7 ?c8 ?c9 ?c10) ?kB ?kF ?kK ?kN ?kT ?kk ?kd ?ku) _ _ ?_; (case kB => k_asm); (case kF => k_asm); (case kK => k_asm); (case kN => k_asm); (case kT => k_asm); (case kk => first | exact rfl | assumption); (case c0 => k_mem); (case c1 => k_mem); (case c2 => k_mem); (case c3 => k_mem); (case c4 => k_mem); (case c5 => k_mem); (case c6 => k_mem); (case c7 => omega); (case c8 => omega); (case c9 => omega); (case c10 => first | exact hh); (case kd => ktr_room); (case ku => ktr_units); (intro _ _ _ _ _ _ _ _ _ _ _ _ _ _ _ _ _ _ _ _ _ _ _ _ _ _ _ _ _ _ _ _ _ _ _ _ _ _ _ _)); (try dsimp only); (try k_fold))
    refine wpAny_call ?_
    k_dflt (refine' code_def ?k1 ?k2 ?k3 ?k4 ?k5 ?kA ?kF ?kK ?k6 ?k7 ?k8 ?k9 ?kB ?_ ?c2 ?c3 ?c4 ?c5; (case kA => exact rfl); (case kF => exact rfl); (case kK => first | exact rfl | assumption); (case k1 => k_asm); (case k2 => k_asm); (case k3 => k_asm); (case k4 => k_asm); (case k5 => k_asm); (case k6 => k_is); (case k7 => k_is); (case k8 => ktr_room); (case k9 => exact BindsTo.of_eq rfl); (case c5 => decide); (case kB => exact locs rfl); (case c2 => exact rfl); (case c3 => exact rfl); (case c4 => exact rfl); k_whole; intro g' L' h' FG' F' N' B' X' T'; (try (replace F' : Fr _ _ _ (fun y => List.lookup y [(Str.ofString "n", _), (Str.ofString "pt", _)]) := F')); (try dsimp only); (try k_lift B'); (try k_fold))
    k_steps
    all_goals first
      | (refine' endQ (h' := _) (tk' := _) hret ?F ?N ?m ?x ?dx ?y ?dy ?z ?dz ?s ?e hb'; (case F => assumption); (case N => assumption); (case m => k_mem); (case x => k_mem); (case dx => k_mem); (case y => k_mem); (case dy => k_mem); (case z => k_mem); (case dz => k_mem); (case s => kcf_all); (case e => kwd_less; first | exact omul_s0 (by omega) | exact omul_s1 (by omega) | exact omul_s2 (by omega) (by omega) (by assumption) | exact omul_s3 (by omega) (by omega) (by assumption)))
      | (exfalso; kwd_less; omega)
end
section
def powM (a b c : Int) : Int := ((Builtin.powMod (a % (c.natAbs : Int)).toNat b.natAbs c.natAbs : Nat) : Int)
theorem pow_gives (a : Int) (t : Tok) (b : Int) (u : Tok) (c : Int) (v : Tok) (hc0 : ¬(c == 0) = true) (hc1 : ¬(c.natAbs == 1) = true) (hc2 : ¬ b < 0) :
    Gives (Builtin.«int.__pow__» ⟨[.int a t, .int b u, .int c v], []⟩) (.int (if (decide (c < 0) && powM a b c != 0) = true then powM a b c - (c.natAbs : Int) else powM a b c)) :=
  .of_wp fun M A E s Q h => by obtain ⟨hp, g, d, tk, os⟩ := s; wp_walk; exact ⟨_, rfl, h⟩
theorem kind_pow : builtinKind "pow" = none := by kernel_rfl
theorem plain_pow : plainId "pow" = true := by decide +kernel
theorem entry_pow : entryFor table "pow" = some Builtin.«pow» := entryFor_of_tree (by kernel_rfl)
theorem args_pow (a b c : Value) : argsOk "pow" ⟨[a, b, c], []⟩ := by unfold argsOk; kernel_rfl
theorem pow_key {prog : Program} {w : World} {A : Around} {E : Value → Shared → Prop} {s : Shared} {a b c : Int} {t u v : Tok} {R : Option Value → Shared → Prop} (sl : Slot "int" (Str.ofString "__pow__") "int.__pow__") (h : wpAny (model prog w) A.in1 (call (.builtin "int.__pow__") [.int a t, .int b u, .int c v]) (fun x => R (some x)) E s) :
    wpAny (model prog w) A.in1 (callSpecial? (.int a t) (Str.ofString "__pow__") [.int b u, .int c v]) R E s := by
  refine wpAny_callSpecial?_slot (T := "int") (id := "int.__pow__") ?hT ?sl ?hc
  case sl => exact sl
  case hc => exact h
  case hT => exact typeIs_int s a t
theorem call_pow {prog : Program} {w : World} {A : Around} {E : Value → Shared → Prop} {s : Shared} {a b c : Int} {t u v : Tok} {Q : Value → Shared → Prop} (hc : 1 < c) (hb : 0 ≤ b)
    (h : ∀ tk t', Q (.int (powM a b c) t') { s with toks := tk }) : wpAny (model prog w) A (call (.builtin "pow") [.int a t, .int b u, .int c v]) Q E s := by
  have dec : wpAny (model prog w) A.in1 (call (.builtin "int.__pow__") [.int a t, .int b u, .int c v]) (fun r s' => r = .int (powM a b c) s.toks ∧ s' = { s with toks := s.toks + 1 }) E s := by
    refine call_gives PySem.F.slot_int_pow (typeIs_int s a t) PySem.F.entry_int_pow ?_ (pow_gives a t b u c v ?_ ?_ ?_) ?_
    · unfold argsOk; kernel_rfl
    · simp; omega
    · simp; omega
    · omega
    · have e : (decide (c < 0) && powM a b c != 0) = false := by simp; intro h; omega
      rw [e]
      exact ⟨rfl, rfl⟩
  refine call_function_entry kind_pow plain_pow entry_pow (args_pow _ _ _) ?_
  unfold Builtin.«pow»
  iterate 44 wp_step
  have sl : Slot "int" (Str.ofString "__pow__") "int.__pow__" := (show PySem.dunder "pow" = Str.ofString "__pow__" by decide +kernel) ▸ PySem.F.slot_int_pow
  refine wpAny_of_eq sl.lookup ?_
  dsimp only [Option.getD_some]
  refine wpAny_bind ?_
  refine pow_key sl ?_
  refine wpAny_mono dec (fun r s' hr => ?_) fun _ _ e => e
  obtain ⟨rfl, rfl⟩ := hr
  dsimp only
  refine wpAny_pure ?_
  exact ⟨_, rfl, h _ _⟩
theorem powMod_lt (b e m : Nat) (hm : 0 < m) : Builtin.powMod b e m < m := by
  unfold Builtin.powMod
  generalize (List.range (Builtin.Int.intBits e)).reverse = l
  have key : ∀ (l : List Nat) (p : Nat), p < m → l.foldl (fun p i => if e.testBit i then p * p % m * b % m else p * p % m) p < m := by
    intro l
    induction l with
    | nil => intro p h; exact h
    | cons i l ih => intro p _; rw [List.foldl_cons]; exact ih _ (by split <;> exact Nat.mod_lt _ hm)
  exact key l _ (Nat.mod_lt _ hm)
theorem powM_in {a b c : Int} (hc : 1 < c) : 0 ≤ powM a b c ∧ powM a b c < c := by
  have := powMod_lt (a % (c.natAbs : Int)).toNat b.natAbs c.natAbs (by omega)
  unfold powM; omega
theorem call_powG {prog : Program} {w : World} {A : Around} {E : Value → Shared → Prop} {s : Shared} {a b c : Int} {t u v : Tok} {Q : Value → Shared → Prop} (hc : 1 < c) (hb : 0 ≤ b)
    (h : ∀ (r : Int) (tk t' : Nat), Is r (powM a b c) → (0 ≤ r ∧ r < c) → Q (.int r t') { s with toks := tk }) : wpAny (model prog w) A (call (.builtin "pow") [.int a t, .int b u, .int c v]) Q E s :=
  call_pow hc hb fun tk t' => h _ tk t' (.refl _) (powM_in hc)
local macro_rules | `(tactic| walk_at "call builtin:pow") => `(tactic| (k_here; k_dflt (refine' call_powG ?ka ?kb ?_; (case ka => omega); (case kb => omega); intro _ _ _ _ _); (try dsimp only); (try k_fold))) --KEEP
end
local macro_rules | `(tactic| walk_at "call builtin:pow") => `(tactic| (k_here; k_dflt (refine' call_powG ?ka ?kb ?_; (case ka => omega); (case kb => omega); intro _ _ _ _ _); (try dsimp only); (try k_fold))) --KEEP
section
def limg (p b x y : Int) : Int × Int :=
  if x = 0 then (0, 0) else
    let part := powM x (p - 2) p
    (((x * x * x + 4 * b) * part * part).fmod p, (y * (x * x * x - 8 * b) * part * part * part).fmod p)
theorem limg_in {p b x y : Int} (hp : 1 < p) : In2 p (limg p b x y) := by
  unfold limg; split
  · exact ⟨⟨by decide, by show (0 : Int) < p; omega⟩, by decide, by show (0 : Int) < p; omega⟩
  · exact ⟨fmod_bd (by omega), fmod_bd (by omega)⟩
theorem c_limg {w : World} {p b x y : Int} {tb tp u0 u1 : Tok} {D : Addr} {n : Nat} {news : List (Addr × Obj)}
    (hD : (D, tup2 x y u0 u1 n) ∈ news) (hp : 1 < p) (hp' : p ≤ 1000) (hb : -1000 ≤ b ∧ b ≤ 1000) (hx : 0 ≤ x ∧ x < p) (hy : 0 ≤ y ∧ y < p) :
    At w 3 news fun Ar h₀ L m s => ∀ (Q E : Value → Shared → Prop), RetT2 h₀ L m news s Q p (limg p b x y) →
      wpAny (model PySem.Challenge.rw_bw0041_01.row.prog w) Ar (call (.ref 482) [.ref D, .int b tb, .int p tp]) Q E s := by
  unfold At
  w_top off
  k_fill
  intro p' loose mean mg mb dp un gd cn cs fa ccd cl outer A₀ base h₀ L m s B F KX N T hk hd hu Q E hret
  refine wpAny_call ?_
  k_dflt (refine' code_def ?k1 ?k2 ?k3 ?k4 ?k5 ?kA ?kF ?kK ?k6 ?k7 ?k8 ?k9 ?kB ?_ ?c2 ?c3 ?c4 ?c5; (case kA => exact rfl); (case kF => exact rfl); (case kK => first | exact rfl | assumption); (case k1 => k_asm); (case k2 => k_asm); (case k3 => k_asm); (case k4 => k_asm); (case k5 => k_asm); (case k6 => k_is); (case k7 => k_is); (case k8 => ktr_room); (case k9 => exact BindsTo.of_eq rfl); (case c5 => decide); (case kB => exact locs rfl); (case c2 => exact rfl); (case c3 => exact rfl); (case c4 => exact rfl); k_whole; intro g' L' h' FG' F' N' B' X' T'; (try (replace F' : Fr _ _ _ (fun y => List.lookup y [(Str.ofString "p", _), (Str.ofString "b", _), (Str.ofString "point", _)]) := F')); (try dsimp only); (try k_lift B'); (try k_fold))
  k_steps
  all_goals (refine' endT2 (h' := _) (tk' := _) hret ?F ?N ?m ?s ?e (limg_in hp); (case F => assumption); (case N => assumption); (case m => k_mem); (case s => kcf_all); (case e => (kwd_less; unfold limg; (repeat' split) <;> first | rfl | contradiction)))
local macro_rules | `(tactic| kct_strs) => `(tactic| (k_here; (with_reducible show wpAny _ _ (call (Value.ref 482) _) _ _ _); k_dflt (refine' (At.use (c_limg ?ch0 ?ch1 ?ch2 ?ch3 ?ch4 ?ch5) ?kB ?kF ?kK ?kN ?kT ?kk ?kd ?ku) _ _ ?_; (case kB => k_asm); (case kF => k_asm); (case kK => k_asm); (case kN => k_asm); (case kT => k_asm); (case kk => first | exact rfl | assumption); (case ch0 => k_mem); (case ch1 => omega); (case ch2 => omega); (case ch3 => omega); (case ch4 => omega); (case ch5 => omega); (case kd => ktr_room); (case ku => ktr_units); intro _ _ _ _ _ _ _ _ _ _ _ _; skip); (all_goals (try dsimp only [PySem.W.CmpBack, PySem.W.InitBack, PySem.W.BoolBack, PySem.W.LenBack, PySem.W.StrBack])); (all_goals (try k_fold))))
def lthird (p b x y : Int) : Int × Int :=
  (((limg p (-27 * b) (limg p b x y).1 (limg p b x y).2).1 * powM 9 (p - 2) p).fmod p, ((limg p (-27 * b) (limg p b x y).1 (limg p b x y).2).2 * powM 27 (p - 2) p).fmod p)
theorem c_lthird {w : World} {p b x y : Int} {tb tp u0 u1 : Tok} {D : Addr} {n : Nat} {news : List (Addr × Obj)}
    (hD : (D, tup2 x y u0 u1 n) ∈ news) (hp : 1 < p) (hp' : p ≤ 1000) (hb : -30 ≤ b ∧ b ≤ 30) (hx : 0 ≤ x ∧ x < p) (hy : 0 ≤ y ∧ y < p) :
    At w 5 news fun Ar h₀ L m s => ∀ (Q E : Value → Shared → Prop), RetT2 h₀ L m news s Q p (lthird p b x y) →
      wpAny (model PySem.Challenge.rw_bw0041_01.row.prog w) Ar (call (.ref 489) [.ref D, .int b tb, .int p tp]) Q E s := by
  unfold At
  w_top off
  k_fill
  intro p' loose mean mg mb dp un gd cn cs fa ccd cl outer A₀ base h₀ L m s B F KX N T hk hd hu Q E hret
  refine wpAny_call ?_
  k_dflt (refine' code_def ?k1 ?k2 ?k3 ?k4 ?k5 ?kA ?kF ?kK ?k6 ?k7 ?k8 ?k9 ?kB ?_ ?c2 ?c3 ?c4 ?c5; (case kA => exact rfl); (case kF => exact rfl); (case kK => first | exact rfl | assumption); (case k1 => k_asm); (case k2 => k_asm); (case k3 => k_asm); (case k4 => k_asm); (case k5 => k_asm); (case k6 => k_is); (case k7 => k_is); (case k8 => ktr_room); (case k9 => exact BindsTo.of_eq rfl); (case c5 => decide); (case kB => exact locs rfl); (case c2 => exact rfl); (case c3 => exact rfl); (case c4 => exact rfl); k_whole; intro g' L' h' FG' F' N' B' X' T'; (try (replace F' : Fr _ _ _ (fun y => List.lookup y [(Str.ofString "p", _), (Str.ofString "b", _), (Str.ofString "point", _)]) := F')); (try dsimp only); (try k_lift B'); (try k_fold))
  k_steps
  all_goals (refine' endT2 (h' := _) (tk' := _) hret ?F ?N ?m ?s ?e ⟨fmod_bd (by omega), fmod_bd (by omega)⟩; (case F => assumption); (case N => assumption); (case m => k_mem); (case s => kcf_all); (case e => (kwd_less; rfl)))
local macro_rules | `(tactic| kct_strs) => `(tactic| (k_here; (with_reducible show wpAny _ _ (call (Value.ref 489) _) _ _ _); k_dflt (refine' (At.use (c_lthird ?ch0 ?ch1 ?ch2 ?ch3 ?ch4 ?ch5) ?kB ?kF ?kK ?kN ?kT ?kk ?kd ?ku) _ _ ?_; (case kB => k_asm); (case kF => k_asm); (case kK => k_asm); (case kN => k_asm); (case kT => k_asm); (case kk => first | exact rfl | assumption); (case ch0 => k_mem); (case ch1 => omega); (case ch2 => omega); (case ch3 => omega); (case ch4 => omega); (case ch5 => omega); (case kd => ktr_room); (case ku => ktr_units); intro _ _ _ _ _ _ _ _ _ _ _ _; skip); (all_goals (try dsimp only [PySem.W.CmpBack, PySem.W.InitBack, PySem.W.BoolBack, PySem.W.LenBack, PySem.W.StrBack])); (all_goals (try k_fold))))
end
local macro_rules | `(tactic| kct_strs) => `(tactic| (k_here; (with_reducible show wpAny _ _ (call (Value.ref 482) _) _ _ _); k_dflt (refine' (At.use (c_limg ?ch0 ?ch1 ?ch2 ?ch3 ?ch4 ?ch5) ?kB ?kF ?kK ?kN ?kT ?kk ?kd ?ku) _ _ ?_; (case kB => k_asm); (case kF => k_asm); (case kK => k_asm); (case kN => k_asm); (case kT => k_asm); (case kk => first | exact rfl | assumption); (case ch0 => k_mem); (case ch1 => omega); (case ch2 => omega); (case ch3 => omega); (case ch4 => omega); (case ch5 => omega); (case kd => ktr_room); (case ku => ktr_units); intro _ _ _ _ _ _ _ _ _ _ _ _; skip); (all_goals (try dsimp only [PySem.W.CmpBack, PySem.W.InitBack, PySem.W.BoolBack, PySem.W.LenBack, PySem.W.StrBack])); (all_goals (try k_fold))))
local macro_rules | `(tactic| kct_strs) => `(tactic| (k_here; (with_reducible show wpAny _ _ (call (Value.ref 489) _) _ _ _); k_dflt (refine' (At.use (c_lthird ?ch0 ?ch1 ?ch2 ?ch3 ?ch4 ?ch5) ?kB ?kF ?kK ?kN ?kT ?kk ?kd ?ku) _ _ ?_; (case kB => k_asm); (case kF => k_asm); (case kK => k_asm); (case kN => k_asm); (case kT => k_asm); (case kk => first | exact rfl | assumption); (case ch0 => k_mem); (case ch1 => omega); (case ch2 => omega); (case ch3 => omega); (case ch4 => omega); (case ch5 => omega); (case kd => ktr_room); (case ku => ktr_units); intro _ _ _ _ _ _ _ _ _ _ _ _; skip); (all_goals (try dsimp only [PySem.W.CmpBack, PySem.W.InitBack, PySem.W.BoolBack, PySem.W.LenBack, PySem.W.StrBack])); (all_goals (try k_fold))))
section
def onorm (p x y z : Int) : Int × Int := ((x * invF (z.fmod p) p).fmod p, (y * invF (z.fmod p) p).fmod p)
def oback (p x y z : Int) : Int × Int := if z = (0 : Int).fmod p then (0, 0) else onorm p x y z
theorem oback_in {p x y z : Int} (hp : 1 < p) : In2 p (oback p x y z) := by
  unfold oback; split
  · exact ⟨⟨by decide, by show (0 : Int) < p; omega⟩, by decide, by show (0 : Int) < p; omega⟩
  · exact ⟨fmod_bd (by omega), fmod_bd (by omega)⟩
local macro_rules | `(tactic| kct_strs) => `(tactic| (k_here; (with_reducible show wpAny _ _ (call (Value.ref 428) _) _ _ _); refine wpAny_call ?_; k_dflt (refine' code_def ?k1 ?k2 ?k3 ?k4 ?k5 ?kA ?kF ?kK ?k6 ?k7 ?k8 ?k9 ?kB ?_ ?c2 ?c3 ?c4 ?c5; (case kA => exact rfl); (case kF => exact rfl); (case kK => first | exact rfl | assumption); (case k1 => k_asm); (case k2 => k_asm); (case k3 => k_asm); (case k4 => k_asm); (case k5 => k_asm); (case k6 => k_is); (case k7 => k_is); (case k8 => ktr_room); (case k9 => exact BindsTo.of_eq rfl); (case c5 => decide); (case kB => exact locs rfl); (case c2 => exact rfl); (case c3 => exact rfl); (case c4 => exact rfl); k_whole; intro g' L' h' FG' F' N' B' X' T'; (try (replace F' : Fr _ _ _ (fun y => List.lookup y [(Str.ofString "pt", _)]) := F')); (try dsimp only); (try k_lift B'); (try k_fold))))
local macro_rules | `(tactic| kct_strs) => `(tactic| (k_here; (with_reducible show wpAny _ _ (call (Value.ref 456) _) _ _ _); refine wpAny_call ?_; k_dflt (refine' code_def ?k1 ?k2 ?k3 ?k4 ?k5 ?kA ?kF ?kK ?k6 ?k7 ?k8 ?k9 ?kB ?_ ?c2 ?c3 ?c4 ?c5; (case kA => exact rfl); (case kF => exact rfl); (case kK => first | exact rfl | assumption); (case k1 => k_asm); (case k2 => k_asm); (case k3 => k_asm); (case k4 => k_asm); (case k5 => k_asm); (case k6 => k_is); (case k7 => k_is); (case k8 => ktr_room); (case k9 => exact BindsTo.of_eq rfl); (case c5 => decide); (case kB => exact locs rfl); (case c2 => exact rfl); (case c3 => exact rfl); (case c4 => exact rfl); k_whole; intro g' L' h' FG' F' N' B' X' T'; (try (replace F' : Fr _ _ _ (fun y => List.lookup y [(Str.ofString "pt", _)]) := F')); (try dsimp only); (try k_lift B'); (try k_fold))))
theorem c_oback {w : World} {p a b c : Int} {D x dx y dy z dz : Addr} {h1 h2 g1 g2 i1 i2 : Int} {k1 t1 k2 t2 l1 u1 l2 u2 q1 v1 q2 v2 : Tok} {e e' e'' n : Nat} {news : List (Addr × Obj)}
    (hD : (D, tupR3 x y z n) ∈ news) (hx : (x, instObj 417 dx) ∈ news) (hdx : (dx, fqd p a h1 h2 k1 t1 k2 t2 e) ∈ news) (hy : (y, instObj 417 dy) ∈ news) (hdy : (dy, fqd p b g1 g2 l1 u1 l2 u2 e') ∈ news) (hz : (z, instObj 417 dz) ∈ news) (hdz : (dz, fqd p c i1 i2 q1 v1 q2 v2 e'') ∈ news)
    (hp : 1 < p) (hp' : p ≤ 1000) (ha : 0 ≤ a ∧ a < p) (hb : 0 ≤ b ∧ b < p) (hc : 0 ≤ c ∧ c < p) :
    At w 8 news fun Ar h₀ L m s => ∀ (Q E : Value → Shared → Prop), RetT2 h₀ L m news s Q p (oback p a b c) →
      wpAny (model PySem.Challenge.rw_bw0041_01.row.prog w) Ar (call (.ref 510) [.ref D]) Q E s := by
  unfold At
  w_top off
  k_fill
  intro p' loose mean mg mb dp un gd cn cs fa ccd cl outer A₀ base h₀ L m s B F KX N T hk hd hu Q E hret
  refine wpAny_call ?_
  k_dflt (refine' code_def ?k1 ?k2 ?k3 ?k4 ?k5 ?kA ?kF ?kK ?k6 ?k7 ?k8 ?k9 ?kB ?_ ?c2 ?c3 ?c4 ?c5; (case kA => exact rfl); (case kF => exact rfl); (case kK => first | exact rfl | assumption); (case k1 => k_asm); (case k2 => k_asm); (case k3 => k_asm); (case k4 => k_asm); (case k5 => k_asm); (case k6 => k_is); (case k7 => k_is); (case k8 => ktr_room); (case k9 => exact BindsTo.of_eq rfl); (case c5 => decide); (case kB => exact locs rfl); (case c2 => exact rfl); (case c3 => exact rfl); (case c4 => exact rfl); k_whole; intro g' L' h' FG' F' N' B' X' T'; (try (replace F' : Fr _ _ _ (fun y => List.lookup y [(Str.ofString "told", _)]) := F')); (try dsimp only); (try k_lift B'); (try k_fold))
  k_steps
  all_goals (refine' endT2 (h' := _) (tk' := _) hret ?F ?N ?m ?s ?e (oback_in hp); (case F => assumption); (case N => assumption); (case m => k_mem); (case s => kcf_all); (case e => (kwd_less; unfold oback; (repeat' split) <;> first | rfl | contradiction)))
local macro_rules | `(tactic| kct_strs) => `(tactic| (k_here; (with_reducible show wpAny _ _ (call (Value.ref 510) _) _ _ _); k_dflt (refine' (At.use (c_oback ?ch0 ?ch1 ?ch2 ?ch3 ?ch4 ?ch5 ?ch6 ?ch7 ?ch8 ?ch9 ?ch10 ?ch11) ?kB ?kF ?kK ?kN ?kT ?kk ?kd ?ku) _ _ ?_; (case kB => k_asm); (case kF => k_asm); (case kK => k_asm); (case kN => k_asm); (case kT => k_asm); (case kk => first | exact rfl | assumption); (case ch0 => k_mem); (case ch1 => k_mem); (case ch2 => k_mem); (case ch3 => k_mem); (case ch4 => k_mem); (case ch5 => k_mem); (case ch6 => k_mem); (case ch7 => omega); (case ch8 => omega); (case ch9 => omega); (case ch10 => omega); (case ch11 => omega); (case kd => ktr_room); (case ku => ktr_units); intro _ _ _ _ _ _ _ _ _ _ _ _; skip); (all_goals (try dsimp only [PySem.W.CmpBack, PySem.W.InitBack, PySem.W.BoolBack, PySem.W.LenBack, PySem.W.StrBack])); (all_goals (try k_fold))))
theorem eq_tup2 {prog : Program} {w : World} {A : Around} {E : Value → Shared → Prop} {s : Shared} {h₀ : Heap} {L D D' : Addr} {news : List (Addr × Obj)} {a b c d : Int} {ta tb tc td : Tok} {n n' : Nat} {Q : Value → Shared → Prop}
    (N : News h₀ L s.heap news) (h1 : (D, tup2 a b ta tb n) ∈ news) (h2 : (D', tup2 c d tc td n') ∈ news) (hu : A.units + 64 < cLine) (h : Q (.bool (decide (a = c ∧ b = d))) s) :
    wpAny (model prog w) A (compareOp .Eq (.ref D) (.ref D')) Q E s := by
  refine eq_dataH (reads_tuple_at (N.get h1) rfl rfl (ReadsAll.cons (Reads.int _ _) (ReadsAll.cons (Reads.int _ _) ReadsAll.nil))) (reads_tuple_at (N.get h2) rfl rfl (ReadsAll.cons (Reads.int _ _) (ReadsAll.cons (Reads.int _ _) ReadsAll.nil))) ?_ ?_ hu ?_
  · rfl
  · rfl
  · have e : (decide (a = c ∧ b = d)) = PyData.eqv (.tuple [.int a, .int b]) (.tuple [.int c, .int d]) := by
      simp only [PyData.eqv, PyData.eqvAll]
      by_cases h1 : a = c <;> by_cases h2 : b = d <;> simp [h1, h2]
    rw [e] at h
    exact h
local macro_rules | `(tactic| walk_at "compareOp Eq ref ref") => `(tactic| (k_here; k_dflt (refine' eq_tup2 ?k1 ?k2 ?k3 ?k4 ?_; (case k1 => k_asm); (case k2 => k_mem); (case k3 => k_mem); (case k4 => ktr_units); k_whole))) --KEEP
def lplain (p x y : Int) : Option (Int × Int) := if x = 0 ∧ y = 0 then none else some (x.fmod p, y.fmod p)
theorem c_lplain {w : World} {p x y : Int} {tp u0 u1 : Tok} {D : Addr} {n : Nat} {news : List (Addr × Obj)}
    (hD : (D, tup2 x y u0 u1 n) ∈ news) (hp : 1 < p) (hp' : p ≤ 1000) (hx : 0 ≤ x ∧ x < p) (hy : 0 ≤ y ∧ y < p) :
    At w 16 news fun Ar h₀ L m s => ∀ (Q E : Value → Shared → Prop), RetO 255 h₀ L m news s Q p (lplain p x y) →
      wpAny (model PySem.Challenge.rw_bw0041_01.row.prog w) Ar (call (.ref 496) [.ref D, .int p tp]) Q E s := by
  unfold At
  w_top off
  k_fill
  intro p' loose mean mg mb dp un gd cn cs fa ccd cl outer A₀ base h₀ L m s B F KX N T hk hd hu Q E hret
  refine wpAny_call ?_
  k_dflt (refine' code_def ?k1 ?k2 ?k3 ?k4 ?k5 ?kA ?kF ?kK ?k6 ?k7 ?k8 ?k9 ?kB ?_ ?c2 ?c3 ?c4 ?c5; (case kA => exact rfl); (case kF => exact rfl); (case kK => first | exact rfl | assumption); (case k1 => k_asm); (case k2 => k_asm); (case k3 => k_asm); (case k4 => k_asm); (case k5 => k_asm); (case k6 => k_is); (case k7 => k_is); (case k8 => ktr_room); (case k9 => exact BindsTo.of_eq rfl); (case c5 => decide); (case kB => exact locs rfl); (case c2 => exact rfl); (case c3 => exact rfl); (case c4 => exact rfl); k_whole; intro g' L' h' FG' F' N' B' X' T'; (try (replace F' : Fr _ _ _ (fun y => List.lookup y [(Str.ofString "p", _), (Str.ofString "point", _)]) := F')); (try dsimp only); (try k_lift B'); (try k_fold))
  k_steps
  all_goals first
    | (refine' hret.2 ?e _ _ ?F ?N; (case F => assumption); (case N => exact news_sub (by assumption) (by kcf_all)); (case e => (unfold lplain; (repeat' split) <;> first | rfl | contradiction)))
    | (refine' endP (h' := _) (tk' := _) (hret.1 _ _ ?e) ?F ?N ?m ?x ?dx ?y ?dy ?s rfl ?r; (case F => assumption); (case N => assumption); (case m => k_mem); (case x => k_mem); (case dx => k_mem); (case y => k_mem); (case dy => k_mem); (case s => kcf_all); (case r => (refine ⟨⟨?_, ?_⟩, ?_, ?_⟩ <;> dsimp only <;> omega)); (case e => (kwd_less; unfold lplain; (repeat' split) <;> first | rfl | contradiction)))
local macro_rules | `(tactic| kct_strs) => `(tactic| (k_here; (with_reducible show wpAny _ _ (call (Value.ref 496) _) _ _ _); k_dflt (refine' (At.use (c_lplain ?ch0 ?ch1 ?ch2 ?ch3 ?ch4) ?kB ?kF ?kK ?kN ?kT ?kk ?kd ?ku) _ _ ?_; (case kB => k_asm); (case kF => k_asm); (case kK => k_asm); (case kN => k_asm); (case kT => k_asm); (case kk => first | exact rfl | assumption); (case ch0 => k_mem); (case ch1 => omega); (case ch2 => omega); (case ch3 => omega); (case ch4 => omega); (case kd => ktr_room); (case ku => ktr_units); (unfold RetO); (refine ⟨fun _ _ hOpt => ?_, fun hOpt => ?_⟩); all_goals (first | (unfold RetP; (intro _ _ _ _ _ _ _ _ _ _ _ _ _ _ _ _ _ _ _ _ _ _ _ _ _ _ _ _); (try dsimp only)) | (exfalso; exact lplain_ne hOpt (by assumption) (by assumption)) | (intro _ _)); skip); (all_goals (try dsimp only [PySem.W.CmpBack, PySem.W.InitBack, PySem.W.BoolBack, PySem.W.LenBack, PySem.W.StrBack])); (all_goals (try k_fold))))
def lquick (p x y c : Int) : Int × Int × Int := if x = 0 ∧ y = 0 then ((1 : Int).fmod p, (1 : Int).fmod p, (0 : Int).fmod p) else ((x * c).fmod p, (y * c).fmod p, c.fmod p)
theorem lquick_in {p x y c : Int} (hp : 1 < p) : In3 p (lquick p x y c) := by
  unfold lquick; split
  · exact ⟨fmod_bd (a := 1) (n := p) (by omega), fmod_bd (a := 1) (n := p) (by omega), fmod_bd (a := 0) (n := p) (by omega)⟩
  · exact ⟨fmod_bd (by omega), fmod_bd (by omega), fmod_bd (by omega)⟩
theorem c_lquick {w : World} {p x y c : Int} {tp tc u0 u1 : Tok} {D : Addr} {n : Nat} {news : List (Addr × Obj)}
    (hD : (D, tup2 x y u0 u1 n) ∈ news) (hp : 1 < p) (hp' : p ≤ 1000) (hx : 0 ≤ x ∧ x < p) (hy : 0 ≤ y ∧ y < p) (hc : 0 ≤ c ∧ c ≤ 1000) :
    At w 16 news fun Ar h₀ L m s => ∀ (Q E : Value → Shared → Prop), RetQ h₀ L m news s Q p (lquick p x y c) →
      wpAny (model PySem.Challenge.rw_bw0041_01.row.prog w) Ar (call (.ref 503) [.ref D, .int c tc, .int p tp]) Q E s := by
  unfold At
  w_top off
  k_fill
  intro p' loose mean mg mb dp un gd cn cs fa ccd cl outer A₀ base h₀ L m s B F KX N T hk hd hu Q E hret
  refine wpAny_call ?_
  k_dflt (refine' code_def ?k1 ?k2 ?k3 ?k4 ?k5 ?kA ?kF ?kK ?k6 ?k7 ?k8 ?k9 ?kB ?_ ?c2 ?c3 ?c4 ?c5; (case kA => exact rfl); (case kF => exact rfl); (case kK => first | exact rfl | assumption); (case k1 => k_asm); (case k2 => k_asm); (case k3 => k_asm); (case k4 => k_asm); (case k5 => k_asm); (case k6 => k_is); (case k7 => k_is); (case k8 => ktr_room); (case k9 => exact BindsTo.of_eq rfl); (case c5 => decide); (case kB => exact locs rfl); (case c2 => exact rfl); (case c3 => exact rfl); (case c4 => exact rfl); k_whole; intro g' L' h' FG' F' N' B' X' T'; (try (replace F' : Fr _ _ _ (fun y => List.lookup y [(Str.ofString "p", _), (Str.ofString "scale", _), (Str.ofString "point", _)]) := F')); (try dsimp only); (try k_lift B'); (try k_fold))
  k_steps
  all_goals (refine' endQ (h' := _) (tk' := _) hret ?F ?N ?m ?x ?dx ?y ?dy ?z ?dz ?s ?e (lquick_in hp); (case F => assumption); (case N => assumption); (case m => k_mem); (case x => k_mem); (case dx => k_mem); (case y => k_mem); (case dy => k_mem); (case z => k_mem); (case dz => k_mem); (case s => kcf_all); (case e => (kwd_less; unfold lquick; (repeat' split) <;> first | rfl | contradiction)))
local macro_rules | `(tactic| kct_strs) => `(tactic| (k_here; (with_reducible show wpAny _ _ (call (Value.ref 503) _) _ _ _); k_dflt (refine' (At.use (c_lquick ?ch0 ?ch1 ?ch2 ?ch3 ?ch4 ?ch5) ?kB ?kF ?kK ?kN ?kT ?kk ?kd ?ku) _ _ ?_; (case kB => k_asm); (case kF => k_asm); (case kK => k_asm); (case kN => k_asm); (case kT => k_asm); (case kk => first | exact rfl | assumption); (case ch0 => k_mem); (case ch1 => omega); (case ch2 => omega); (case ch3 => omega); (case ch4 => omega); (case ch5 => omega); (case kd => ktr_room); (case ku => ktr_units); intro _ _ _ _ _ _ _ _ _ _ _ _ _ _ _ _ _ _ _ _ _ _ _ _ _ _ _ _ _ _ _ _ _ _ _ _ _ _ _ _; skip); (all_goals (try dsimp only [PySem.W.CmpBack, PySem.W.InitBack, PySem.W.BoolBack, PySem.W.LenBack, PySem.W.StrBack])); (all_goals (try k_fold))))
end
local macro_rules | `(tactic| kct_strs) => `(tactic| (k_here; (with_reducible show wpAny _ _ (call (Value.ref 428) _) _ _ _); refine wpAny_call ?_; k_dflt (refine' code_def ?k1 ?k2 ?k3 ?k4 ?k5 ?kA ?kF ?kK ?k6 ?k7 ?k8 ?k9 ?kB ?_ ?c2 ?c3 ?c4 ?c5; (case kA => exact rfl); (case kF => exact rfl); (case kK => first | exact rfl | assumption); (case k1 => k_asm); (case k2 => k_asm); (case k3 => k_asm); (case k4 => k_asm); (case k5 => k_asm); (case k6 => k_is); (case k7 => k_is); (case k8 => ktr_room); (case k9 => exact BindsTo.of_eq rfl); (case c5 => decide); (case kB => exact locs rfl); (case c2 => exact rfl); (case c3 => exact rfl); (case c4 => exact rfl); k_whole; intro g' L' h' FG' F' N' B' X' T'; (try (replace F' : Fr _ _ _ (fun y => List.lookup y [(Str.ofString "pt", _)]) := F')); (try dsimp only); (try k_lift B'); (try k_fold))))
local macro_rules | `(tactic| kct_strs) => `(tactic| (k_here; (with_reducible show wpAny _ _ (call (Value.ref 456) _) _ _ _); refine wpAny_call ?_; k_dflt (refine' code_def ?k1 ?k2 ?k3 ?k4 ?k5 ?kA ?kF ?kK ?k6 ?k7 ?k8 ?k9 ?kB ?_ ?c2 ?c3 ?c4 ?c5; (case kA => exact rfl); (case kF => exact rfl); (case kK => first | exact rfl | assumption); (case k1 => k_asm); (case k2 => k_asm); (case k3 => k_asm); (case k4 => k_asm); (case k5 => k_asm); (case k6 => k_is); (case k7 => k_is); (case k8 => ktr_room); (case k9 => exact BindsTo.of_eq rfl); (case c5 => decide); (case kB => exact locs rfl); (case c2 => exact rfl); (case c3 => exact rfl); (case c4 => exact rfl); k_whole; intro g' L' h' FG' F' N' B' X' T'; (try (replace F' : Fr _ _ _ (fun y => List.lookup y [(Str.ofString "pt", _)]) := F')); (try dsimp only); (try k_lift B'); (try k_fold))))
local macro_rules | `(tactic| kct_strs) => `(tactic| (k_here; (with_reducible show wpAny _ _ (call (Value.ref 510) _) _ _ _); k_dflt (refine' (At.use (c_oback ?ch0 ?ch1 ?ch2 ?ch3 ?ch4 ?ch5 ?ch6 ?ch7 ?ch8 ?ch9 ?ch10 ?ch11) ?kB ?kF ?kK ?kN ?kT ?kk ?kd ?ku) _ _ ?_; (case kB => k_asm); (case kF => k_asm); (case kK => k_asm); (case kN => k_asm); (case kT => k_asm); (case kk => first | exact rfl | assumption); (case ch0 => k_mem); (case ch1 => k_mem); (case ch2 => k_mem); (case ch3 => k_mem); (case ch4 => k_mem); (case ch5 => k_mem); (case ch6 => k_mem); (case ch7 => omega); (case ch8 => omega); (case ch9 => omega); (case ch10 => omega); (case ch11 => omega); (case kd => ktr_room); (case ku => ktr_units); intro _ _ _ _ _ _ _ _ _ _ _ _; skip); (all_goals (try dsimp only [PySem.W.CmpBack, PySem.W.InitBack, PySem.W.BoolBack, PySem.W.LenBack, PySem.W.StrBack])); (all_goals (try k_fold))))
local macro_rules | `(tactic| walk_at "compareOp Eq ref ref") => `(tactic| (k_here; k_dflt (refine' eq_tup2 ?k1 ?k2 ?k3 ?k4 ?_; (case k1 => k_asm); (case k2 => k_mem); (case k3 => k_mem); (case k4 => ktr_units); k_whole))) --KEEP
local macro_rules | `(tactic| kct_strs) => `(tactic| (k_here; (with_reducible show wpAny _ _ (call (Value.ref 503) _) _ _ _); k_dflt (refine' (At.use (c_lquick ?ch0 ?ch1 ?ch2 ?ch3 ?ch4 ?ch5) ?kB ?kF ?kK ?kN ?kT ?kk ?kd ?ku) _ _ ?_; (case kB => k_asm); (case kF => k_asm); (case kK => k_asm); (case kN => k_asm); (case kT => k_asm); (case kk => first | exact rfl | assumption); (case ch0 => k_mem); (case ch1 => omega); (case ch2 => omega); (case ch3 => omega); (case ch4 => omega); (case ch5 => omega); (case kd => ktr_room); (case ku => ktr_units); intro _ _ _ _ _ _ _ _ _ _ _ _ _ _ _ _ _ _ _ _ _ _ _ _ _ _ _ _ _ _ _ _ _ _ _ _ _ _ _ _; skip); (all_goals (try dsimp only [PySem.W.CmpBack, PySem.W.InitBack, PySem.W.BoolBack, PySem.W.LenBack, PySem.W.StrBack])); (all_goals (try k_fold))))
section
def RetA (h₀ : Heap) (L : Addr) (m : Str → Option Value) (news : List (Addr × Obj)) (s : Shared) (Q : Value → Shared → Prop) : Prop :=
  ∀ (v : Int) (t : Tok) (h' : Heap) (tk' : Nat), Fr h₀ L h' m → News h₀ L h' news → Q (.int v t) { s with heap := h', toks := tk' }
theorem c_at {w : World} {k : Int} {tk : Tok} {l : Addr} {vs : List Value} {ns : List Int} {news : List (Addr × Obj)} (hi : IntsAre vs ns) (hlen : ns.length ≤ 63) (hk0 : 0 ≤ k ∧ k ≤ 10) :
    At w 4 news fun Ar h₀ L m s => h₀.IsList l vs.toArray → ∀ (Q E : Value → Shared → Prop), RetA h₀ L m news s Q →
      wpAny (model PySem.Challenge.rw_bw0041_01.row.prog w) Ar (call (.ref 470) [.ref l, .int k tk]) Q E s := by
  unfold At
  w_top off
  k_fill
  intro p' loose mean mg mb dp un gd cn cs fa ccd cl outer A₀ base h₀ L m s B F KX N T hk hd hu hl Q E hret
  refine wpAny_call ?_
  k_dflt (refine' code_def ?k1 ?k2 ?k3 ?k4 ?k5 ?kA ?kF ?kK ?k6 ?k7 ?k8 ?k9 ?kB ?_ ?c2 ?c3 ?c4 ?c5; (case kA => exact rfl); (case kF => exact rfl); (case kK => first | exact rfl | assumption); (case k1 => k_asm); (case k2 => k_asm); (case k3 => k_asm); (case k4 => k_asm); (case k5 => k_asm); (case k6 => k_is); (case k7 => k_is); (case k8 => ktr_room); (case k9 => exact BindsTo.of_eq rfl); (case c5 => decide); (case kB => exact locs rfl); (case c2 => exact rfl); (case c3 => exact rfl); (case c4 => exact rfl); k_whole; intro g' L' h' FG' F' N' B' X' T'; (try (replace F' : Fr _ _ _ (fun y => List.lookup y [(Str.ofString "k", _), (Str.ofString "script", _)]) := F')); (try dsimp only); (try k_lift B'); (try k_fold))
  have hg : ∀ g', Fr h₀ L g' m → g'.IsList l vs.toArray := fun g' FG => stays_list FG.keep hl
  have hg' := hg _ (by assumption)
  clear hg
  k_steps
  all_goals exact hret _ _ _ _ (by assumption) (by assumption)
theorem c_at' {w : World} {k : Int} {tk : Tok} {l : Addr} {vs : List Value} {ns : List Int} {news : List (Addr × Obj)} {p : Program} {loose : List Str} {mean : ExcName → Option Value} {mg mb : Str → Option Value} {dp un : Nat} {gd : Option (List Code)} {cn : Str} {cs : Scope} {a : Addr} {ccd : Value} {cl : List (Str × Addr)} {outer : List Env} {A₀ : Around} {base h₀ : Heap} {L : Addr} {m : Str → Option Value} {s : Shared} {Q E : Value → Shared → Prop}
    (hl : h₀.IsList l vs.toArray) (hi : IntsAre vs ns) (hlen : ns.length ≤ 63) (hk0 : 0 ≤ k ∧ k ≤ 10) (B : Below A₀ base outer h₀) (F : Fr h₀ L s.heap m) (K : (Mine.hd.heap_39 w.params).In h₀) (N : News h₀ L s.heap news) (T : Top p loose mean mg mb h₀) (hk : cs.kind = .function) (hd : dp + 4 < recursionLimit) (hu : un + 8 * 4 < cLine)
    (h : RetA h₀ L m news s Q) : wpAny (model PySem.Challenge.rw_bw0041_01.row.prog w) (ktrTop dp un gd cn cs L a ccd cl outer) (call (.ref 470) [.ref l, .int k tk]) Q E s :=
  At.use (c_at hi hlen hk0) B F K N T hk hd hu hl Q E h
local macro_rules | `(tactic| kct_strs) => `(tactic| (k_here; (with_reducible show wpAny _ _ (call (Value.ref 470) _) _ _ _); k_dflt (refine' c_at' ?kl ?ki ?kn ?kj ?kB ?kF ?kK ?kN ?kT ?kk ?kd ?ku ?_; (case kB => k_asm); (case kF => k_asm); (case kK => k_asm); (case kN => k_asm); (case kT => k_asm); (case kk => first | exact rfl | assumption); (case kl => assumption); (case ki => assumption); (case kn => omega); (case kj => omega); (case kd => ktr_room); (case ku => ktr_units); intro _ _ _ _ _ _); (try dsimp only); (try k_fold))) --KEEP
end
local macro_rules | `(tactic| kct_strs) => `(tactic| (k_here; (with_reducible show wpAny _ _ (call (Value.ref 470) _) _ _ _); k_dflt (refine' c_at' ?kl ?ki ?kn ?kj ?kB ?kF ?kK ?kN ?kT ?kk ?kd ?ku ?_; (case kB => k_asm); (case kF => k_asm); (case kK => k_asm); (case kN => k_asm); (case kT => k_asm); (case kk => first | exact rfl | assumption); (case kl => assumption); (case ki => assumption); (case kn => omega); (case kj => omega); (case kd => ktr_room); (case ku => ktr_units); intro _ _ _ _ _ _); (try dsimp only); (try k_fold))) --KEEP
section
abbrev listO (vs : List Value) (n : Nat) : Obj := { cls := .type "list", data := .seq vs.toArray n }
section
variable {prog : Program} {w : World} {A : Around} {E : Value → Shared → Prop} {s : Shared} {h₀ : Heap} {L l : Addr} {news : List (Addr × Obj)} {vs : List Value} {k : Int} {u : Tok} {n : Nat} {value slice : PySem.Expr} {Q : Value → Shared → Prop}
theorem item_list (N : News h₀ L s.heap news) (hl : (l, listO vs n) ∈ news) {v : Value} (h0 : 0 ≤ k) (h1 : k < 2 ^ 63) (hx : vs[k.toNat]? = some v) (h : Q v s)
    (hs : subscripted slice false (.ref l) (.int k u) = operate [.ref l, .int k u] (getItem (.ref l) (.int k u)) := by with_unfolding_all rfl) :
    wpAny (model prog w) A (subscriptTail value slice (.ref l) (.int k u)) Q E s :=
  have hL : s.heap.IsList l vs.toArray := ⟨_, (N _ hl).1, rfl, n, rfl⟩
  tail_any hL.typeIs slot_list_getitem.lookup (wpAny_getItem_list hL h0 h1 (by simpa using hx) h) hs
def curvesL : List (Int × Int × Int) := [(13, 21, 4), (19, 27, 5), (31, 39, 9), (37, 49, 2), (43, 31, 7), (61, 63, 5), (67, 73, 2), (79, 67, 7)]
theorem curve_bd {P O B : Int} (h : (P, O, B) ∈ curvesL) : (13 ≤ P ∧ P ≤ 79) ∧ (21 ≤ O ∧ O ≤ 73) ∧ (2 ≤ B ∧ B ≤ 9) := by
  revert h; unfold curvesL; simp only [List.mem_cons, List.not_mem_nil, or_false, Prod.mk.injEq]
  omega
theorem pick8 (N : News h₀ L s.heap news) (hl : (l, listO vs n) ∈ news) (h0 : 0 ≤ k ∧ k < 8)
    (hT : ∀ i : Nat, i < 8 → ∃ D P O B t0 t1 t2 n, vs[i]? = some (.ref D) ∧ (D, tup3 P O B t0 t1 t2 n) ∈ news ∧ (P, O, B) ∈ curvesL)
    (h : ∀ D P O B t0 t1 t2 n, (P, O, B) ∈ curvesL → (D, tup3 P O B t0 t1 t2 n) ∈ news → Q (.ref D) s)
    (hs : subscripted slice false (.ref l) (.int k u) = operate [.ref l, .int k u] (getItem (.ref l) (.int k u)) := by with_unfolding_all rfl) :
    wpAny (model prog w) A (subscriptTail value slice (.ref l) (.int k u)) Q E s := by
  obtain ⟨D, P, O, B, t0, t1, t2, n', e, hm, hc⟩ := hT k.toNat (by omega)
  exact item_list N hl h0.1 (by omega) e (h D P O B t0 t1 t2 n' hc hm) hs
def RetPts (h₀ : Heap) (L : Addr) (m : Str → Option Value) (news : List (Addr × Obj)) (s : Shared) (Q : Value → Shared → Prop) (pts : List (Int × Int)) : Prop :=
  ∀ (l : Addr) (vs : List Value) (n : Nat) (add : List (Addr × Obj)) (h' : Heap) (tk' : Nat), vs.length = pts.length → (∀ (i : Nat) (x y : Int), pts[i]? = some (x, y) → ∃ D t0 t1 n, vs[i]? = some (.ref D) ∧ (D, tup2 x y t0 t1 n) ∈ add) →
    Fr h₀ L h' m → News h₀ L h' ((l, listO vs n) :: (news ++ add)) → Q (.ref l) { s with heap := h', toks := tk' }
/-- the points of y ** 2 = x ** 3 + b over p, in the order of the program -/
def pts (p b : Int) : List (Int × Int) := (List.range p.toNat).flatMap fun (x : Nat) => ((List.range p.toNat).filter fun (y : Nat) => ((y : Int) * (y : Int)).fmod p == ((x : Int) * (x : Int) * (x : Int) + b).fmod p).map fun (y : Nat) => ((x : Int), (y : Int))
theorem pts_in {p b x y : Int} (h : (x, y) ∈ pts p b) : (0 ≤ x ∧ x < p) ∧ (0 ≤ y ∧ y < p) := by
  unfold pts at h
  simp only [List.mem_flatMap, List.mem_map, List.mem_filter, List.mem_range, Prod.mk.injEq] at h
  obtain ⟨a, ha, c, ⟨hc, _⟩, rfl, rfl⟩ := h
  omega
theorem pickPts {p b : Int} {add : List (Addr × Obj)} (N : News h₀ L s.heap news) (hl : (l, listO vs n) ∈ news) (hT : ∀ (i : Nat) (x y : Int), (pts p b)[i]? = some (x, y) → ∃ D t0 t1 n, vs[i]? = some (.ref D) ∧ (D, tup2 x y t0 t1 n) ∈ add) (hlen : vs.length = (pts p b).length) (h0 : 0 ≤ k ∧ k < vs.length) (hsz : vs.length < 1000)
    (h : ∀ D x y t0 t1 n, (x, y) ∈ pts p b → (0 ≤ x ∧ x < p) → (0 ≤ y ∧ y < p) → (D, tup2 x y t0 t1 n) ∈ add → Q (.ref D) s)
    (hs : subscripted slice false (.ref l) (.int k u) = operate [.ref l, .int k u] (getItem (.ref l) (.int k u)) := by with_unfolding_all rfl) :
    wpAny (model prog w) A (subscriptTail value slice (.ref l) (.int k u)) Q E s := by
  have hk : k.toNat < (pts p b).length := by omega
  obtain ⟨D, t0, t1, n', e, hm⟩ := hT k.toNat ((pts p b)[k.toNat]).1 ((pts p b)[k.toNat]).2 (by rw [List.getElem?_eq_getElem hk])
  exact item_list N hl h0.1 (by omega) e (h D _ _ t0 t1 n' (List.getElem_mem hk) (pts_in (List.getElem_mem hk)).1 (pts_in (List.getElem_mem hk)).2 hm) hs
end
local macro_rules | `(tactic| walk_at "subscriptTail Name") => `(tactic| (k_here; k_dflt (refine' pickPts ?k1 ?k2 ?k3 ?k4 ?k5 ?k6 ?_; (case k1 => k_asm); (case k2 => k_mem); (case k3 => assumption); (case k4 => assumption); (case k5 => omega); (case k6 => omega); k_whole; intro _ _ _ _ _ _ _ _ _ _))) --KEEP
local macro_rules | `(tactic| walk_at "subscriptTail") => `(tactic| (k_here; k_dflt (refine' pick8 ?k1 ?k2 ?k3 ?k4 ?_; (case k1 => k_asm); (case k2 => k_mem); (case k3 => omega); (case k4 => (intro i hi; rcases i with _ | _ | _ | _ | _ | _ | _ | _ | i <;> first | exact ⟨_, _, _, _, _, _, _, _, rfl, by k_mem, by decide⟩ | (exfalso; omega))); k_whole; intro _ _ _ _ _ _ _ _ hCur _; (have hCurB := curve_bd hCur)))) --KEEP
theorem curve_len {P O B : Int} (h : (P, O, B) ∈ curvesL) : ((pts P B).length : Int) = O - 1 := by
  have key : curvesL.all (fun c => decide (((pts c.1 c.2.2).length : Int) = c.2.1 - 1)) = true := by decide +kernel
  exact of_decide_eq_true (List.all_eq_true.mp key _ h)
theorem len_pts {prog : Program} {w : World} {A : Around} {E : Value → Shared → Prop} {s : Shared} {h₀ : Heap} {L l : Addr} {news : List (Addr × Obj)} {vs : List Value} {n : Nat} {P O B : Int} {Q : Value → Shared → Prop} (N : News h₀ L s.heap news) (hl : (l, listO vs n) ∈ news) (hc : (P, O, B) ∈ curvesL) (hv : vs.length = (pts P B).length)
    (h : ∀ (r : Int) (t tk : Nat), r = O - 1 → (vs.length : Int) = O - 1 → Q (.int r t) { s with toks := tk }) : wpAny (model prog w) A (call (.builtin "len") [.ref l]) Q E s := by
  have e := curve_len hc
  have b := curve_bd hc
  refine len_list (items := vs.toArray) ⟨_, (N _ hl).1, rfl, n, rfl⟩ (by simp; omega) ?_
  exact h _ _ _ (by simp; omega) (by omega)
local macro_rules | `(tactic| walk_at "call builtin:len") => `(tactic| (k_here; k_dflt (refine' len_pts ?k1 ?k2 ?k3 ?k4 ?_; (case k1 => k_asm); (case k2 => k_mem); (case k3 => assumption); (case k4 => assumption); k_whole; intro _ _ _ _ _); (try dsimp only); (try k_fold))) --KEEP
end
local macro_rules | `(tactic| walk_at "subscriptTail Name") => `(tactic| (k_here; k_dflt (refine' pickPts ?k1 ?k2 ?k3 ?k4 ?k5 ?k6 ?_; (case k1 => k_asm); (case k2 => k_mem); (case k3 => assumption); (case k4 => assumption); (case k5 => omega); (case k6 => omega); k_whole; intro _ _ _ _ _ _ _ _ _ _))) --KEEP
local macro_rules | `(tactic| walk_at "subscriptTail") => `(tactic| (k_here; k_dflt (refine' pick8 ?k1 ?k2 ?k3 ?k4 ?_; (case k1 => k_asm); (case k2 => k_mem); (case k3 => omega); (case k4 => (intro i hi; rcases i with _ | _ | _ | _ | _ | _ | _ | _ | i <;> first | exact ⟨_, _, _, _, _, _, _, _, rfl, by k_mem, by decide⟩ | (exfalso; omega))); k_whole; intro _ _ _ _ _ _ _ _ hCur _; (have hCurB := curve_bd hCur)))) --KEEP
local macro_rules | `(tactic| walk_at "call builtin:len") => `(tactic| (k_here; k_dflt (refine' len_pts ?k1 ?k2 ?k3 ?k4 ?_; (case k1 => k_asm); (case k2 => k_mem); (case k3 => assumption); (case k4 => assumption); k_whole; intro _ _ _ _ _); (try dsimp only); (try k_fold))) --KEEP
section
def iN (T x : Nat) : Nat := Nat.land (Nat.shiftRight T (Nat.mul 7 x)) 127
def chordN (P T x1 y1 x2 y2 : Nat) : Nat := Nat.mod (Nat.mul (Nat.add y2 (Nat.sub P y1)) (iN T (Nat.mod (Nat.add x2 (Nat.sub P x1)) P))) P
def tangN (P T x1 y1 : Nat) : Nat := Nat.mod (Nat.mul (Nat.mul 3 (Nat.mul x1 x1)) (iN T (Nat.mod (Nat.mul 2 y1) P))) P
def xN (P l x1 x2 : Nat) : Nat := Nat.mod (Nat.add (Nat.mul l l) (Nat.add (Nat.sub P x1) (Nat.sub P x2))) P
def yN (P l x1 y1 x3 : Nat) : Nat := Nat.mod (Nat.add (Nat.mul l (Nat.add x1 (Nat.sub P x3))) (Nat.sub P y1)) P
def thirdN (P l x1 y1 x2 : Nat) : Nat × Nat := (xN P l x1 x2, yN P l x1 y1 (xN P l x1 x2))
def zN (p : Nat × Nat) : Bool := and (Nat.beq p.1 0) (Nat.beq p.2 0)
def aN (P T : Nat) (p q : Nat × Nat) : Nat × Nat :=
  cond (zN p) q (cond (zN q) p (cond (Nat.beq p.1 q.1) (cond (Nat.beq p.2 q.2) (thirdN P (tangN P T p.1 p.2) p.1 p.2 q.1) (0, 0)) (thirdN P (chordN P T p.1 p.2 q.1 q.2) p.1 p.2 q.1)))
/-- the point lies on y² = x³ + b -/
def onN (P b : Nat) (p : Nat × Nat) : Bool := Nat.beq (Nat.mod (Nat.mul p.2 p.2) P) (Nat.mod (Nat.add (Nat.mul p.1 (Nat.mul p.1 p.1)) b) P)
def phN (P T b : Nat) (p : Nat × Nat) : Nat × Nat :=
  cond (Nat.beq p.1 0) (0, 0)
    (Nat.mod (Nat.mul (Nat.add (Nat.mul p.1 (Nat.mul p.1 p.1)) (Nat.mul 4 b)) (Nat.mul (iN T p.1) (iN T p.1))) P,
     Nat.mod (Nat.mul (Nat.mul p.2 (Nat.add (Nat.mul p.1 (Nat.mul p.1 p.1)) (Nat.sub (Nat.mul 8 P) (Nat.mul 8 b)))) (Nat.mul (iN T p.1) (Nat.mul (iN T p.1) (iN T p.1)))) P)
def eqN (p q : Nat × Nat) : Bool := and (Nat.beq p.1 q.1) (Nat.beq p.2 q.2)
section
open Lean.Grind
variable {α : Type} [CommRing α] {P : Nat} [IsCharP α P]
abbrev cI (α : Type) [CommRing α] (a : Int) : α := @Int.cast α Ring.intCast a
abbrev cN (α : Type) [CommRing α] (a : Nat) : α := cI α (a : Int)
theorem cI_fmod (P : Nat) [IsCharP α P] (a : Int) : cI α (a.fmod (P : Int)) = cI α a := by
  rw [Int.fmod_eq_emod_of_nonneg _ (by omega)]
  exact IsCharP.intCast_emod P a
theorem cI_add (a b : Int) : cI α (a + b) = cI α a + cI α b := Ring.intCast_add a b
theorem cI_mul (a b : Int) : cI α (a * b) = cI α a * cI α b := Ring.intCast_mul a b
theorem cI_sub (a b : Int) : cI α (a - b) = cI α a - cI α b := Ring.intCast_sub a b
theorem cI_neg (a : Int) : cI α (-a) = - cI α a := Ring.intCast_neg a
theorem cI_pow (a : Int) (k : Nat) : cI α (a ^ k) = cI α a ^ k := Ring.intCast_pow a k
theorem cI_0 : cI α 0 = 0 := Ring.intCast_zero
theorem cI_1 : cI α 1 = 1 := Ring.intCast_one
theorem cI_ofNat (n : Nat) : cI α (OfNat.ofNat (n + 2) : Int) = OfNat.ofNat (n + 2) := Ring.intCast_ofNat _
theorem cI_inj (P : Nat) [IsCharP α P] {a b : Int} (ha : 0 ≤ a ∧ a < P) (hb : 0 ≤ b ∧ b < P) (h : cI α a = cI α b) : a = b := by
  have := (IsCharP.intCast_ext_iff P).mp h
  rw [Int.emod_eq_of_lt ha.1 ha.2, Int.emod_eq_of_lt hb.1 hb.2] at this
  exact this
theorem cN_mod (P : Nat) [IsCharP α P] (a : Nat) : cN α (a % P) = cN α a := by
  unfold cN; rw [Int.natCast_emod]; exact IsCharP.intCast_emod P a
theorem cN_add (a b : Nat) : cN α (a + b) = cN α a + cN α b := by unfold cN; rw [Int.natCast_add]; exact cI_add ..
theorem cN_mul (a b : Nat) : cN α (a * b) = cN α a * cN α b := by unfold cN; rw [Int.natCast_mul]; exact cI_mul ..
theorem cN_P (P : Nat) [IsCharP α P] : cN α P = 0 := by
  have := cN_mod (α := α) P P
  rw [Nat.mod_self] at this
  rw [← this]; exact cI_0
theorem cN_negP (P : Nat) [IsCharP α P] {a : Nat} (h : a ≤ P) : cN α (P - a) = - cN α a := by
  have e : cN α (P - a) + cN α a = 0 := by rw [← cN_add, Nat.sub_add_cancel h, cN_P]
  grind
end
end
section
section
open Lean.Grind
variable {α : Type} [CommRing α]
/-- chord, Jacobian: x -/
theorem alg_jx (x1 y1 x2 y2 Z1 Z2 l : α) (h : l * (x2 - x1) = y2 - y1) :
    let U1 := x1 * Z1 ^ 2 * Z2 ^ 2
    let U2 := x2 * Z2 ^ 2 * Z1 ^ 2
    let S1 := y1 * Z1 ^ 3 * Z2 ^ 3
    let S2 := y2 * Z2 ^ 3 * Z1 ^ 3
    let H := U2 - U1
    let R := S2 - S1
    let nz := H * Z1 * Z2
    R ^ 2 - H * (H * H) - 2 * (U1 * (H * H)) = (l * l - x1 - x2) * nz ^ 2 := by
  have e : y2 = y1 + l * (x2 - x1) := by grind
  subst e
  grind
theorem alg_jy (x1 y1 x2 y2 x3 Z1 Z2 l : α) (h : l * (x2 - x1) = y2 - y1) :
    let U1 := x1 * Z1 ^ 2 * Z2 ^ 2
    let U2 := x2 * Z2 ^ 2 * Z1 ^ 2
    let S1 := y1 * Z1 ^ 3 * Z2 ^ 3
    let S2 := y2 * Z2 ^ 3 * Z1 ^ 3
    let H := U2 - U1
    let R := S2 - S1
    let nz := H * Z1 * Z2
    R * (U1 * (H * H) - x3 * nz ^ 2) - S1 * (H * (H * H)) = (l * (x1 - x3) - y1) * nz ^ 3 := by
  have e : y2 = y1 + l * (x2 - x1) := by grind
  subst e
  grind
theorem alg_dx (x1 y1 Z l : α) (h : l * (2 * y1) = 3 * (x1 * x1)) :
    (3 * (x1 * Z ^ 2) ^ 2) ^ 2 - 2 * (4 * (x1 * Z ^ 2) * (y1 * Z ^ 3) ^ 2) = (l * l - x1 - x1) * (2 * (y1 * Z ^ 3) * Z) ^ 2 := by
  grind
theorem alg_dy (x1 y1 x3 Z l : α) (h : l * (2 * y1) = 3 * (x1 * x1)) :
    (3 * (x1 * Z ^ 2) ^ 2) * (4 * (x1 * Z ^ 2) * (y1 * Z ^ 3) ^ 2 - x3 * (2 * (y1 * Z ^ 3) * Z) ^ 2) - 8 * ((y1 * Z ^ 3) ^ 2) ^ 2 = (l * (x1 - x3) - y1) * (2 * (y1 * Z ^ 3) * Z) ^ 3 := by
  grind
end
end
section
theorem zN_iff {p : Nat × Nat} : zN p = true ↔ p = (0, 0) := by
  obtain ⟨a, b⟩ := p
  simp [zN, Nat.beq_eq]
theorem zN_ff {p : Nat × Nat} (h : p.2 ≠ 0) : zN p = false := by
  obtain ⟨a, b⟩ := p
  simp only [zN, Bool.and_eq_false_iff]
  right
  exact Bool.eq_false_iff.mpr fun e => h (Nat.beq_eq.mp e)
theorem aN_z1 {P T : Nat} {p q : Nat × Nat} (h : zN p = true) : aN P T p q = q := by unfold aN; rw [h]; rfl
theorem aN_z2 {P T : Nat} {p q : Nat × Nat} (h : zN p = false) (h' : zN q = true) : aN P T p q = p := by unfold aN; rw [h, h']; rfl
theorem aN_opp {P T : Nat} {p q : Nat × Nat} (h : zN p = false) (h' : zN q = false) (hx : p.1 = q.1) (hy : p.2 ≠ q.2) : aN P T p q = (0, 0) := by
  unfold aN
  rw [h, h', (Nat.beq_eq (x := p.1) (y := q.1)).mpr hx, show Nat.beq p.2 q.2 = false from Bool.eq_false_iff.mpr fun e => hy (Nat.beq_eq.mp e)]; rfl
theorem aN_dbl {P T : Nat} {p : Nat × Nat} (h : zN p = false) : aN P T p p = thirdN P (tangN P T p.1 p.2) p.1 p.2 p.1 := by
  unfold aN
  rw [h, Nat.beq_refl, Nat.beq_refl]; rfl
theorem aN_ch {P T : Nat} {p q : Nat × Nat} (h : zN p = false) (h' : zN q = false) (hx : p.1 ≠ q.1) : aN P T p q = thirdN P (chordN P T p.1 p.2 q.1 q.2) p.1 p.2 q.1 := by
  unfold aN
  rw [h, h', show Nat.beq p.1 q.1 = false from Bool.eq_false_iff.mpr fun e => hx (Nat.beq_eq.mp e)]; rfl
section
open Lean.Grind
variable {α : Type} [CommRing α]
/-- the field: what the numbers are asked -/
structure Fd (α : Type) [CommRing α] (P T : Nat) : Prop where
  ch : IsCharP α P
  lo : 2 < P
  hi : P ≤ 100
  odd : P % 2 = 1
  sur : ∀ a : α, ∃ n : Nat, n < P ∧ cN α n = a
  inv : ∀ n : Nat, n < P → n ≠ 0 → (iN T n * n) % P = 1
  invF : ∀ n : Nat, n < P → n ≠ 0 → (invF n P * n).fmod P = 1
variable {P T : Nat} (K : Fd α P T)
include K
theorem Fd.inj {a b : Nat} (ha : a < P) (hb : b < P) (h : cN α a = cN α b) : a = b := by
  have := K.ch
  have := cI_inj (α := α) P (a := a) (b := b) ⟨by omega, by omega⟩ ⟨by omega, by omega⟩ h
  omega
theorem Fd.ne0 {a : Nat} (ha : a < P) (h : a ≠ 0) : cN α a ≠ 0 := fun e => h (K.inj ha (by have := K.lo; omega) (e.trans cI_0.symm))
theorem Fd.ex {a : α} (h : a ≠ 0) : ∃ i : α, i * a = 1 := by
  obtain ⟨n, hn, rfl⟩ := K.sur a
  have := K.ch
  refine ⟨cN α (iN T n), ?_⟩
  rw [← cN_mul, ← cN_mod P, K.inv n hn (fun e => h (by rw [e]; exact cI_0))]
  exact cI_1
theorem Fd.mul {a b : α} (ha : a ≠ 0) (hb : b ≠ 0) : a * b ≠ 0 := by
  intro h
  obtain ⟨i, hi⟩ := K.ex ha
  apply hb
  grind
theorem Fd.pow {a : α} (ha : a ≠ 0) : ∀ k : Nat, a ^ k ≠ 0
  | 0 => by
    rw [Semiring.pow_zero]
    intro h
    have := K.ch
    have := K.ne0 (a := 1) (by have := K.lo; omega) (by decide)
    exact this (cI_1.trans h)
  | k + 1 => by rw [Semiring.pow_succ]; exact K.mul (Fd.pow ha k) ha
theorem Fd.two : (2 : α) ≠ 0 := by
  have := K.ne0 (a := 2) K.lo (by decide)
  intro h; apply this; exact (cI_ofNat 0).trans h
/-- the inverse that the programs take -/
theorem Fd.invI {a : Int} (h0 : 0 ≤ a ∧ a < P) (h : cI α a ≠ 0) : cI α (Mine.invF a P) * cI α a = 1 := by
  have := K.ch
  obtain ⟨n, rfl⟩ := Int.eq_ofNat_of_zero_le h0.1
  have := K.invF n (by omega) (fun e => h (by rw [e]; exact cI_0))
  rw [← cI_mul, ← cI_fmod P, this]; exact cI_1
theorem Fd.chord {p q : Nat × Nat} (hp : p.1 < P ∧ p.2 < P) (hq : q.1 < P ∧ q.2 < P) (h : zN p = false) (h' : zN q = false) (hx : p.1 ≠ q.1) :
    ((aN P T p q).1 < P ∧ (aN P T p q).2 < P) ∧ ∃ l : α, l * (cN α q.1 - cN α p.1) = cN α q.2 - cN α p.2 ∧ cN α (aN P T p q).1 = l * l - cN α p.1 - cN α q.1 ∧ cN α (aN P T p q).2 = l * (cN α p.1 - cN α (aN P T p q).1) - cN α p.2 := by
  have := K.ch
  have hlo := K.lo
  rw [aN_ch h h' hx]
  have hx3 : (thirdN P (chordN P T p.1 p.2 q.1 q.2) p.1 p.2 q.1).1 < P := Nat.mod_lt _ (by omega)
  refine ⟨⟨hx3, Nat.mod_lt _ (by omega)⟩, cN α (chordN P T p.1 p.2 q.1 q.2), ?_, ?_, ?_⟩
  · have hd : (q.1 + (P - p.1)) % P ≠ 0 := by
      intro e
      have e2 := cN_mod (α := α) P (q.1 + (P - p.1))
      rw [e, cN_add, cN_negP P (by omega)] at e2
      apply hx
      refine K.inj hp.1 hq.1 ?_
      have : cN α 0 = 0 := cI_0
      grind
    have hi := K.inv _ (Nat.mod_lt (q.1 + (P - p.1)) (by omega)) hd
    have hi2 : cN α (iN T ((q.1 + (P - p.1)) % P)) * (cN α q.1 - cN α p.1) = 1 := by
      have e1 := cN_mod (α := α) P (iN T ((q.1 + (P - p.1)) % P) * ((q.1 + (P - p.1)) % P))
      rw [hi, cN_mul, cN_mod, cN_add, cN_negP P (by omega)] at e1
      have : cN α 1 = 1 := cI_1
      grind
    have e : cN α (chordN P T p.1 p.2 q.1 q.2) = (cN α q.2 - cN α p.2) * cN α (iN T ((q.1 + (P - p.1)) % P)) := by
      show cN α (((q.2 + (P - p.2)) * iN T ((q.1 + (P - p.1)) % P)) % P) = _
      rw [cN_mod, cN_mul, cN_add, cN_negP P (by omega)]
      grind
    rw [e]; grind
  · show cN α ((chordN P T p.1 p.2 q.1 q.2 * chordN P T p.1 p.2 q.1 q.2 + ((P - p.1) + (P - q.1))) % P) = _
    rw [cN_mod, cN_add, cN_add, cN_mul, cN_negP P (by omega), cN_negP P (by omega)]
    grind
  · rw [show (thirdN P (chordN P T p.1 p.2 q.1 q.2) p.1 p.2 q.1).2 = yN P (chordN P T p.1 p.2 q.1 q.2) p.1 p.2 (thirdN P (chordN P T p.1 p.2 q.1 q.2) p.1 p.2 q.1).1 from rfl]
    generalize (thirdN P (chordN P T p.1 p.2 q.1 q.2) p.1 p.2 q.1).1 = x3 at hx3 ⊢
    show cN α ((chordN P T p.1 p.2 q.1 q.2 * (p.1 + (P - x3)) + (P - p.2)) % P) = _
    rw [cN_mod, cN_add, cN_mul, cN_add, cN_negP P (by omega), cN_negP P (by omega)]
    grind
theorem Fd.tang {p : Nat × Nat} (hp : p.1 < P ∧ p.2 < P) (h : p.2 ≠ 0) :
    ((aN P T p p).1 < P ∧ (aN P T p p).2 < P) ∧ ∃ l : α, l * (2 * cN α p.2) = 3 * (cN α p.1 * cN α p.1) ∧ cN α (aN P T p p).1 = l * l - cN α p.1 - cN α p.1 ∧ cN α (aN P T p p).2 = l * (cN α p.1 - cN α (aN P T p p).1) - cN α p.2 := by
  have := K.ch
  have hlo := K.lo
  have h2 : cN α 2 = 2 := cI_ofNat 0
  have h3 : cN α 3 = 3 := cI_ofNat 1
  rw [aN_dbl (zN_ff h)]
  have hx3 : (thirdN P (tangN P T p.1 p.2) p.1 p.2 p.1).1 < P := Nat.mod_lt _ (by omega)
  refine ⟨⟨hx3, Nat.mod_lt _ (by omega)⟩, cN α (tangN P T p.1 p.2), ?_, ?_, ?_⟩
  · have hd : (2 * p.2) % P ≠ 0 := by
      intro e
      have := K.odd
      have h5 := Nat.div_add_mod (2 * p.2) P
      have h6 : 2 * p.2 / P < 2 := Nat.div_lt_of_lt_mul (by omega)
      generalize 2 * p.2 / P = d at h5 h6
      have h7 : d = 0 ∨ d = 1 := by omega
      rcases h7 with h7 | h7 <;> rw [h7, e] at h5 <;> omega
    have hi := K.inv _ (Nat.mod_lt (2 * p.2) (by omega)) hd
    have hi2 : cN α (iN T ((2 * p.2) % P)) * (2 * cN α p.2) = 1 := by
      have e1 := cN_mod (α := α) P (iN T ((2 * p.2) % P) * ((2 * p.2) % P))
      rw [hi, cN_mul, cN_mod, cN_mul, h2] at e1
      have : cN α 1 = 1 := cI_1
      grind
    have e : cN α (tangN P T p.1 p.2) = 3 * (cN α p.1 * cN α p.1) * cN α (iN T ((2 * p.2) % P)) := by
      show cN α (((3 * (p.1 * p.1)) * iN T ((2 * p.2) % P)) % P) = _
      rw [cN_mod, cN_mul, cN_mul, cN_mul, h3]
    rw [e]; grind
  · show cN α ((tangN P T p.1 p.2 * tangN P T p.1 p.2 + ((P - p.1) + (P - p.1))) % P) = _
    rw [cN_mod, cN_add, cN_add, cN_mul, cN_negP P (by omega)]
    grind
  · rw [show (thirdN P (tangN P T p.1 p.2) p.1 p.2 p.1).2 = yN P (tangN P T p.1 p.2) p.1 p.2 (thirdN P (tangN P T p.1 p.2) p.1 p.2 p.1).1 from rfl]
    generalize (thirdN P (tangN P T p.1 p.2) p.1 p.2 p.1).1 = x3 at hx3 ⊢
    show cN α ((tangN P T p.1 p.2 * (p.1 + (P - x3)) + (P - p.2)) % P) = _
    rw [cN_mod, cN_add, cN_mul, cN_add, cN_negP P (by omega), cN_negP P (by omega)]
    grind
end
end
section
/-- a set of points that holds its sums -/
structure Dom (P T : Nat) (S : Nat × Nat → Prop) : Prop where
  zero : S (0, 0)
  rng : ∀ p, S p → p = (0, 0) ∨ ((p.1 < P ∧ p.2 < P) ∧ p.2 ≠ 0)
  add : ∀ p q, S p → S q → S (aN P T p q)
  ne : ∀ p q, S p → S q → p.2 ≠ 0 → q.2 ≠ 0 → ¬ (p.1 = q.1 ∧ p.2 ≠ q.2) → (aN P T p q).2 ≠ 0
section
open Lean.Grind
variable {α : Type} [CommRing α]
/-- the Jacobian triple stands for the point -/
structure RJ (α : Type) [CommRing α] (P : Nat) (p : Nat × Nat) (r : Int × Int × Int) : Prop where
  rin : In3 P r
  cas : (p = (0, 0) ∧ r.1 = 0 ∧ r.2.1 = 0) ∨ (((p.1 < P ∧ p.2 < P) ∧ p.2 ≠ 0) ∧ cI α r.1 = cN α p.1 * cI α r.2.2 ^ 2 ∧ cI α r.2.1 = cN α p.2 * cI α r.2.2 ^ 3 ∧ cI α r.2.2 ≠ 0)
variable {P T : Nat} (K : Fd α P T)
include K
theorem Fd.eqI {a b : Int} (ha : 0 ≤ a ∧ a < P) (hb : 0 ≤ b ∧ b < P) : cI α a = cI α b ↔ a = b :=
  ⟨fun h => have := K.ch; cI_inj P ha hb h, fun h => h ▸ rfl⟩
theorem Fd.zI {a : Int} (ha : 0 ≤ a ∧ a < P) : cI α a = 0 ↔ a = 0 := by
  have := K.lo
  rw [← K.eqI ha ⟨Int.le_refl 0, by omega⟩, cI_0]
theorem Fd.y0 {p : Nat × Nat} {r : Int × Int × Int} (R : RJ α P p r) : r.2.1 = 0 ↔ p = (0, 0) := by
  rcases R.cas with ⟨hp, _, hy⟩ | ⟨⟨hb, hn⟩, _, hY, hZ⟩
  · simp [hp, hy]
  · refine ⟨fun h => ?_, fun h => absurd (by rw [h]) hn⟩
    rw [h, cI_0] at hY
    exact absurd hY.symm (K.mul (K.ne0 hb.2 hn) (K.pow hZ 3))
theorem Fd.start {p : Nat × Nat} (hp : p = (0, 0) ∨ ((p.1 < P ∧ p.2 < P) ∧ p.2 ≠ 0)) : RJ α P p (p.1, p.2, 1) := by
  have hlo := K.lo
  rcases hp with rfl | ⟨hb, hn⟩
  · exact ⟨⟨⟨by decide, by show (0 : Int) < P; omega⟩, ⟨by decide, by show (0 : Int) < P; omega⟩, by decide, by show (1 : Int) < P; omega⟩, .inl ⟨rfl, rfl, rfl⟩⟩
  · refine ⟨⟨⟨by show (0 : Int) ≤ (p.1 : Int); omega, by show (p.1 : Int) < P; omega⟩, ⟨by show (0 : Int) ≤ (p.2 : Int); omega, by show (p.2 : Int) < P; omega⟩, by show (0 : Int) ≤ 1; decide, by show (1 : Int) < P; omega⟩, .inr ⟨⟨hb, hn⟩, ?_, ?_, ?_⟩⟩
    · show cN α p.1 = cN α p.1 * cI α 1 ^ 2
      rw [cI_1]; grind
    · show cN α p.2 = cN α p.2 * cI α 1 ^ 3
      rw [cI_1]; grind
    · exact K.ne0 (a := 1) (by omega) (by decide)
theorem Fd.jdbl {p : Nat × Nat} {r : Int × Int × Int} (R : RJ α P p r) (hn : p.2 ≠ 0 → (aN P T p p).2 ≠ 0) : RJ α P (aN P T p p) (Mine.jdbl P 0 r.1 r.2.1 r.2.2) := by
  have hlo := K.lo
  have := K.ch
  refine ⟨jdbl_in (by omega), ?_⟩
  rcases R.cas with ⟨hp, hx, hy⟩ | ⟨⟨hb, hn'⟩, hX, hY, hZ⟩
  · left
    rw [Mine.jdbl, if_pos hy, hp]; exact ⟨aN_z1 rfl, rfl, rfl⟩
  · right
    have hy0 : r.2.1 ≠ 0 := fun e => hn' (by rw [(K.y0 R).mp e])
    obtain ⟨hr, l, hl, hx3, hy3⟩ := K.tang hb hn'
    have c2 : cI α 2 = 2 := cI_ofNat 0
    have c3 : cI α 3 = 3 := cI_ofNat 1
    have c4 : cI α 4 = 4 := cI_ofNat 2
    have c8 : cI α 8 = 8 := cI_ofNat 6
    have c0 : cI α 0 = 0 := cI_0
    have hnx : cI α (Mine.jdbl P 0 r.1 r.2.1 r.2.2).1 = (3 * cI α r.1 ^ 2) ^ 2 - 2 * (4 * cI α r.1 * cI α r.2.1 ^ 2) := by
      rw [Mine.jdbl, if_neg hy0]; dsimp only
      simp only [cI_fmod P, cI_add, cI_sub, cI_mul, cI_pow, c2, c3, c4, c0]
      grind
    have hnz : cI α (Mine.jdbl P 0 r.1 r.2.1 r.2.2).2.2 = 2 * cI α r.2.1 * cI α r.2.2 := by
      rw [Mine.jdbl, if_neg hy0]; dsimp only
      simp only [cI_fmod P, cI_mul, c2]
    have hny : cI α (Mine.jdbl P 0 r.1 r.2.1 r.2.2).2.1 = (3 * cI α r.1 ^ 2) * (4 * cI α r.1 * cI α r.2.1 ^ 2 - cI α (Mine.jdbl P 0 r.1 r.2.1 r.2.2).1) - 8 * (cI α r.2.1 ^ 2) ^ 2 := by
      rw [hnx, Mine.jdbl, if_neg hy0]; dsimp only
      simp only [cI_fmod P, cI_add, cI_sub, cI_mul, cI_pow, c2, c3, c4, c8, c0]
      grind
    refine ⟨⟨hr, hn hn'⟩, ?_, ?_, ?_⟩
    · rw [hnx, hnz, hX, hY, hx3]
      exact alg_dx _ _ _ l hl
    · have e : cI α (Mine.jdbl P 0 r.1 r.2.1 r.2.2).1 = cN α (aN P T p p).1 * (2 * (cN α p.2 * cI α r.2.2 ^ 3) * cI α r.2.2) ^ 2 := by
        rw [hnx, hX, hY, hx3]; exact alg_dx _ _ _ l hl
      rw [hny, e, hnz, hX, hY, hy3]
      exact alg_dy _ _ _ _ l hl
    · rw [hnz, hY]
      exact K.mul (K.mul K.two (K.mul (K.ne0 hb.2 hn') (K.pow hZ 3))) hZ
theorem Fd.jadd {p q : Nat × Nat} {r t : Int × Int × Int} (R : RJ α P p r) (R' : RJ α P q t) (hn : p.2 ≠ 0 → q.2 ≠ 0 → ¬ (p.1 = q.1 ∧ p.2 ≠ q.2) → (aN P T p q).2 ≠ 0) :
    RJ α P (aN P T p q) (Mine.jadd P 0 r.1 r.2.1 r.2.2 t.1 t.2.1 t.2.2) := by
  have hlo := K.lo
  have := K.ch
  have hin := jadd_in (P := P) (A := 0) (by omega) R.rin R'.rin
  by_cases hy0 : r.2.1 = 0
  · have hp := (K.y0 R).mp hy0
    rw [Mine.jadd, if_pos hy0, hp, aN_z1 rfl]; exact R'
  by_cases hy0' : t.2.1 = 0
  · have hq := (K.y0 R').mp hy0'
    have hz : zN p = false := Bool.eq_false_iff.mpr fun e => hy0 ((K.y0 R).mpr (zN_iff.mp e))
    rw [Mine.jadd, if_neg hy0, if_pos hy0', hq, aN_z2 hz rfl]; exact R
  rcases R.cas with ⟨_, _, hy⟩ | ⟨⟨hb, hn1⟩, hX, hY, hZ⟩
  · exact absurd hy hy0
  rcases R'.cas with ⟨_, _, hy⟩ | ⟨⟨hb', hn2⟩, hX', hY', hZ'⟩
  · exact absurd hy hy0'
  have c2 : cI α 2 = 2 := cI_ofNat 0
  have hZ2 : cI α r.2.2 ^ 2 * cI α t.2.2 ^ 2 ≠ 0 := K.mul (K.pow hZ 2) (K.pow hZ' 2)
  have hZ3 : cI α r.2.2 ^ 3 * cI α t.2.2 ^ 3 ≠ 0 := K.mul (K.pow hZ 3) (K.pow hZ' 3)
  have hU : (r.1 * t.2.2 ^ 2).fmod P = (t.1 * r.2.2 ^ 2).fmod P ↔ p.1 = q.1 := by
    rw [← K.eqI (fmod_bd (by omega)) (fmod_bd (by omega))]
    simp only [cI_fmod P, cI_mul, cI_pow, hX, hX']
    constructor
    · intro h
      apply K.inj hb.1 hb'.1
      apply Classical.byContradiction; intro hne
      exact K.mul (a := cN α p.1 - cN α q.1) (by grind) hZ2 (by grind)
    · intro h; rw [h]; grind
  have hS : (r.2.1 * t.2.2 ^ 3).fmod P = (t.2.1 * r.2.2 ^ 3).fmod P ↔ p.2 = q.2 := by
    rw [← K.eqI (fmod_bd (by omega)) (fmod_bd (by omega))]
    simp only [cI_fmod P, cI_mul, cI_pow, hY, hY']
    constructor
    · intro h
      apply K.inj hb.2 hb'.2
      apply Classical.byContradiction; intro hne
      exact K.mul (a := cN α p.2 - cN α q.2) (by grind) hZ3 (by grind)
    · intro h; rw [h]; grind
  by_cases hx : p.1 = q.1
  · by_cases hy : p.2 = q.2
    · have e : q = p := by obtain ⟨a, b⟩ := p; obtain ⟨c, d⟩ := q; simp only at hx hy; rw [hx, hy]
      have hj : Mine.jadd P 0 r.1 r.2.1 r.2.2 t.1 t.2.1 t.2.2 = Mine.jdbl P 0 r.1 r.2.1 r.2.2 := by
        rw [Mine.jadd, if_neg hy0, if_neg hy0']; dsimp only
        rw [if_pos (hU.mpr hx), if_pos (hS.mpr hy)]
      rw [hj, e]
      exact K.jdbl R fun h => by have := hn h hn2 (fun h => h.2 hy); rwa [e] at this
    · have hj : Mine.jadd P 0 r.1 r.2.1 r.2.2 t.1 t.2.1 t.2.2 = (0, 0, 1) := by
        rw [Mine.jadd, if_neg hy0, if_neg hy0']; dsimp only
        rw [if_pos (hU.mpr hx), if_neg (fun e => hy (hS.mp e))]
      rw [hj] at hin ⊢
      exact ⟨hin, .inl ⟨aN_opp (zN_ff hn1) (zN_ff hn2) hx hy, rfl, rfl⟩⟩
  · obtain ⟨hr, l, hl, hx3, hy3⟩ := K.chord hb hb' (zN_ff hn1) (zN_ff hn2) hx
    have hne := fun e => hx (hU.mp e)
    have hnx : cI α (Mine.jadd P 0 r.1 r.2.1 r.2.2 t.1 t.2.1 t.2.2).1 =
        let U1 := cI α r.1 * cI α t.2.2 ^ 2
        let U2 := cI α t.1 * cI α r.2.2 ^ 2
        let S1 := cI α r.2.1 * cI α t.2.2 ^ 3
        let S2 := cI α t.2.1 * cI α r.2.2 ^ 3
        (S2 - S1) ^ 2 - (U2 - U1) * ((U2 - U1) * (U2 - U1)) - 2 * (U1 * ((U2 - U1) * (U2 - U1))) := by
      rw [Mine.jadd, if_neg hy0, if_neg hy0']; dsimp only
      rw [if_neg hne]; dsimp only
      simp only [cI_fmod P, cI_sub, cI_mul, cI_pow, c2]
    have hnz : cI α (Mine.jadd P 0 r.1 r.2.1 r.2.2 t.1 t.2.1 t.2.2).2.2 = (cI α t.1 * cI α r.2.2 ^ 2 - cI α r.1 * cI α t.2.2 ^ 2) * cI α r.2.2 * cI α t.2.2 := by
      rw [Mine.jadd, if_neg hy0, if_neg hy0']; dsimp only
      rw [if_neg hne]; dsimp only
      simp only [cI_fmod P, cI_add, cI_sub, cI_mul, cI_pow]
    have hny : cI α (Mine.jadd P 0 r.1 r.2.1 r.2.2 t.1 t.2.1 t.2.2).2.1 =
        let U1 := cI α r.1 * cI α t.2.2 ^ 2
        let U2 := cI α t.1 * cI α r.2.2 ^ 2
        let S1 := cI α r.2.1 * cI α t.2.2 ^ 3
        let S2 := cI α t.2.1 * cI α r.2.2 ^ 3
        (S2 - S1) * (U1 * ((U2 - U1) * (U2 - U1)) - cI α (Mine.jadd P 0 r.1 r.2.1 r.2.2 t.1 t.2.1 t.2.2).1) - S1 * ((U2 - U1) * ((U2 - U1) * (U2 - U1))) := by
      rw [hnx, Mine.jadd, if_neg hy0, if_neg hy0']; dsimp only
      rw [if_neg hne]; dsimp only
      simp only [cI_fmod P, cI_add, cI_sub, cI_mul, cI_pow, c2]
    have hnx' := hnx
    rw [hX, hX', hY, hY'] at hnx'
    have hnx2 := hnx'.trans (alg_jx (cN α p.1) (cN α p.2) (cN α q.1) (cN α q.2) (cI α r.2.2) (cI α t.2.2) l hl)
    refine ⟨hin, .inr ⟨⟨hr, hn hn1 hn2 (fun h => hx h.1)⟩, ?_, ?_, ?_⟩⟩
    · rw [hx3, hnx2, hnz, hX, hX']
    · rw [hny, hnx2, ← hx3, hnz, hX, hX', hY, hY', hy3]
      exact alg_jy (cN α p.1) (cN α p.2) (cN α q.1) (cN α q.2) _ (cI α r.2.2) (cI α t.2.2) l hl
    · rw [hnz, hX, hX']
      refine K.mul (K.mul (fun h => ?_) hZ) hZ'
      exact K.mul (a := cN α p.1 - cN α q.1) (fun h => hx (K.inj hb.1 hb'.1 (by grind))) hZ2 (by grind)
theorem Fd.fromj {p : Nat × Nat} {r : Int × Int × Int} (R : RJ α P p r) : Mine.fromj P r.1 r.2.1 r.2.2 = ((p.1 : Int), (p.2 : Int)) := by
  have hlo := K.lo
  have := K.ch
  rcases R.cas with ⟨rfl, hx, hy⟩ | ⟨⟨hb, hn⟩, hX, hY, hZ⟩
  · rw [Mine.fromj, hx, hy, Int.zero_mul, Int.zero_mul, Int.zero_fmod]; rfl
  · have hi := K.invI R.rin.2.2 hZ
    refine Prod.ext ?_ ?_
    · refine (K.eqI (fmod_bd (by omega)) (by show 0 ≤ (p.1 : Int) ∧ (p.1 : Int) < P; omega)).mp ?_
      rw [cI_fmod P, cI_mul, cI_pow, hX]; grind
    · refine (K.eqI (fmod_bd (by omega)) (by show 0 ≤ (p.2 : Int) ∧ (p.2 : Int) < P; omega)).mp ?_
      rw [cI_fmod P, cI_mul, cI_pow, hY]; grind
end
end
section
section
open Lean.Grind
variable {α : Type} [CommRing α]
/-- projective: what is asked of doubling -/
theorem alg_ox (x1 y1 Z l : α) (h : l * (2 * y1) = 3 * (x1 * x1)) :
    let x := x1 * Z
    let y := y1 * Z
    let W := x * 3 * x
    let S := y * Z
    let B := x * y * S
    let H := W * W - B * 8
    H * 2 * S = (l * l - x1 - x1) * (S * 8 * (S * S)) := by
  grind
theorem alg_oy (x1 y1 Z l : α) (h : l * (2 * y1) = 3 * (x1 * x1)) :
    let x := x1 * Z
    let y := y1 * Z
    let W := x * 3 * x
    let S := y * Z
    let B := x * y * S
    let H := W * W - B * 8
    W * (B * 4 - H) - y * 8 * y * (S * S) = (l * (x1 - (l * l - x1 - x1)) - y1) * (S * 8 * (S * S)) := by
  grind
theorem alg_ax (x1 y1 x2 y2 Z1 Z2 l : α) (h : l * (x2 - x1) = y2 - y1) :
    let U1 := y2 * Z2 * Z1
    let U2 := y1 * Z1 * Z2
    let V1 := x2 * Z2 * Z1
    let V2 := x1 * Z1 * Z2
    let U := U1 - U2
    let V := V1 - V2
    let A := U * U * (Z1 * Z2) - V * (V * V) - V * V * V2 * 2
    V * A = (l * l - x1 - x2) * (V * (V * V) * (Z1 * Z2)) := by
  have e : y2 = y1 + l * (x2 - x1) := by grind
  subst e
  grind
theorem alg_ay (x1 y1 x2 y2 Z1 Z2 l : α) (h : l * (x2 - x1) = y2 - y1) :
    let U1 := y2 * Z2 * Z1
    let U2 := y1 * Z1 * Z2
    let V1 := x2 * Z2 * Z1
    let V2 := x1 * Z1 * Z2
    let U := U1 - U2
    let V := V1 - V2
    let A := U * U * (Z1 * Z2) - V * (V * V) - V * V * V2 * 2
    U * (V * V * V2 - A) - V * (V * V) * U2 = (l * (x1 - (l * l - x1 - x2)) - y1) * (V * (V * V) * (Z1 * Z2)) := by
  have e : y2 = y1 + l * (x2 - x1) := by grind
  subst e
  grind
/-- the projective triple stands for the point -/
structure RO (α : Type) [CommRing α] (P : Nat) (p : Nat × Nat) (r : Int × Int × Int) : Prop where
  rin : In3 P r
  cas : (p = (0, 0) ∧ r.2.2 = 0) ∨ (((p.1 < P ∧ p.2 < P) ∧ p.2 ≠ 0) ∧ cI α r.1 = cN α p.1 * cI α r.2.2 ∧ cI α r.2.1 = cN α p.2 * cI α r.2.2 ∧ cI α r.2.2 ≠ 0)
variable {P T : Nat} (K : Fd α P T)
include K
theorem Fd.z0 {p : Nat × Nat} {r : Int × Int × Int} (R : RO α P p r) : r.2.2 = 0 ↔ p = (0, 0) := by
  rcases R.cas with ⟨hp, hy⟩ | ⟨⟨hb, hn⟩, _, hY, hZ⟩
  · simp [hp, hy]
  · refine ⟨fun h => ?_, fun h => absurd (by rw [h]) hn⟩
    rw [h, cI_0] at hZ
    exact absurd rfl hZ
theorem Fd.odbl {p : Nat × Nat} {r : Int × Int × Int} (R : RO α P p r) (hn : p.2 ≠ 0 → (aN P T p p).2 ≠ 0) : RO α P (aN P T p p) (Mine.odbl P r.1 r.2.1 r.2.2) := by
  have hlo := K.lo
  have := K.ch
  have hin := odbl_in (p := (P : Int)) (x := r.1) (y := r.2.1) (z := r.2.2) (by omega)
  have c2 : cI α 2 = 2 := cI_ofNat 0
  have c3 : cI α 3 = 3 := cI_ofNat 1
  have c4 : cI α 4 = 4 := cI_ofNat 2
  have c8 : cI α 8 = 8 := cI_ofNat 6
  have hnz : cI α (Mine.odbl P r.1 r.2.1 r.2.2).2.2 = cI α r.2.1 * cI α r.2.2 * 8 * (cI α r.2.1 * cI α r.2.2 * (cI α r.2.1 * cI α r.2.2)) := by
    rw [Mine.odbl]; dsimp only
    simp only [cI_fmod P, cI_mul, c8]
  refine ⟨hin, ?_⟩
  rcases R.cas with ⟨hp, hz⟩ | ⟨⟨hb, hn'⟩, hX, hY, hZ⟩
  · left
    refine ⟨by rw [hp]; exact aN_z1 rfl, ?_⟩
    rw [hz, cI_0] at hnz
    refine (K.zI hin.2.2).mp ?_
    rw [hz, hnz]; grind
  · right
    obtain ⟨hr, l, hl, hx3, hy3⟩ := K.tang hb hn'
    have hnx : cI α (Mine.odbl P r.1 r.2.1 r.2.2).1 =
        let x := cI α r.1
        let y := cI α r.2.1
        let W := x * 3 * x
        let S := y * cI α r.2.2
        let B := x * y * S
        let H := W * W - B * 8
        H * 2 * S := by
      rw [Mine.odbl]; dsimp only
      simp only [cI_fmod P, cI_sub, cI_mul, c2, c3, c8]
    have hny : cI α (Mine.odbl P r.1 r.2.1 r.2.2).2.1 =
        let x := cI α r.1
        let y := cI α r.2.1
        let W := x * 3 * x
        let S := y * cI α r.2.2
        let B := x * y * S
        let H := W * W - B * 8
        W * (B * 4 - H) - y * 8 * y * (S * S) := by
      rw [Mine.odbl]; dsimp only
      simp only [cI_fmod P, cI_sub, cI_mul, c3, c4, c8]
    refine ⟨⟨hr, hn hn'⟩, ?_, ?_, ?_⟩
    · rw [hnx, hnz, hX, hY, hx3]
      exact alg_ox _ _ _ l hl
    · rw [hny, hnz, hX, hY, hy3, hx3]
      exact alg_oy _ _ _ l hl
    · rw [hnz, hY]
      have hS := K.mul (K.mul (K.ne0 hb.2 hn') hZ) hZ
      have h8 : (8 : α) ≠ 0 := by
        have := K.mul K.two (K.mul K.two K.two)
        intro h; apply this; rw [← h]; grind
      exact K.mul (K.mul hS h8) (K.mul hS hS)
theorem Fd.oadd {p q : Nat × Nat} {r t : Int × Int × Int} (R : RO α P p r) (R' : RO α P q t) (hn : p.2 ≠ 0 → q.2 ≠ 0 → ¬ (p.1 = q.1 ∧ p.2 ≠ q.2) → (aN P T p q).2 ≠ 0) :
    RO α P (aN P T p q) (Mine.oadd P r.1 r.2.1 r.2.2 t.1 t.2.1 t.2.2) := by
  have hlo := K.lo
  have := K.ch
  have hin := oadd_in (p := P) (by omega) R.rin R'.rin
  have f0 : (0 : Int).fmod P = 0 := Int.zero_fmod _
  by_cases hz' : t.2.2 = 0
  · have hq := (K.z0 R').mp hz'
    rw [Mine.oadd, if_pos (by rw [f0]; exact hz')]
    cases hp : zN p
    · rw [hq, aN_z2 hp rfl]; exact R
    · have hp := zN_iff.mp hp
      rw [hp, hq, aN_z1 rfl]; rw [hp] at R; exact R
  by_cases hz : r.2.2 = 0
  · have hp := (K.z0 R).mp hz
    rw [Mine.oadd, if_neg (by rw [f0]; exact hz'), if_pos (by rw [f0]; exact hz), hp, aN_z1 rfl]; exact R'
  rcases R.cas with ⟨_, hy⟩ | ⟨⟨hb, hn1⟩, hX, hY, hZ⟩
  · exact absurd hy hz
  rcases R'.cas with ⟨_, hy⟩ | ⟨⟨hb', hn2⟩, hX', hY', hZ'⟩
  · exact absurd hy hz'
  have c2 : cI α 2 = 2 := cI_ofNat 0
  have hZZ : cI α r.2.2 * cI α t.2.2 ≠ 0 := K.mul hZ hZ'
  have hV : (t.1 * r.2.2).fmod P = (r.1 * t.2.2).fmod P ↔ p.1 = q.1 := by
    rw [← K.eqI (fmod_bd (by omega)) (fmod_bd (by omega))]
    simp only [cI_fmod P, cI_mul, hX, hX']
    constructor
    · intro h
      apply K.inj hb.1 hb'.1
      apply Classical.byContradiction; intro hne
      exact K.mul (a := cN α p.1 - cN α q.1) (by grind) hZZ (by grind)
    · intro h; rw [h]; grind
  have hU : (t.2.1 * r.2.2).fmod P = (r.2.1 * t.2.2).fmod P ↔ p.2 = q.2 := by
    rw [← K.eqI (fmod_bd (by omega)) (fmod_bd (by omega))]
    simp only [cI_fmod P, cI_mul, hY, hY']
    constructor
    · intro h
      apply K.inj hb.2 hb'.2
      apply Classical.byContradiction; intro hne
      exact K.mul (a := cN α p.2 - cN α q.2) (by grind) hZZ (by grind)
    · intro h; rw [h]; grind
  by_cases hx : p.1 = q.1
  · by_cases hy : p.2 = q.2
    · have e : q = p := by obtain ⟨a, b⟩ := p; obtain ⟨c, d⟩ := q; simp only at hx hy; rw [hx, hy]
      have hj : Mine.oadd P r.1 r.2.1 r.2.2 t.1 t.2.1 t.2.2 = Mine.odbl P r.1 r.2.1 r.2.2 := by
        rw [Mine.oadd, if_neg (by rw [f0]; exact hz'), if_neg (by rw [f0]; exact hz)]; dsimp only
        rw [if_pos (hV.mpr hx), if_pos (hU.mpr hy)]
      rw [hj, e]
      exact K.odbl R fun h => by have := hn h hn2 (fun h => h.2 hy); rwa [e] at this
    · have hj : Mine.oadd P r.1 r.2.1 r.2.2 t.1 t.2.1 t.2.2 = ((1 : Int).fmod P, (1 : Int).fmod P, (0 : Int).fmod P) := by
        rw [Mine.oadd, if_neg (by rw [f0]; exact hz'), if_neg (by rw [f0]; exact hz)]; dsimp only
        rw [if_pos (hV.mpr hx), if_neg (fun e => hy (hU.mp e))]
      rw [hj] at hin ⊢
      exact ⟨hin, .inl ⟨aN_opp (zN_ff hn1) (zN_ff hn2) hx hy, f0⟩⟩
  · obtain ⟨hr, l, hl, hx3, hy3⟩ := K.chord hb hb' (zN_ff hn1) (zN_ff hn2) hx
    have hne := fun e => hx (hV.mp e)
    have hnx : cI α (Mine.oadd P r.1 r.2.1 r.2.2 t.1 t.2.1 t.2.2).1 =
        let U1 := cI α t.2.1 * cI α r.2.2
        let U2 := cI α r.2.1 * cI α t.2.2
        let V1 := cI α t.1 * cI α r.2.2
        let V2 := cI α r.1 * cI α t.2.2
        let U := U1 - U2
        let V := V1 - V2
        let A := U * U * (cI α r.2.2 * cI α t.2.2) - V * (V * V) - V * V * V2 * 2
        V * A := by
      rw [Mine.oadd, if_neg (by rw [f0]; exact hz'), if_neg (by rw [f0]; exact hz)]; dsimp only
      rw [if_neg hne]; dsimp only
      simp only [cI_fmod P, cI_sub, cI_mul, c2]
    have hny : cI α (Mine.oadd P r.1 r.2.1 r.2.2 t.1 t.2.1 t.2.2).2.1 =
        let U1 := cI α t.2.1 * cI α r.2.2
        let U2 := cI α r.2.1 * cI α t.2.2
        let V1 := cI α t.1 * cI α r.2.2
        let V2 := cI α r.1 * cI α t.2.2
        let U := U1 - U2
        let V := V1 - V2
        let A := U * U * (cI α r.2.2 * cI α t.2.2) - V * (V * V) - V * V * V2 * 2
        U * (V * V * V2 - A) - V * (V * V) * U2 := by
      rw [Mine.oadd, if_neg (by rw [f0]; exact hz'), if_neg (by rw [f0]; exact hz)]; dsimp only
      rw [if_neg hne]; dsimp only
      simp only [cI_fmod P, cI_sub, cI_mul, c2]
    have hnz : cI α (Mine.oadd P r.1 r.2.1 r.2.2 t.1 t.2.1 t.2.2).2.2 =
        let V := cI α t.1 * cI α r.2.2 - cI α r.1 * cI α t.2.2
        V * (V * V) * (cI α r.2.2 * cI α t.2.2) := by
      rw [Mine.oadd, if_neg (by rw [f0]; exact hz'), if_neg (by rw [f0]; exact hz)]; dsimp only
      rw [if_neg hne]; dsimp only
      simp only [cI_fmod P, cI_sub, cI_mul]
    refine ⟨hin, .inr ⟨⟨hr, hn hn1 hn2 (fun h => hx h.1)⟩, ?_, ?_, ?_⟩⟩
    · rw [hnx, hnz, hX, hX', hY, hY', hx3]
      exact alg_ax _ _ _ _ _ _ l hl
    · rw [hny, hnz, hX, hX', hY, hY', hy3, hx3]
      exact alg_ay _ _ _ _ _ _ l hl
    · rw [hnz, hX, hX']; dsimp only
      have hV0 : cN α q.1 * cI α t.2.2 * cI α r.2.2 - cN α p.1 * cI α r.2.2 * cI α t.2.2 ≠ 0 := fun h =>
        K.mul (a := cN α p.1 - cN α q.1) (fun h => hx (K.inj hb.1 hb'.1 (by grind))) hZZ (by grind)
      exact K.mul (K.mul hV0 (K.mul hV0 hV0)) hZZ
theorem Fd.oback {p : Nat × Nat} {r : Int × Int × Int} (R : RO α P p r) : Mine.oback P r.1 r.2.1 r.2.2 = ((p.1 : Int), (p.2 : Int)) := by
  have hlo := K.lo
  have := K.ch
  have f0 : (0 : Int).fmod P = 0 := Int.zero_fmod _
  rcases R.cas with ⟨rfl, hx⟩ | ⟨⟨hb, hn⟩, hX, hY, hZ⟩
  · rw [Mine.oback, f0, if_pos hx]; rfl
  · have hz : r.2.2 ≠ 0 := fun e => hn (by rw [(K.z0 R).mp e])
    have hi := K.invI (a := r.2.2.fmod P) (fmod_bd (by omega)) (by rw [cI_fmod P]; exact hZ)
    rw [cI_fmod P] at hi
    rw [Mine.oback, f0, if_neg hz, onorm]
    refine Prod.ext ?_ ?_
    · refine (K.eqI (fmod_bd (by omega)) (by show 0 ≤ (p.1 : Int) ∧ (p.1 : Int) < P; omega)).mp ?_
      rw [cI_fmod P, cI_mul, hX]; grind
    · refine (K.eqI (fmod_bd (by omega)) (by show 0 ≤ (p.2 : Int) ∧ (p.2 : Int) < P; omega)).mp ?_
      rw [cI_fmod P, cI_mul, hY]; grind
end
end
section
def optN (p : Nat × Nat) : Option (Int × Int) := if p = (0, 0) then none else some ((p.1 : Int), (p.2 : Int))
theorem optN_some {p : Nat × Nat} (h : p.2 ≠ 0) : optN p = some ((p.1 : Int), (p.2 : Int)) := by
  unfold optN; rw [if_neg]; intro e; rw [e] at h; exact h rfl
section
open Lean.Grind
variable {α : Type} [CommRing α] {P T : Nat} (K : Fd α P T)
include K
theorem Fd.invE {a : Int} (h : cI α a ≠ 0) : cI α (Mine.invF ((a.fmod P).fmod P) P) * cI α a = 1 := by
  have hlo := K.lo
  have := K.ch
  have := K.invI (a := (a.fmod P).fmod P) (fmod_bd (by omega)) (by rw [cI_fmod P, cI_fmod P]; exact h)
  rwa [cI_fmod P, cI_fmod P] at this
theorem Fd.fieldEq {a b c : α} (h : c ≠ 0) (e : a * c = b * c) : a = b := by
  obtain ⟨i, hi⟩ := K.ex h
  grind
theorem Fd.slope {l : α} {a b c d : Int} (hd : 0 ≤ a ∧ a < P) (hc : 0 ≤ c ∧ c < P) (h : c ≠ a) (hl : l * (cI α c - cI α a) = cI α d - cI α b) : cI α (bm P a b c d) = l := by
  have hlo := K.lo
  have := K.ch
  have hne : cI α (c - a) ≠ 0 := by
    rw [cI_sub]; intro e
    exact h ((K.eqI hc hd).mp (by grind))
  have hi := K.invE hne
  unfold bm
  rw [cI_fmod P, cI_mul, cI_fmod P, cI_sub]
  rw [cI_sub] at hi hne
  apply K.fieldEq hne
  grind
theorem Fd.bok {a b c d : Int} (ha : 0 ≤ a ∧ a < P) (hc : 0 ≤ c ∧ c < P) : BOk P a b c d := by
  have hlo := K.lo
  have := K.ch
  intro hx
  have hne : cI α (c - a) ≠ 0 := by
    rw [cI_sub]; intro e
    exact hx ((K.eqI hc ha).mp (by grind))
  have hi := K.invE hne
  have hl : cI α (bm P a b c d) * (cI α c - cI α a) = cI α d - cI α b := by
    unfold bm
    rw [cI_fmod P, cI_mul, cI_fmod P, cI_sub]
    rw [cI_sub] at hi
    grind
  unfold bny
  refine (K.eqI (fmod_bd (by omega)) (fmod_bd (by omega))).mp ?_
  simp only [cI_fmod P, cI_add, cI_sub, cI_mul, cI_neg]
  grind
theorem Fd.badd {p q : Nat × Nat} (hp : (p.1 < P ∧ p.2 < P) ∧ p.2 ≠ 0) (hq : (q.1 < P ∧ q.2 < P) ∧ q.2 ≠ 0) (hn : ¬ (p.1 = q.1 ∧ p.2 ≠ q.2) → (aN P T p q).2 ≠ 0) :
    Mine.badd P p.1 p.2 q.1 q.2 = optN (aN P T p q) := by
  have hlo := K.lo
  have := K.ch
  have c2 : cI α 2 = 2 := cI_ofNat 0
  have c3 : cI α 3 = 3 := cI_ofNat 1
  unfold Mine.badd
  by_cases hx : p.1 = q.1
  · rw [if_pos (by rw [hx])]
    by_cases hy : p.2 = q.2
    · rw [if_pos (by rw [hy])]
      have e : q = p := by obtain ⟨a, b⟩ := p; obtain ⟨c, d⟩ := q; simp only at hx hy; rw [hx, hy]
      rw [optN_some (hn fun h => h.2 hy), e]
      obtain ⟨hr, l, hl, hx3, hy3⟩ := K.tang hp.1 hp.2
      have h2 : cI α (p.2 * 2) ≠ 0 := by
        rw [cI_mul, c2]; exact K.mul (K.ne0 hp.1.2 hp.2) K.two
      have hi := K.invE h2
      have hm : cI α (bdm P p.1 p.2) = l := by
        unfold bdm
        rw [cI_mul, c2] at h2 hi
        apply K.fieldEq h2
        simp only [cI_fmod P, cI_mul, c3]
        grind
      have hbd : cI α (bdx P p.1 p.2) = l * l - cN α p.1 * 2 := by
        unfold bdx
        simp only [cI_fmod P, cI_sub, cI_mul, hm, c2]
      refine congrArg some (Prod.ext ?_ ?_)
      · refine (K.eqI (fmod_bd (by omega)) (by show 0 ≤ ((aN P T p p).1 : Int) ∧ ((aN P T p p).1 : Int) < P; omega)).mp ?_
        show cI α (bdx P p.1 p.2) = _
        rw [hbd]
        grind
      · refine (K.eqI (fmod_bd (by omega)) (by show 0 ≤ ((aN P T p p).2 : Int) ∧ ((aN P T p p).2 : Int) < P; omega)).mp ?_
        show cI α (bny _ _ _ _ _) = _
        unfold bny
        simp only [cI_fmod P, cI_add, cI_sub, cI_mul, cI_neg, hm, hbd]
        grind
    · rw [if_neg (by omega), aN_opp (zN_ff hp.2) (zN_ff hq.2) hx hy]; rfl
  · rw [if_neg (by omega), optN_some (hn fun h => hx h.1)]
    obtain ⟨hr, l, hl, hx3, hy3⟩ := K.chord hp.1 hq.1 (zN_ff hp.2) (zN_ff hq.2) hx
    have hm := K.slope (l := l) (a := p.1) (b := p.2) (c := q.1) (d := q.2) (by omega) (by omega) (by omega) hl
    have hbx : cI α (bx P p.1 p.2 q.1 q.2) = l * l - cN α p.1 - cN α q.1 := by
      unfold bx
      simp only [cI_fmod P, cI_sub, cI_mul, hm]
    refine congrArg some (Prod.ext ?_ ?_)
    · refine (K.eqI (fmod_bd (by omega)) (by show 0 ≤ ((aN P T p q).1 : Int) ∧ ((aN P T p q).1 : Int) < P; omega)).mp ?_
      exact hbx.trans hx3.symm
    · refine (K.eqI (fmod_bd (by omega)) (by show 0 ≤ ((aN P T p q).2 : Int) ∧ ((aN P T p q).2 : Int) < P; omega)).mp ?_
      show cI α (bny _ _ _ _ _) = _
      unfold bny
      simp only [cI_fmod P, cI_add, cI_sub, cI_mul, cI_neg, hm, hbx]
      grind
end
end
section
section
open Lean.Grind
theorem fin_sur (P : Nat) [NeZero P] (a : Fin P) : ∃ n : Nat, n < P ∧ cN (Fin P) n = a := by
  refine ⟨a.val, a.isLt, ?_⟩
  have e : cN (Fin P) a.val = @Nat.cast (_root_.Fin P) Semiring.natCast a.val := Ring.intCast_natCast a.val
  rw [e]
  exact Fin.ext (Nat.mod_eq_of_lt a.isLt)
def invT (P T : Nat) : Bool := (List.range P).all fun n => or (Nat.beq n 0) (and (Nat.beq (Nat.mod (Nat.mul (iN T n) n) P) 1) (decide ((invF n P * n).fmod P = 1)))
theorem fd_of {P T : Nat} [NeZero P] (lo : 2 < P) (hi : P ≤ 100) (odd : P % 2 = 1) (h : invT P T = true) : Fd (Fin P) P T := by
  have key : ∀ n : Nat, n < P → n ≠ 0 → (iN T n * n) % P = 1 ∧ (invF n P * n).fmod P = 1 := by
    intro n hn h0
    have := List.all_eq_true.mp h n (List.mem_range.mpr hn)
    rw [Bool.or_eq_true, Bool.and_eq_true] at this
    rcases this with h1 | ⟨h1, h2⟩
    · exact absurd (Nat.beq_eq.mp h1) h0
    · exact ⟨Nat.beq_eq.mp h1, of_decide_eq_true h2⟩
  exact ⟨inferInstance, lo, hi, odd, fin_sur P, fun n hn h0 => (key n hn h0).1, fun n hn h0 => (key n hn h0).2⟩
end
def ptsT : List (Nat × Nat × Nat × Nat × List (Nat × Nat)) := [
  (13, 21, 4, 233025202128781279823511680, [(0, 2), (0, 11), (2, 5), (2, 8), (4, 4), (4, 9), (5, 5), (5, 8), (6, 5), (6, 8), (7, 3), (7, 10), (8, 3), (8, 10), (10, 4), (10, 9), (11, 3), (11, 10), (12, 4), (12, 9)]),
  (19, 27, 5, 1537283903575148512151222811459001155712, [(0, 9), (0, 10), (1, 5), (1, 14), (5, 4), (5, 15), (7, 5), (7, 14), (8, 2), (8, 17), (10, 6), (10, 13), (11, 5), (11, 14), (12, 2), (12, 17), (13, 6), (13, 13), (15, 6), (15, 13), (16, 4), (16, 15), (17, 4), (17, 15), (18, 2), (18, 17)]),
  (31, 39, 9, 49558991704920067259313054592924440367559653113263448318659526784, [(0, 3), (0, 28), (1, 14), (1, 17), (3, 6), (3, 25), (5, 14), (5, 17), (6, 15), (6, 16), (8, 5), (8, 26), (9, 5), (9, 26), (11, 10), (11, 21), (12, 1), (12, 30), (13, 6), (13, 25), (14, 5), (14, 26), (15, 6), (15, 25), (21, 1), (21, 30), (24, 10), (24, 21), (25, 14), (25, 17), (26, 15), (26, 16), (27, 10), (27, 21), (29, 1), (29, 30), (30, 15), (30, 16)]),
  (37, 49, 2, 261555236886744110647468115572978813495732239738633551194889417965829383045248, [(1, 15), (1, 22), (2, 11), (2, 26), (5, 4), (5, 33), (6, 12), (6, 25), (7, 7), (7, 30), (8, 12), (8, 25), (9, 18), (9, 19), (10, 15), (10, 22), (11, 1), (11, 36), (12, 18), (12, 19), (13, 4), (13, 33), (15, 11), (15, 26), (16, 18), (16, 19), (18, 5), (18, 32), (19, 4), (19, 33), (20, 11), (20, 26), (23, 12), (23, 25), (24, 5), (24, 32), (26, 15), (26, 22), (27, 1), (27, 36), (32, 5), (32, 32), (33, 7), (33, 30), (34, 7), (34, 30), (36, 1), (36, 36)]),
  (43, 31, 7, 1342054438505760852092317306715690751715437566897414580136013218851198967137995204185129088, [(2, 12), (2, 31), (7, 7), (7, 36), (12, 12), (12, 31), (13, 21), (13, 22), (20, 3), (20, 40), (21, 18), (21, 25), (25, 18), (25, 25), (29, 12), (29, 31), (32, 3), (32, 40), (34, 3), (34, 40), (35, 21), (35, 22), (37, 7), (37, 36), (38, 21), (38, 22), (40, 18), (40, 25), (42, 7), (42, 36)]),
  (61, 63, 5, 163099053388495365241829826310094285467850603851408032599268587857057311158053582135941454397214297616067592004561611271482884224, [(0, 26), (0, 35), (2, 14), (2, 47), (12, 5), (12, 56), (14, 2), (14, 59), (15, 5), (15, 56), (16, 21), (16, 40), (18, 15), (18, 46), (20, 21), (20, 40), (22, 10), (22, 51), (25, 21), (25, 40), (26, 14), (26, 47), (27, 30), (27, 31), (28, 27), (28, 34), (32, 4), (32, 57), (33, 14), (33, 47), (34, 5), (34, 56), (35, 27), (35, 34), (36, 22), (36, 39), (40, 4), (40, 57), (41, 22), (41, 39), (42, 10), (42, 51), (45, 22), (45, 39), (46, 30), (46, 31), (48, 2), (48, 59), (49, 30), (49, 31), (50, 4), (50, 57), (51, 15), (51, 46), (53, 15), (53, 46), (58, 10), (58, 51), (59, 27), (59, 34), (60, 2), (60, 59)]),
  (67, 73, 2, 789049136407817570833723558767446180480822097386941683593449104277503504860405488336566832991564383054151180966993176254160025196655362474112, [(2, 12), (2, 55), (3, 30), (3, 37), (5, 23), (5, 44), (6, 33), (6, 34), (7, 12), (7, 55), (10, 8), (10, 59), (11, 23), (11, 44), (12, 16), (12, 51), (13, 16), (13, 51), (17, 15), (17, 52), (20, 30), (20, 37), (21, 33), (21, 34), (22, 8), (22, 59), (24, 15), (24, 52), (25, 4), (25, 63), (26, 15), (26, 52), (27, 11), (27, 56), (30, 1), (30, 66), (35, 8), (35, 59), (36, 19), (36, 48), (38, 1), (38, 66), (39, 19), (39, 48), (40, 33), (40, 34), (41, 28), (41, 39), (42, 16), (42, 51), (43, 28), (43, 39), (44, 30), (44, 37), (46, 11), (46, 56), (50, 28), (50, 39), (51, 23), (51, 44), (54, 4), (54, 63), (55, 4), (55, 63), (58, 12), (58, 55), (59, 19), (59, 48), (61, 11), (61, 56), (66, 1), (66, 66)]),
  (79, 67, 7, 18037417256347198248935623110950212144901094825992223175590180074961760492015580594121736260571800609543357495934720110535659439830535524974929158651723961019988050048, [(1, 18), (1, 61), (6, 12), (6, 67), (8, 19), (8, 60), (9, 5), (9, 74), (12, 32), (12, 47), (14, 12), (14, 67), (15, 8), (15, 71), (17, 38), (17, 41), (18, 25), (18, 54), (19, 25), (19, 54), (21, 5), (21, 74), (23, 18), (23, 61), (26, 19), (26, 60), (27, 16), (27, 63), (28, 32), (28, 47), (29, 8), (29, 71), (35, 8), (35, 71), (37, 10), (37, 69), (39, 32), (39, 47), (41, 35), (41, 44), (42, 25), (42, 54), (43, 35), (43, 44), (45, 19), (45, 60), (49, 5), (49, 74), (55, 18), (55, 61), (59, 12), (59, 67), (60, 10), (60, 69), (61, 10), (61, 69), (63, 16), (63, 63), (66, 38), (66, 41), (68, 16), (68, 63), (74, 35), (74, 44), (75, 38), (75, 41)])]
def curveOk (c : Nat × Nat × Nat × Nat × List (Nat × Nat)) : Bool := decide (2 < c.1) && decide (c.1 ≤ 100) && decide (c.1 % 2 = 1) && invT c.1 c.2.2.2.1
theorem curves_ok : ptsT.all curveOk = true := by decide +kernel
theorem curve_of {P O B : Int} (h : (P, O, B) ∈ curvesL) : ∃ c ∈ ptsT, P = (c.1 : Int) ∧ O = (c.2.1 : Int) ∧ B = (c.2.2.1 : Int) := by
  have key : curvesL.all (fun d => ptsT.any fun c => decide (d.1 = (c.1 : Int) ∧ d.2.1 = (c.2.1 : Int) ∧ d.2.2 = (c.2.2.1 : Int))) = true := by decide +kernel
  obtain ⟨c, hc, he⟩ := List.any_eq_true.mp (List.all_eq_true.mp key _ h)
  exact ⟨c, hc, of_decide_eq_true he⟩
theorem fd_curve {c : Nat × Nat × Nat × Nat × List (Nat × Nat)} (h : c ∈ ptsT) : ∃ _ : NeZero c.1, Fd (Fin c.1) c.1 c.2.2.2.1 := by
  have k := List.all_eq_true.mp curves_ok _ h
  unfold curveOk at k
  simp only [Bool.and_eq_true, decide_eq_true_eq] at k
  have hz : NeZero c.1 := ⟨by omega⟩
  exact ⟨hz, fd_of k.1.1.1 k.1.1.2 k.1.2 k.2⟩
theorem bok {P O B a b c d : Int} (h : (P, O, B) ∈ curvesL) (ha : 0 ≤ a ∧ a < P) (hc : 0 ≤ c ∧ c < P) : BOk P a b c d := by
  obtain ⟨t, ht, rfl, -, -⟩ := curve_of h
  obtain ⟨_, K⟩ := fd_curve ht
  exact K.bok ha hc
theorem lplain_ne {P O B x y : Int} (h : lplain P x y = none) (hc : (P, O, B) ∈ curvesL) (hm : (x, y) ∈ pts P B) : False := by
  have hb := curve_bd hc
  have hlt : B < P := by
    revert hc; unfold curvesL; simp only [List.mem_cons, List.not_mem_nil, or_false, Prod.mk.injEq]; omega
  unfold lplain at h
  split at h
  · rename_i h0
    obtain ⟨rfl, rfl⟩ := h0
    unfold pts at hm
    simp only [List.mem_flatMap, List.mem_map, List.mem_filter, List.mem_range, Prod.mk.injEq] at hm
    obtain ⟨a, ha, c, ⟨hc', he⟩, h1, h2⟩ := hm
    rw [h1, h2] at he
    simp at he
    rw [Int.fmod_eq_emod_of_nonneg _ (by omega), Int.emod_eq_of_lt (by omega) hlt] at he
    omega
  · cases h
end
section
section
open Lean.Grind
def amul (P T : Nat) (N : Int) (p : Nat × Nat) : Nat → Int → Nat × Nat
  | 0, _ => (0, 0)
  | k + 1, n => if n = 0 then (0, 0) else if n = 1 then p else if n < 0 ∨ n ≥ N then amul P T N p k (n.fmod N) else
      if n.fmod 2 = 0 then aN P T (amul P T N p k (n.fdiv 2)) (amul P T N p k (n.fdiv 2)) else aN P T (aN P T (amul P T N p k (n.fdiv 2)) (amul P T N p k (n.fdiv 2))) p
theorem amul_zero (P T : Nat) (N : Int) : ∀ (k : Nat) (n : Int), amul P T N (0, 0) k n = (0, 0) := by
  intro k
  induction k with
  | zero => intro n; rfl
  | succ k ih =>
    intro n
    rw [amul, ih, ih, aN_z1 rfl, aN_z1 rfl]
    simp
def bmul (P T : Nat) : Nat × Nat → Nat → Int → Nat × Nat
  | _, 0, _ => (0, 0)
  | p, k + 1, n => if n = 0 then (0, 0) else if n = 1 then p else
      if n.fmod 2 = 0 then bmul P T (aN P T p p) k (n.fdiv 2) else aN P T (bmul P T (aN P T p p) k (n.fdiv 2)) p
/-- a map that keeps the sums -/
structure Hom (P T : Nat) (S : Nat × Nat → Prop) (f : Nat × Nat → Nat × Nat) : Prop where
  zero : f (0, 0) = (0, 0)
  add : ∀ p q, S p → S q → aN P T (f p) (f q) = f (aN P T p q)
theorem Hom.amul {P T : Nat} {S : Nat × Nat → Prop} {f : Nat × Nat → Nat × Nat} (D : Dom P T S) (H : Hom P T S f) {N : Int} {p : Nat × Nat} (hp : S p) : ∀ (k : Nat) (n : Int), S (amul P T N p k n) ∧ Mine.amul P T N (f p) k n = f (Mine.amul P T N p k n) := by
  intro k
  induction k with
  | zero => intro n; exact ⟨D.zero, H.zero.symm⟩
  | succ k ih =>
    intro n
    simp only [Mine.amul]
    split
    · exact ⟨D.zero, H.zero.symm⟩
    split
    · exact ⟨hp, rfl⟩
    split
    · exact ih _
    have h2 := D.add _ _ (ih (n.fdiv 2)).1 (ih (n.fdiv 2)).1
    split
    · exact ⟨h2, by rw [(ih (n.fdiv 2)).2, H.add _ _ (ih _).1 (ih _).1]⟩
    · exact ⟨D.add _ _ h2 hp, by rw [(ih (n.fdiv 2)).2, H.add _ _ (ih _).1 (ih _).1, H.add _ _ h2 hp]⟩
theorem Hom.bmul {P T : Nat} {S : Nat × Nat → Prop} {f : Nat × Nat → Nat × Nat} (D : Dom P T S) (H : Hom P T S f) : ∀ (k : Nat) (p : Nat × Nat) (n : Int), S p → S (bmul P T p k n) ∧ Mine.bmul P T (f p) k n = f (Mine.bmul P T p k n) := by
  intro k
  induction k with
  | zero => intro p n _; exact ⟨D.zero, H.zero.symm⟩
  | succ k ih =>
    intro p n hp
    simp only [Mine.bmul]
    split
    · exact ⟨D.zero, H.zero.symm⟩
    split
    · exact ⟨hp, rfl⟩
    have h2 := D.add _ _ hp hp
    rw [H.add _ _ hp hp]
    split
    · exact ih _ _ h2
    · have := ih _ (n.fdiv 2) h2
      exact ⟨D.add _ _ this.1 hp, by rw [this.2, H.add _ _ this.1 hp]⟩
variable {α : Type} [CommRing α] {P T : Nat} (K : Fd α P T)
include K
theorem Fd.jmul {S : Nat × Nat → Prop} (D : Dom P T S) {N : Int} {p : Nat × Nat} {r : Int × Int × Int} (hp : S p) (R : RJ α P p r) :
    ∀ (k : Nat) (n : Int), S (amul P T N p k n) ∧ RJ α P (amul P T N p k n) (Mine.jmul P N 0 r.1 r.2.1 r.2.2 k n) := by
  have hlo := K.lo
  have h0 : RJ α P (0, 0) (0, 0, 1) := ⟨⟨⟨by decide, by show (0 : Int) < P; omega⟩, ⟨by decide, by show (0 : Int) < P; omega⟩, by decide, by show (1 : Int) < P; omega⟩, .inl ⟨rfl, rfl, rfl⟩⟩
  intro k
  induction k with
  | zero => intro n; exact ⟨D.zero, h0⟩
  | succ k ih =>
    intro n
    rw [jmul_succ]
    by_cases hy : r.2.1 = 0
    · rw [if_pos (.inl hy), (K.y0 R).mp hy, amul_zero]; exact ⟨D.zero, h0⟩
    rw [amul]
    by_cases hn : n = 0
    · rw [if_pos hn, if_pos (show r.2.1 = 0 ∨ n = 0 from .inr hn)]; exact ⟨D.zero, h0⟩
    rw [if_neg hn, if_neg (show ¬ (r.2.1 = 0 ∨ n = 0) by omega)]
    split
    · exact ⟨hp, R⟩
    split
    · exact ih _
    have h1 := ih (n.fdiv 2)
    have hs2 := D.add _ _ h1.1 h1.1
    have h2 := K.jdbl h1.2 (fun h => D.ne _ _ h1.1 h1.1 h h (fun e => e.2 rfl))
    split
    · exact ⟨hs2, h2⟩
    · exact ⟨D.add _ _ hs2 hp, K.jadd h2 R fun h h' e => D.ne _ _ hs2 hp h h' e⟩
theorem Fd.sadd {S : Nat × Nat → Prop} (D : Dom P T S) {p q : Nat × Nat} (hp : S p) (hq : S q) : Mine.sadd P 0 p.1 p.2 q.1 q.2 = (((aN P T p q).1 : Int), ((aN P T p q).2 : Int)) :=
  K.fromj (K.jadd (K.start (D.rng p hp)) (K.start (D.rng q hq)) (D.ne p q hp hq))
theorem Fd.smul {S : Nat × Nat → Prop} (D : Dom P T S) {N : Int} {p : Nat × Nat} (hp : S p) (n : Int) : Mine.smul P N 0 p.1 p.2 n = (((amul P T N p 9 n).1 : Int), ((amul P T N p 9 n).2 : Int)) :=
  K.fromj (K.jmul D hp (K.start (D.rng p hp)) 9 n).2
theorem Fd.startO {p : Nat × Nat} {c : Int} (hp : p = (0, 0) ∨ ((p.1 < P ∧ p.2 < P) ∧ p.2 ≠ 0)) (hc : 0 < c ∧ c < P) : RO α P p (lquick P p.1 p.2 c) := by
  have hlo := K.lo
  have := K.ch
  have hin := lquick_in (p := (P : Int)) (x := p.1) (y := p.2) (c := c) (by omega)
  refine ⟨hin, ?_⟩
  rcases hp with rfl | ⟨hb, hn⟩
  · left
    exact ⟨rfl, Int.zero_fmod (P : Int)⟩
  · right
    have hne : ¬ ((p.1 : Int) = 0 ∧ (p.2 : Int) = 0) := by omega
    rw [lquick, if_neg hne]
    refine ⟨⟨hb, hn⟩, ?_, ?_, ?_⟩
    · simp only [cI_fmod P, cI_mul]
    · simp only [cI_fmod P, cI_mul]
    · dsimp only
      rw [cI_fmod P]
      intro h
      have := (K.zI (a := c) ⟨by omega, by omega⟩).mp h
      omega
theorem Fd.omul {S : Nat × Nat → Prop} (D : Dom P T S) : ∀ (k : Nat) (p : Nat × Nat) (r : Int × Int × Int) (n : Int), S p → RO α P p r → S (bmul P T p k n) ∧ RO α P (bmul P T p k n) (Mine.omul P k r.1 r.2.1 r.2.2 n) := by
  have hlo := K.lo
  have h0 : RO α P (0, 0) ((1 : Int).fmod P, (1 : Int).fmod P, (0 : Int).fmod P) := ⟨⟨fmod_bd (a := 1) (n := (P : Int)) (by omega), fmod_bd (a := 1) (n := (P : Int)) (by omega), fmod_bd (a := 0) (n := (P : Int)) (by omega)⟩, .inl ⟨rfl, Int.zero_fmod (P : Int)⟩⟩
  intro k
  induction k with
  | zero => intro p r n _ _; exact ⟨D.zero, h0⟩
  | succ k ih =>
    intro p r n hp R
    rw [Mine.omul, bmul]
    split
    · exact ⟨D.zero, h0⟩
    split
    · exact ⟨hp, R⟩
    have hs2 := D.add _ _ hp hp
    have h2 := K.odbl R (fun h => D.ne _ _ hp hp h h (fun e => e.2 rfl))
    have h3 := ih _ _ (n.fdiv 2) hs2 h2
    dsimp only
    split
    · exact h3
    · exact ⟨D.add _ _ h3.1 hp, K.oadd h3.2 R fun h h' e => D.ne _ _ h3.1 hp h h' e⟩
theorem lplain_opt {p : Nat × Nat} (hp : p = (0, 0) ∨ ((p.1 < P ∧ p.2 < P) ∧ p.2 ≠ 0)) : lplain P p.1 p.2 = optN p := by
  have hlo := K.lo
  rcases hp with rfl | ⟨hb, hn⟩
  · rfl
  · rw [lplain, if_neg (by omega), optN_some hn, Int.fmod_eq_emod_of_nonneg _ (by omega), Int.fmod_eq_emod_of_nonneg _ (by omega), Int.emod_eq_of_lt (by omega) (by omega), Int.emod_eq_of_lt (by omega) (by omega)]
end
end
section
def oppN (p q : Nat × Nat) : Bool := and (Nat.beq p.1 q.1) (not (Nat.beq p.2 q.2))
/-- what is asked of a pair -/
def pairB (P T b : Nat) (p q : Nat × Nat) : Bool :=
  and (or (oppN p q) (onN P b (aN P T p q))) (and (eqN (aN P T (phN P T b p) (phN P T b q)) (phN P T b (aN P T p q)))
    (or (zN (phN P T b p)) (or (zN (phN P T b q)) (or (oppN (phN P T b p) (phN P T b q)) (not (Nat.beq (aN P T (phN P T b p) (phN P T b q)).2 0))))))
def pairsN (P T b : Nat) (l : List (Nat × Nat)) : Bool := l.all fun p => l.all fun q => pairB P T b p q
def c2 (p : Nat × Nat) : Int × Int := ((p.1 : Int), (p.2 : Int))
def pointN (P T b : Nat) (p : Nat × Nat) : Bool :=
  decide (p.1 < P ∧ p.2 < P ∧ p.2 ≠ 0) && onN P b p && decide (limg P b p.1 p.2 = c2 (phN P T b p)) && decide (lthird P b p.1 p.2 = c2 (aN P T (aN P T p p) p)) &&
  (zN (phN P T b p) || (decide ((phN P T b p).1 < P ∧ (phN P T b p).2 < P ∧ (phN P T b p).2 ≠ 0) &&
    decide ((((((phN P T b p).2 : Int) * (phN P T b p).2).fmod P - ((((phN P T b p).1 : Int) * (phN P T b p).1).fmod P * (phN P T b p).1).fmod P).fmod P = (-27 * (b : Int)).fmod P))))
def curveN (c : Nat × Nat × Nat × Nat × List (Nat × Nat)) : Bool := decide (pts c.1 c.2.2.1 = c.2.2.2.2.map c2) && c.2.2.2.2.all (pointN c.1 c.2.2.2.1 c.2.2.1)
theorem points_ok : ptsT.all curveN = true := by decide +kernel
theorem pairs_0 : (ptsT.take 5).all (fun c => pairsN c.1 c.2.2.2.1 c.2.2.1 c.2.2.2.2) = true := by decide +kernel
theorem pairs_5 : ((ptsT.drop 5).take 1).all (fun c => pairsN c.1 c.2.2.2.1 c.2.2.1 c.2.2.2.2) = true := by decide +kernel
theorem pairs_6 : ((ptsT.drop 6).take 1).all (fun c => pairsN c.1 c.2.2.2.1 c.2.2.1 c.2.2.2.2) = true := by decide +kernel
theorem pairs_7 : (ptsT.drop 7).all (fun c => pairsN c.1 c.2.2.2.1 c.2.2.1 c.2.2.2.2) = true := by decide +kernel
theorem pairs_ok {c : Nat × Nat × Nat × Nat × List (Nat × Nat)} (h : c ∈ ptsT) : pairsN c.1 c.2.2.2.1 c.2.2.1 c.2.2.2.2 = true := by
  have e : ptsT = ptsT.take 5 ++ ((ptsT.drop 5).take 1 ++ ((ptsT.drop 6).take 1 ++ ptsT.drop 7)) := rfl
  rw [e] at h
  rcases List.mem_append.mp h with h | h
  · exact List.all_eq_true.mp pairs_0 _ h
  rcases List.mem_append.mp h with h | h
  · exact List.all_eq_true.mp pairs_5 _ h
  rcases List.mem_append.mp h with h | h
  · exact List.all_eq_true.mp pairs_6 _ h
  · exact List.all_eq_true.mp pairs_7 _ h
end
section
section
open Lean.Grind
structure Cv (α : Type) [CommRing α] (P T b : Nat) (l : List (Nat × Nat)) : Prop where
  K : Fd α P T
  pts : Mine.pts P b = l.map c2
  pt : ∀ p ∈ l, pointN P T b p = true
  pair : ∀ p ∈ l, ∀ q ∈ l, pairB P T b p q = true
structure PtF (P T b : Nat) (p : Nat × Nat) : Prop where
  rng : (p.1 < P ∧ p.2 < P) ∧ p.2 ≠ 0
  on : onN P b p = true
  img : limg P b p.1 p.2 = c2 (phN P T b p)
  third : lthird P b p.1 p.2 = c2 (aN P T (aN P T p p) p)
  cas : phN P T b p = (0, 0) ∨ ((((phN P T b p).1 < P ∧ (phN P T b p).2 < P) ∧ (phN P T b p).2 ≠ 0) ∧
    (((((phN P T b p).2 : Int) * (phN P T b p).2).fmod P - ((((phN P T b p).1 : Int) * (phN P T b p).1).fmod P * (phN P T b p).1).fmod P).fmod P = (-27 * (b : Int)).fmod P))
theorem pt_of {P T b : Nat} {p : Nat × Nat} (h : pointN P T b p = true) : PtF P T b p := by
  unfold pointN at h
  simp only [Bool.and_eq_true, Bool.or_eq_true, decide_eq_true_eq] at h
  obtain ⟨⟨⟨⟨h1, h2⟩, h3⟩, h4⟩, h5⟩ := h
  refine ⟨⟨⟨h1.1, h1.2.1⟩, h1.2.2⟩, h2, h3, h4, ?_⟩
  rcases h5 with h5 | ⟨h5, h6⟩
  · exact .inl (zN_iff.mp h5)
  · exact .inr ⟨⟨⟨h5.1, h5.2.1⟩, h5.2.2⟩, h6⟩
variable {α : Type} [CommRing α] {P T b : Nat} {l : List (Nat × Nat)} (V : Cv α P T b l)
include V
theorem Cv.mem {p : Nat × Nat} (h1 : p.1 < P ∧ p.2 < P) (h2 : onN P b p = true) : p ∈ l := by
  have e : c2 p ∈ Mine.pts P b := by
    unfold Mine.pts
    simp only [List.mem_flatMap, List.mem_map, List.mem_filter, List.mem_range, c2, Prod.mk.injEq]
    refine ⟨p.1, by omega, p.2, ⟨by omega, ?_⟩, rfl, rfl⟩
    have h3 : (p.2 * p.2) % P = (p.1 * (p.1 * p.1) + b) % P := Nat.beq_eq.mp h2
    rw [Int.fmod_eq_emod_of_nonneg _ (by omega), Int.fmod_eq_emod_of_nonneg _ (by omega), beq_iff_eq]
    rw [Int.mul_assoc]
    exact_mod_cast h3
  rw [V.pts] at e
  obtain ⟨q, hq, he⟩ := List.mem_map.mp e
  have : q = p := by
    simp only [c2, Prod.mk.injEq] at he
    obtain ⟨a, b⟩ := q; obtain ⟨c, d⟩ := p
    simp only at he
    rw [show a = c by omega, show b = d by omega]
  exact this ▸ hq
theorem Cv.F {p : Nat × Nat} (h : p ∈ l) : PtF P T b p := pt_of (V.pt p h)
def EE (l : List (Nat × Nat)) (p : Nat × Nat) : Prop := p = (0, 0) ∨ p ∈ l
def EI (P T b : Nat) (l : List (Nat × Nat)) (p : Nat × Nat) : Prop := ∃ q, EE l q ∧ phN P T b q = p
omit V in
theorem ph0 : phN P T b (0, 0) = (0, 0) := rfl
omit V in
theorem pair_of {p q : Nat × Nat} (h : pairB P T b p q = true) : ((p.1 = q.1 ∧ p.2 ≠ q.2) ∨ onN P b (aN P T p q) = true) ∧ aN P T (phN P T b p) (phN P T b q) = phN P T b (aN P T p q) ∧
    (phN P T b p = (0, 0) ∨ phN P T b q = (0, 0) ∨ ((phN P T b p).1 = (phN P T b q).1 ∧ (phN P T b p).2 ≠ (phN P T b q).2) ∨ (aN P T (phN P T b p) (phN P T b q)).2 ≠ 0) := by
  have opp : ∀ {p q : Nat × Nat}, oppN p q = true → p.1 = q.1 ∧ p.2 ≠ q.2 := by
    intro p q h
    unfold oppN at h
    rw [Bool.and_eq_true, Bool.not_eq_true'] at h
    exact ⟨Nat.beq_eq.mp h.1, fun e => by rw [Nat.beq_eq.mpr e] at h; exact absurd h.2 (by decide)⟩
  unfold pairB at h
  rw [Bool.and_eq_true, Bool.and_eq_true, Bool.or_eq_true, Bool.or_eq_true, Bool.or_eq_true, Bool.or_eq_true] at h
  obtain ⟨h1, h2, h3⟩ := h
  refine ⟨h1.elim (fun h => .inl (opp h)) .inr, ?_, ?_⟩
  · unfold eqN at h2
    rw [Bool.and_eq_true] at h2
    exact Prod.ext (Nat.beq_eq.mp h2.1) (Nat.beq_eq.mp h2.2)
  · rcases h3 with h3 | h3 | h3 | h3
    · exact .inl (zN_iff.mp h3)
    · exact .inr (.inl (zN_iff.mp h3))
    · exact .inr (.inr (.inl (opp h3)))
    · refine .inr (.inr (.inr fun e => ?_))
      rw [e] at h3; exact absurd h3 (by decide)
theorem Cv.sum {p q : Nat × Nat} (hp : p ∈ l) (hq : q ∈ l) (h : ¬ (p.1 = q.1 ∧ p.2 ≠ q.2)) : aN P T p q ∈ l := by
  have Fp := V.F hp
  have Fq := V.F hq
  have h1 := (pair_of (V.pair p hp q hq)).1
  refine V.mem ?_ (h1.resolve_left h)
  by_cases hx : p.1 = q.1
  · have hy : p.2 = q.2 := Classical.byContradiction fun hy => h ⟨hx, hy⟩
    have e : q = p := by obtain ⟨a, b⟩ := p; obtain ⟨c, d⟩ := q; simp only at hx hy; rw [hx, hy]
    rw [e]; exact (V.K.tang Fp.rng.1 Fp.rng.2).1
  · exact (V.K.chord Fp.rng.1 Fq.rng.1 (zN_ff Fp.rng.2) (zN_ff Fq.rng.2) hx).1
theorem Cv.D : Dom P T (EE l) where
  zero := .inl rfl
  rng p h := h.elim .inl fun h => .inr (V.F h).rng
  add p q hp hq := by
    rcases hp with rfl | hp
    · rw [aN_z1 rfl]; exact hq
    have Fp := V.F hp
    rcases hq with rfl | hq
    · rw [aN_z2 (zN_ff Fp.rng.2) rfl]; exact .inr hp
    by_cases h : p.1 = q.1 ∧ p.2 ≠ q.2
    · rw [aN_opp (zN_ff Fp.rng.2) (zN_ff (V.F hq).rng.2) h.1 h.2]; exact .inl rfl
    · exact .inr (V.sum hp hq h)
  ne p q hp hq hp' hq' h := by
    rcases hp with rfl | hp
    · exact absurd rfl hp'
    rcases hq with rfl | hq
    · exact absurd rfl hq'
    exact (V.F (V.sum hp hq h)).rng.2
theorem Cv.H : Hom P T (EE l) (phN P T b) where
  zero := rfl
  add p q hp hq := by
    rcases hp with rfl | hp
    · rw [aN_z1 rfl, aN_z1 rfl]
    have Fp := V.F hp
    rcases hq with rfl | hq
    · rw [aN_z2 (zN_ff Fp.rng.2) rfl, ph0]
      cases h : zN (phN P T b p)
      · exact aN_z2 h rfl
      · rw [zN_iff.mp h]; rfl
    exact (pair_of (V.pair p hp q hq)).2.1
theorem Cv.D' : Dom P T (EI P T b l) where
  zero := ⟨(0, 0), .inl rfl, rfl⟩
  rng := by
    rintro p ⟨q, hq, rfl⟩
    rcases hq with rfl | hq
    · exact .inl rfl
    · exact (V.F hq).cas.elim .inl fun h => .inr h.1
  add := by
    rintro _ _ ⟨p, hp, rfl⟩ ⟨q, hq, rfl⟩
    exact ⟨_, V.D.add p q hp hq, (V.H.add p q hp hq).symm⟩
  ne := by
    rintro _ _ ⟨p, hp, rfl⟩ ⟨q, hq, rfl⟩ hp' hq' h
    rcases hp with rfl | hp
    · exact absurd rfl hp'
    rcases hq with rfl | hq
    · exact absurd rfl hq'
    rcases (pair_of (V.pair p hp q hq)).2.2 with h3 | h3 | h3 | h3
    · rw [h3] at hp'; exact absurd rfl hp'
    · rw [h3] at hq'; exact absurd rfl hq'
    · exact absurd h3 h
    · exact h3
theorem Cv.img {p : Nat × Nat} (h : EE l p) : limg P b p.1 p.2 = c2 (phN P T b p) := by
  rcases h with rfl | h
  · rfl
  · exact (V.F h).img
omit [CommRing α] V in
theorem Cv_im {p : Nat × Nat} (h : EE l p) : EI P T b l (phN P T b p) := ⟨p, h, rfl⟩
theorem Cv.w0 {p q : Nat × Nat} (hp : EE l p) (hq : EE l q) :
    sadd P 0 (limg P b p.1 p.2).1 (limg P b p.1 p.2).2 (limg P b q.1 q.2).1 (limg P b q.1 q.2).2 = limg P b (sadd P 0 p.1 p.2 q.1 q.2).1 (sadd P 0 p.1 p.2 q.1 q.2).2 := by
  rw [V.img hp, V.img hq, V.K.sadd V.D hp hq]
  dsimp only [c2]
  rw [V.K.sadd V.D' (Cv_im hp) (Cv_im hq), V.H.add p q hp hq]
  exact (V.img (V.D.add p q hp hq)).symm
theorem Cv.w1 {p : Nat × Nat} (hp : EE l p) (N n : Int) :
    smul P N 0 (limg P b p.1 p.2).1 (limg P b p.1 p.2).2 n = limg P b (smul P N 0 p.1 p.2 n).1 (smul P N 0 p.1 p.2 n).2 := by
  have h := V.H.amul V.D (N := N) hp 9 n
  rw [V.img hp, V.K.smul V.D hp]
  dsimp only [c2]
  rw [V.K.smul V.D' (Cv_im hp), h.2]
  exact (V.img h.1).symm
theorem Cv.w2 {p : Nat × Nat} (hp : p ∈ l) {N : Int} (hN : 3 < N) :
    lthird P b p.1 p.2 = smul P N 0 p.1 p.2 3 ∧ lthird P b p.1 p.2 = sadd P 0 (sadd P 0 p.1 p.2 p.1 p.2).1 (sadd P 0 p.1 p.2 p.1 p.2).2 p.1 p.2 := by
  have hE : EE l p := .inr hp
  rw [(V.F hp).third]
  refine ⟨?_, ?_⟩
  · rw [V.K.smul V.D hE]
    have e1 : amul P T N p 8 1 = p := by rw [amul, if_neg (by decide), if_pos rfl]
    have e3 : amul P T N p 9 3 = aN P T (aN P T p p) p := by
      rw [amul, if_neg (by decide), if_neg (by decide), if_neg (by omega), if_neg (by decide)]
      rw [show Int.fdiv 3 2 = 1 by decide, e1]
    rw [e3]; rfl
  · rw [V.K.sadd V.D hE hE]
    dsimp only
    rw [V.K.sadd V.D (V.D.add p p hE hE) hE]; rfl
theorem Cv.w4 {p q : Nat × Nat} (hp : EE l p) (hq : EE l q) {c : Int} (hc : 0 < c ∧ c < P) :
    (fun u v => oback P (oadd P u.1 u.2.1 u.2.2 v.1 v.2.1 v.2.2).1 (oadd P u.1 u.2.1 u.2.2 v.1 v.2.1 v.2.2).2.1 (oadd P u.1 u.2.1 u.2.2 v.1 v.2.1 v.2.2).2.2) (lquick P (limg P b p.1 p.2).1 (limg P b p.1 p.2).2 1) (lquick P (limg P b q.1 q.2).1 (limg P b q.1 q.2).2 c) =
      (fun r : Int × Int => limg P b r.1 r.2) ((fun u v => oback P (oadd P u.1 u.2.1 u.2.2 v.1 v.2.1 v.2.2).1 (oadd P u.1 u.2.1 u.2.2 v.1 v.2.1 v.2.2).2.1 (oadd P u.1 u.2.1 u.2.2 v.1 v.2.1 v.2.2).2.2) (lquick P p.1 p.2 c) (lquick P q.1 q.2 1)) := by
  have hlo := V.K.lo
  have h1 : (0 : Int) < 1 ∧ (1 : Int) < P := by omega
  dsimp only
  rw [V.img hp, V.img hq]
  dsimp only [c2]
  rw [V.K.oback (V.K.oadd (V.K.startO (V.D.rng p hp) hc) (V.K.startO (V.D.rng q hq) h1) (V.D.ne p q hp hq))]
  rw [V.K.oback (V.K.oadd (V.K.startO (V.D'.rng _ (Cv_im hp)) h1) (V.K.startO (V.D'.rng _ (Cv_im hq)) hc) (V.D'.ne _ _ (Cv_im hp) (Cv_im hq))), V.H.add p q hp hq]
  exact (V.img (V.D.add p q hp hq)).symm
theorem Cv.w5 {p : Nat × Nat} (hp : EE l p) {c : Int} (hc : 0 < c ∧ c < P) (k : Nat) (n : Int) :
    (fun u : Int × Int × Int => oback P (omul P k u.1 u.2.1 u.2.2 n).1 (omul P k u.1 u.2.1 u.2.2 n).2.1 (omul P k u.1 u.2.1 u.2.2 n).2.2) (lquick P (limg P b p.1 p.2).1 (limg P b p.1 p.2).2 c) =
      (fun r : Int × Int => limg P b r.1 r.2) ((fun u : Int × Int × Int => oback P (omul P k u.1 u.2.1 u.2.2 n).1 (omul P k u.1 u.2.1 u.2.2 n).2.1 (omul P k u.1 u.2.1 u.2.2 n).2.2) (lquick P p.1 p.2 1)) := by
  have hlo := V.K.lo
  have h1 : (0 : Int) < 1 ∧ (1 : Int) < P := by omega
  have h := V.H.bmul V.D k p n hp
  dsimp only
  rw [V.img hp]
  dsimp only [c2]
  rw [V.K.oback (V.K.omul V.D k _ _ n hp (V.K.startO (V.D.rng p hp) h1)).2]
  rw [V.K.oback (V.K.omul V.D' k _ _ n (Cv_im hp) (V.K.startO (V.D'.rng _ (Cv_im hp)) hc)).2, h.2]
  exact (V.img h.1).symm
/-- the plain sum, none for the point at infinity -/
def toldF (P : Int) (u v : Option (Int × Int)) : Option (Int × Int) :=
  match u, v with
  | none, v => v
  | some a, none => some a
  | some a, some b => badd P a.1 a.2 b.1 b.2
theorem told_opt {S : Nat × Nat → Prop} (D : Dom P T S) {p q : Nat × Nat} (hp : S p) (hq : S q) : toldF P (optN p) (optN q) = optN (aN P T p q) := by
  rcases D.rng p hp with rfl | hp1
  · rw [aN_z1 rfl]; rfl
  rcases D.rng q hq with rfl | hq1
  · rw [aN_z2 (zN_ff hp1.2) rfl, optN_some hp1.2]; rfl
  · rw [optN_some hp1.2, optN_some hq1.2]
    exact V.K.badd hp1 hq1 (D.ne p q hp hq hp1.2 hq1.2)
theorem Cv.w3 {p q : Nat × Nat} (hp : EE l p) (hq : EE l q) :
    toldF P (lplain P p.1 p.2) (lplain P q.1 q.2) = optN (aN P T p q) ∧ EE l (aN P T p q) ∧
    toldF P (lplain P (limg P b p.1 p.2).1 (limg P b p.1 p.2).2) (lplain P (limg P b q.1 q.2).1 (limg P b q.1 q.2).2) = optN (phN P T b (aN P T p q)) := by
  rw [V.img hp, V.img hq]
  dsimp only [c2]
  rw [lplain_opt V.K (V.D.rng p hp), lplain_opt V.K (V.D.rng q hq), lplain_opt V.K (V.D'.rng _ (Cv_im hp)), lplain_opt V.K (V.D'.rng _ (Cv_im hq)), told_opt V V.D hp hq, told_opt V V.D' (Cv_im hp) (Cv_im hq), V.H.add p q hp hq]
  exact ⟨rfl, V.D.add p q hp hq, rfl⟩
theorem Cv.onc {p : Nat × Nat} (hp : EE l p) {u v : Int} (h : optN (phN P T b p) = some (u, v)) : ((v * v).fmod P - ((u * u).fmod P * u).fmod P).fmod P = (-27 * (b : Int)).fmod P := by
  rcases hp with rfl | hp
  · cases h
  rcases (V.F hp).cas with h1 | ⟨h1, h2⟩
  · rw [h1] at h; cases h
  · rw [optN_some h1.2] at h
    cases h
    exact h2
end
/-! in the words of the law -/
open Lean.Grind in
theorem curve_cv {P O B : Int} (h : (P, O, B) ∈ curvesL) : ∃ (p T b : Nat) (l : List (Nat × Nat)) (_ : NeZero p), P = (p : Int) ∧ B = (b : Int) ∧ 3 < O ∧ Cv (Fin p) p T b l := by
  have hb := curve_bd h
  obtain ⟨c, hc, rfl, hO, rfl⟩ := curve_of h
  obtain ⟨hz, K⟩ := fd_curve hc
  have k := List.all_eq_true.mp points_ok _ hc
  unfold curveN at k
  rw [Bool.and_eq_true, decide_eq_true_eq] at k
  have kp := pairs_ok hc
  unfold pairsN at kp
  exact ⟨c.1, c.2.2.2.1, c.2.2.1, c.2.2.2.2, hz, rfl, rfl, by omega, K, k.1, fun p hp => List.all_eq_true.mp k.2 p hp, fun p hp q hq => List.all_eq_true.mp (List.all_eq_true.mp kp p hp) q hq⟩
theorem fin_pt {p T b : Nat} {l : List (Nat × Nat)} {α : Type} [Lean.Grind.CommRing α] (V : Cv α p T b l) {x y : Int} (h1 : (x, y) ∈ pts p b) : ∃ q ∈ l, x = (q.1 : Int) ∧ y = (q.2 : Int) := by
  rw [V.pts] at h1
  obtain ⟨q, hq, he⟩ := List.mem_map.mp h1
  cases he
  exact ⟨q, hq, rfl, rfl⟩
section
variable {P O B x y x' y' : Int} (hc : (P, O, B) ∈ curvesL) (h1 : (x, y) ∈ pts P B)
include hc h1
theorem way_0 (h2 : (x', y') ∈ pts P B) : sadd P 0 (limg P B x y).1 (limg P B x y).2 (limg P B x' y').1 (limg P B x' y').2 = limg P B (sadd P 0 x y x' y').1 (sadd P 0 x y x' y').2 := by
  obtain ⟨p, T, b, l, _, rfl, rfl, hO, V⟩ := curve_cv hc
  obtain ⟨q, hq, rfl, rfl⟩ := fin_pt V h1
  obtain ⟨r, hr, rfl, rfl⟩ := fin_pt V h2
  exact V.w0 (.inr hq) (.inr hr)
theorem way_1 {n : Int} : smul P O 0 (limg P B x y).1 (limg P B x y).2 n = limg P B (smul P O 0 x y n).1 (smul P O 0 x y n).2 := by
  obtain ⟨p, T, b, l, _, rfl, rfl, hO, V⟩ := curve_cv hc
  obtain ⟨q, hq, rfl, rfl⟩ := fin_pt V h1
  exact V.w1 (.inr hq) O n
theorem way_2 : lthird P B x y = smul P O 0 x y 3 ∧ lthird P B x y = sadd P 0 (sadd P 0 x y x y).1 (sadd P 0 x y x y).2 x y := by
  obtain ⟨p, T, b, l, _, rfl, rfl, hO, V⟩ := curve_cv hc
  obtain ⟨q, hq, rfl, rfl⟩ := fin_pt V h1
  exact V.w2 hq hO
def optI (w : Int × Int) : Option (Int × Int) := if w.1 = 0 ∧ w.2 = 0 then none else some w
def dueF (P B : Int) (u : Option (Int × Int)) : Int × Int := match u with | none => (0, 0) | some r => limg P B r.1 r.2
theorem way_3 (h2 : (x', y') ∈ pts P B) :
    toldF P (lplain P (limg P B x y).1 (limg P B x y).2) (lplain P (limg P B x' y').1 (limg P B x' y').2) = optI (dueF P B (toldF P (lplain P x y) (lplain P x' y'))) ∧
    ∀ u v, toldF P (lplain P (limg P B x y).1 (limg P B x y).2) (lplain P (limg P B x' y').1 (limg P B x' y').2) = some (u, v) → ((v * v).fmod P - ((u * u).fmod P * u).fmod P).fmod P = (-27 * B).fmod P := by
  obtain ⟨p, T, b, l, _, rfl, rfl, hO, V⟩ := curve_cv hc
  obtain ⟨q, hq, rfl, rfl⟩ := fin_pt V h1
  obtain ⟨r, hr, rfl, rfl⟩ := fin_pt V h2
  obtain ⟨e1, e2, e3⟩ := V.w3 (.inr hq) (.inr hr)
  refine ⟨?_, fun u v h => V.onc e2 (e3.symm.trans h)⟩
  rw [e3, e1]
  have hd : dueF p b (optN (aN p T q r)) = c2 (phN p T b (aN p T q r)) := by
    rcases e2 with h | h
    · rw [h]; rfl
    · rw [optN_some (V.F h).rng.2]; exact (V.F h).img
  rw [hd]
  generalize phN p T b (aN p T q r) = w
  obtain ⟨a, b⟩ := w
  by_cases h : a = 0 ∧ b = 0
  · obtain ⟨rfl, rfl⟩ := h
    rfl
  · have h1 : ¬ ((a, b) : Nat × Nat) = (0, 0) := fun e => h (by cases e; exact ⟨rfl, rfl⟩)
    have h2 : ¬ ((c2 (a, b)).1 = 0 ∧ (c2 (a, b)).2 = 0) := by show ¬ ((a : Int) = 0 ∧ (b : Int) = 0); omega
    rw [optN, if_neg h1, optI, if_neg h2]; rfl
theorem onc_one' {u v : Int} (e : lplain P (limg P B x y).1 (limg P B x y).2 = some (u, v)) : ((v * v).fmod P - ((u * u).fmod P * u).fmod P).fmod P = (-27 * B).fmod P := by
  obtain ⟨p, T, b, l, _, rfl, rfl, hO, V⟩ := curve_cv hc
  obtain ⟨q, hq, rfl, rfl⟩ := fin_pt V h1
  rw [V.img (.inr hq)] at e
  dsimp only [c2] at e
  rw [lplain_opt V.K (V.D'.rng _ (Cv_im (.inr hq)))] at e
  exact V.onc (.inr hq) e
theorem way_4 (h2 : (x', y') ∈ pts P B) {c : Int} (h : 0 < c ∧ c < P) :
    (fun u v => oback P (oadd P u.1 u.2.1 u.2.2 v.1 v.2.1 v.2.2).1 (oadd P u.1 u.2.1 u.2.2 v.1 v.2.1 v.2.2).2.1 (oadd P u.1 u.2.1 u.2.2 v.1 v.2.1 v.2.2).2.2) (lquick P (limg P B x y).1 (limg P B x y).2 1) (lquick P (limg P B x' y').1 (limg P B x' y').2 c) =
      (fun r : Int × Int => limg P B r.1 r.2) ((fun u v => oback P (oadd P u.1 u.2.1 u.2.2 v.1 v.2.1 v.2.2).1 (oadd P u.1 u.2.1 u.2.2 v.1 v.2.1 v.2.2).2.1 (oadd P u.1 u.2.1 u.2.2 v.1 v.2.1 v.2.2).2.2) (lquick P x y c) (lquick P x' y' 1)) := by
  obtain ⟨p, T, b, l, _, rfl, rfl, hO, V⟩ := curve_cv hc
  obtain ⟨q, hq, rfl, rfl⟩ := fin_pt V h1
  obtain ⟨r, hr, rfl, rfl⟩ := fin_pt V h2
  exact V.w4 (.inr hq) (.inr hr) h
theorem way_5 {c : Int} (h : 0 < c ∧ c < P) {n : Int} :
    (fun u : Int × Int × Int => oback P (omul P 8 u.1 u.2.1 u.2.2 n).1 (omul P 8 u.1 u.2.1 u.2.2 n).2.1 (omul P 8 u.1 u.2.1 u.2.2 n).2.2) (lquick P (limg P B x y).1 (limg P B x y).2 c) =
      (fun r : Int × Int => limg P B r.1 r.2) ((fun u : Int × Int × Int => oback P (omul P 8 u.1 u.2.1 u.2.2 n).1 (omul P 8 u.1 u.2.1 u.2.2 n).2.1 (omul P 8 u.1 u.2.1 u.2.2 n).2.2) (lquick P x y 1)) := by
  obtain ⟨p, T, b, l, _, rfl, rfl, hO, V⟩ := curve_cv hc
  obtain ⟨q, hq, rfl, rfl⟩ := fin_pt V h1
  exact V.w5 (.inr hq) h 8 n
end
theorem onc_one {P O B x y u v : Int} (e : lplain P (limg P B x y).1 (limg P B x y).2 = some (u, v)) (h1 : (x, y) ∈ pts P B) (hc : (P, O, B) ∈ curvesL) : ((v * v).fmod P - ((u * u).fmod P * u).fmod P).fmod P = (-27 * B).fmod P := onc_one' hc h1 e
theorem onc_sum {P O B x y x' y' a b c d u v : Int} (e3 : badd P a b c d = some (u, v)) (e1 : lplain P (limg P B x y).1 (limg P B x y).2 = some (a, b)) (e2 : lplain P (limg P B x' y').1 (limg P B x' y').2 = some (c, d)) (h1 : (x, y) ∈ pts P B) (h2 : (x', y') ∈ pts P B) (hc : (P, O, B) ∈ curvesL) :
    ((v * v).fmod P - ((u * u).fmod P * u).fmod P).fmod P = (-27 * B).fmod P :=
  (way_3 hc h1 h2).2 u v (by rw [e1, e2]; exact e3)
theorem onc_one_Is {P O B x y a b u v u' v' c : Int} (iu : Is u' (u, v).1) (iv : Is v' (u, v).2) (e : lplain P a b = some (u, v)) (ia : Is a (limg P B x y).1) (ib : Is b (limg P B x y).2) (h1 : (x, y) ∈ pts P B) (ic : Is c ((-27 * B).fmod P)) (hc : (P, O, B) ∈ curvesL) :
    ((v' * v').fmod P - ((u' * u').fmod P * u').fmod P).fmod P = c := by
  cases iu; cases iv; cases ia; cases ib; cases ic
  exact onc_one e h1 hc
theorem onc_sum_Is {P O B x y x' y' a b c d a' b' c' d' a0 b0 c0 d0 u v u' v' z : Int} (iu : Is u' (u, v).1) (iv : Is v' (u, v).2) (e3 : badd P a' b' c' d' = some (u, v)) (ia : Is a' (a, b).1) (ib : Is b' (a, b).2) (ic : Is c' (c, d).1) (id : Is d' (c, d).2)
    (e1 : lplain P a0 b0 = some (a, b)) (e2 : lplain P c0 d0 = some (c, d)) (ja : Is a0 (limg P B x y).1) (jb : Is b0 (limg P B x y).2) (jc : Is c0 (limg P B x' y').1) (jd : Is d0 (limg P B x' y').2)
    (h1 : (x, y) ∈ pts P B) (h2 : (x', y') ∈ pts P B) (iz : Is z ((-27 * B).fmod P)) (hc : (P, O, B) ∈ curvesL) :
    ((v' * v').fmod P - ((u' * u').fmod P * u').fmod P).fmod P = z := by
  cases iu; cases iv; cases ia; cases ib; cases ic; cases id; cases ja; cases jb; cases jc; cases jd; cases iz
  exact onc_sum e3 e1 e2 h1 h2 hc
end
section
theorem end_0 {P O B x y x' y' a b c d r s u v u' v' : Int}
    (iaa : Is a (sadd P 0 u v u' v').1) (iab : Is b (sadd P 0 u v u' v').2) (ica : Is c (limg P B r s).1) (icb : Is d (limg P B r s).2) (ira : Is r (sadd P 0 x y x' y').1) (irb : Is s (sadd P 0 x y x' y').2) (iua : Is u (limg P B x y).1) (iub : Is v (limg P B x y).2) (iwa : Is u' (limg P B x' y').1) (iwb : Is v' (limg P B x' y').2) (h1 : (x, y) ∈ pts P B) (h2 : (x', y') ∈ pts P B) (hc : (P, O, B) ∈ curvesL) :
    a = c ∧ b = d := by
  cases iaa; cases iab; cases ica; cases icb; cases ira; cases irb; cases iua; cases iub; cases iwa; cases iwb
  rw [way_0 hc h1 h2]; exact ⟨rfl, rfl⟩
theorem end_1 {P O B x y a b c d r s u v n : Int}
    (iaa : Is a (smul P O 0 u v n).1) (iab : Is b (smul P O 0 u v n).2) (ica : Is c (limg P B r s).1) (icb : Is d (limg P B r s).2) (ira : Is r (smul P O 0 x y n).1) (irb : Is s (smul P O 0 x y n).2) (iua : Is u (limg P B x y).1) (iub : Is v (limg P B x y).2) (h1 : (x, y) ∈ pts P B) (hc : (P, O, B) ∈ curvesL) :
    a = c ∧ b = d := by
  cases iaa; cases iab; cases ica; cases icb; cases ira; cases irb; cases iua; cases iub
  rw [way_1 hc h1]; exact ⟨rfl, rfl⟩
theorem end_2 {P O B x y a b c d : Int}
    (iaa : Is a (lthird P B x y).1) (iab : Is b (lthird P B x y).2) (ica : Is c (smul P O 0 x y 3).1) (icb : Is d (smul P O 0 x y 3).2) (h1 : (x, y) ∈ pts P B) (hc : (P, O, B) ∈ curvesL) :
    a = c ∧ b = d := by
  cases iaa; cases iab; cases ica; cases icb
  rw [← (way_2 hc h1).1]; exact ⟨rfl, rfl⟩
theorem end_2b {P O B x y a b c d r s : Int}
    (iaa : Is a (lthird P B x y).1) (iab : Is b (lthird P B x y).2) (ica : Is c (sadd P 0 r s x y).1) (icb : Is d (sadd P 0 r s x y).2) (ira : Is r (sadd P 0 x y x y).1) (irb : Is s (sadd P 0 x y x y).2) (h1 : (x, y) ∈ pts P B) (hc : (P, O, B) ∈ curvesL) :
    a = c ∧ b = d := by
  cases iaa; cases iab; cases ica; cases icb; cases ira; cases irb
  rw [← (way_2 hc h1).2]; exact ⟨rfl, rfl⟩
theorem end_4 {P O B x y x' y' k a b c d r s a1 a2 a3 b1 b2 b3 c1 c2 c3 d1 d2 d3 e1 e2 e3 f1 f2 f3 u v u' v' : Int}
    (iaa : Is a (oback P a1 a2 a3).1) (iab : Is b (oback P a1 a2 a3).2) (ica : Is c (limg P B r s).1) (icb : Is d (limg P B r s).2) (ira : Is r (oback P b1 b2 b3).1) (irb : Is s (oback P b1 b2 b3).2) (iAa : Is a1 (oadd P c1 c2 c3 d1 d2 d3).1) (iAb : Is a2 (oadd P c1 c2 c3 d1 d2 d3).2.1) (iAc : Is a3 (oadd P c1 c2 c3 d1 d2 d3).2.2) (iBa : Is b1 (oadd P e1 e2 e3 f1 f2 f3).1) (iBb : Is b2 (oadd P e1 e2 e3 f1 f2 f3).2.1) (iBc : Is b3 (oadd P e1 e2 e3 f1 f2 f3).2.2) (iCa : Is c1 (lquick P u v 1).1) (iCb : Is c2 (lquick P u v 1).2.1) (iCc : Is c3 (lquick P u v 1).2.2) (iDa : Is d1 (lquick P u' v' k).1) (iDb : Is d2 (lquick P u' v' k).2.1) (iDc : Is d3 (lquick P u' v' k).2.2) (iEa : Is e1 (lquick P x y k).1) (iEb : Is e2 (lquick P x y k).2.1) (iEc : Is e3 (lquick P x y k).2.2) (iFa : Is f1 (lquick P x' y' 1).1) (iFb : Is f2 (lquick P x' y' 1).2.1) (iFc : Is f3 (lquick P x' y' 1).2.2) (iua : Is u (limg P B x y).1) (iub : Is v (limg P B x y).2) (iwa : Is u' (limg P B x' y').1) (iwb : Is v' (limg P B x' y').2) (h1 : (x, y) ∈ pts P B) (h2 : (x', y') ∈ pts P B) (hc : (P, O, B) ∈ curvesL) (hk : 0 < k ∧ k < P) :
    a = c ∧ b = d := by
  cases iaa; cases iab; cases ica; cases icb; cases ira; cases irb; cases iAa; cases iAb; cases iAc; cases iBa; cases iBb; cases iBc; cases iCa; cases iCb; cases iCc; cases iDa; cases iDb; cases iDc; cases iEa; cases iEb; cases iEc; cases iFa; cases iFb; cases iFc; cases iua; cases iub; cases iwa; cases iwb
  have h := way_4 hc h1 h2 hk
  dsimp only at h
  rw [h]; exact ⟨rfl, rfl⟩
theorem end_5 {P O B x y k n a b c d r s a1 a2 a3 b1 b2 b3 c1 c2 c3 e1 e2 e3 u v : Int}
    (iaa : Is a (oback P a1 a2 a3).1) (iab : Is b (oback P a1 a2 a3).2) (ica : Is c (limg P B r s).1) (icb : Is d (limg P B r s).2) (ira : Is r (oback P b1 b2 b3).1) (irb : Is s (oback P b1 b2 b3).2) (iAa : Is a1 (omul P 8 c1 c2 c3 n).1) (iAb : Is a2 (omul P 8 c1 c2 c3 n).2.1) (iAc : Is a3 (omul P 8 c1 c2 c3 n).2.2) (iBa : Is b1 (omul P 8 e1 e2 e3 n).1) (iBb : Is b2 (omul P 8 e1 e2 e3 n).2.1) (iBc : Is b3 (omul P 8 e1 e2 e3 n).2.2) (iCa : Is c1 (lquick P u v k).1) (iCb : Is c2 (lquick P u v k).2.1) (iCc : Is c3 (lquick P u v k).2.2) (iEa : Is e1 (lquick P x y 1).1) (iEb : Is e2 (lquick P x y 1).2.1) (iEc : Is e3 (lquick P x y 1).2.2) (iua : Is u (limg P B x y).1) (iub : Is v (limg P B x y).2) (h1 : (x, y) ∈ pts P B) (hc : (P, O, B) ∈ curvesL) (hk : 0 < k ∧ k < P) :
    a = c ∧ b = d := by
  cases iaa; cases iab; cases ica; cases icb; cases ira; cases irb; cases iAa; cases iAb; cases iAc; cases iBa; cases iBb; cases iBc; cases iCa; cases iCb; cases iCc; cases iEa; cases iEb; cases iEc; cases iua; cases iub
  have h := way_5 hc h1 hk (n := n)
  dsimp only at h
  rw [h]; exact ⟨rfl, rfl⟩
def Due (P B x y x' y' d1 d2 : Int) : Prop := dueF P B (toldF P (lplain P x y) (lplain P x' y')) = (d1, d2)
def Told (P B x y x' y' : Int) (t : Option (Int × Int)) : Prop := toldF P (lplain P (limg P B x y).1 (limg P B x y).2) (lplain P (limg P B x' y').1 (limg P B x' y').2) = t
theorem due_s {P B x y x' y' d1 d2 r s r1 r2 a1 b1 a2 b2 p1 p2 q1 q2 : Int}
    (ida : Is d1 (limg P B r s).1) (idb : Is d2 (limg P B r s).2) (ira : Is r ((r1, r2)).1) (irb : Is s ((r1, r2)).2) (e3 : badd P a1 b1 a2 b2 = some (r1, r2)) (ipa : Is a1 ((p1, p2)).1) (ipb : Is b1 ((p1, p2)).2) (iqa : Is a2 ((q1, q2)).1) (iqb : Is b2 ((q1, q2)).2) (e1 : lplain P x y = some (p1, p2)) (e2 : lplain P x' y' = some (q1, q2)) :
    Due P B x y x' y' d1 d2 := by
  cases ida; cases idb; cases ira; cases irb; cases ipa; cases ipb; cases iqa; cases iqb
  unfold Due; rw [e1, e2]; dsimp only [toldF]; dsimp only at e3; rw [e3]; rfl
theorem due_n {P B x y x' y' a1 b1 a2 b2 p1 p2 q1 q2 : Int}
    (e3 : badd P a1 b1 a2 b2 = none) (ipa : Is a1 ((p1, p2)).1) (ipb : Is b1 ((p1, p2)).2) (iqa : Is a2 ((q1, q2)).1) (iqb : Is b2 ((q1, q2)).2) (e1 : lplain P x y = some (p1, p2)) (e2 : lplain P x' y' = some (q1, q2)) :
    Due P B x y x' y' 0 0 := by
  cases ipa; cases ipb; cases iqa; cases iqb
  unfold Due; rw [e1, e2]; dsimp only [toldF]; dsimp only at e3; rw [e3]; rfl
theorem told_sss {P B x y x' y' u v u' v' p1 p2 q1 q2 a1 b1 a2 b2 t1 t2 : Int}
    (iua : Is u (limg P B x y).1) (iub : Is v (limg P B x y).2) (iwa : Is u' (limg P B x' y').1) (iwb : Is v' (limg P B x' y').2) (e1 : lplain P u v = some (p1, p2)) (e2 : lplain P u' v' = some (q1, q2)) (ipa : Is a1 ((p1, p2)).1) (ipb : Is b1 ((p1, p2)).2) (iqa : Is a2 ((q1, q2)).1) (iqb : Is b2 ((q1, q2)).2) (e3 : badd P a1 b1 a2 b2 = some (t1, t2)) :
    Told P B x y x' y' (some (t1, t2)) := by
  cases iua; cases iub; cases iwa; cases iwb; cases ipa; cases ipb; cases iqa; cases iqb
  unfold Told; rw [e1, e2]; exact e3
theorem told_ssn {P B x y x' y' u v u' v' p1 p2 q1 q2 a1 b1 a2 b2 : Int}
    (iua : Is u (limg P B x y).1) (iub : Is v (limg P B x y).2) (iwa : Is u' (limg P B x' y').1) (iwb : Is v' (limg P B x' y').2) (e1 : lplain P u v = some (p1, p2)) (e2 : lplain P u' v' = some (q1, q2)) (ipa : Is a1 ((p1, p2)).1) (ipb : Is b1 ((p1, p2)).2) (iqa : Is a2 ((q1, q2)).1) (iqb : Is b2 ((q1, q2)).2) (e3 : badd P a1 b1 a2 b2 = none) :
    Told P B x y x' y' none := by
  cases iua; cases iub; cases iwa; cases iwb; cases ipa; cases ipb; cases iqa; cases iqb
  unfold Told; rw [e1, e2]; exact e3
theorem told_sn {P B x y x' y' u v u' v' p1 p2 : Int}
    (iua : Is u (limg P B x y).1) (iub : Is v (limg P B x y).2) (iwa : Is u' (limg P B x' y').1) (iwb : Is v' (limg P B x' y').2) (e1 : lplain P u v = some (p1, p2)) (e2 : lplain P u' v' = none) :
    Told P B x y x' y' (some (p1, p2)) := by
  cases iua; cases iub; cases iwa; cases iwb
  unfold Told; rw [e1, e2]; rfl
theorem told_ns {P B x y x' y' u v u' v' q1 q2 : Int}
    (iua : Is u (limg P B x y).1) (iub : Is v (limg P B x y).2) (iwa : Is u' (limg P B x' y').1) (iwb : Is v' (limg P B x' y').2) (e1 : lplain P u v = none) (e2 : lplain P u' v' = some (q1, q2)) :
    Told P B x y x' y' (some (q1, q2)) := by
  cases iua; cases iub; cases iwa; cases iwb
  unfold Told; rw [e1, e2]; rfl
theorem told_nn {P B x y x' y' u v u' v' : Int}
    (iua : Is u (limg P B x y).1) (iub : Is v (limg P B x y).2) (iwa : Is u' (limg P B x' y').1) (iwb : Is v' (limg P B x' y').2) (e1 : lplain P u v = none) (e2 : lplain P u' v' = none) :
    Told P B x y x' y' none := by
  cases iua; cases iub; cases iwa; cases iwb
  unfold Told; rw [e1, e2]; rfl
theorem fin_s {P O B x y x' y' d1 d2 a b t1 t2 : Int} (D : Due P B x y x' y' d1 d2) (T : Told P B x y x' y' (some (t1, t2))) (ia : Is a (t1, t2).1) (ib : Is b (t1, t2).2) (h1 : (x, y) ∈ pts P B) (h2 : (x', y') ∈ pts P B) (hc : (P, O, B) ∈ curvesL) : a = d1 ∧ b = d2 := by
  cases ia; cases ib
  have h := (way_3 hc h1 h2).1
  unfold Due at D; unfold Told at T
  rw [D, T, optI] at h
  split at h
  · cases h
  · cases h; exact ⟨rfl, rfl⟩
theorem fin_n {P O B x y x' y' d1 d2 : Int} (D : Due P B x y x' y' d1 d2) (T : Told P B x y x' y' none) (h1 : (x, y) ∈ pts P B) (h2 : (x', y') ∈ pts P B) (hc : (P, O, B) ∈ curvesL) : d1 = 0 ∧ d2 = 0 := by
  have h := (way_3 hc h1 h2).1
  unfold Due at D; unfold Told at T
  rw [D, T, optI] at h
  split at h
  · assumption
  · cases h
theorem fin_no {P O B x y x' y' d1 d2 : Int} {G : Prop} (hn : ¬ (d1 = 0 ∧ d2 = 0)) (D : Due P B x y x' y' d1 d2) (T : Told P B x y x' y' none) (h1 : (x, y) ∈ pts P B) (h2 : (x', y') ∈ pts P B) (hc : (P, O, B) ∈ curvesL) : G := absurd (fin_n D T h1 h2 hc) hn
theorem goodB {c : ClaimW} {cl : Str → Option Addr} {mean : ExcName → Option Value} {args : List WData} {s₁ s' : Shared} {p : Prop} [Decidable p] (h : p) (g : GoodW c cl mean args s₁ (.ok (.ret (.bool true))) s') : GoodW c cl mean args s₁ (.ok (.ret (.bool (decide p)))) s' := by
  rw [decide_eq_true h]; exact g
local macro_rules | `(tactic| kc_close) => `(tactic| (kc_bool; k_dflt (first | (refine goodB ?_ ?_; (· first | exact end_0 ‹_› ‹_› ‹_› ‹_› ‹_› ‹_› ‹_› ‹_› ‹_› ‹_› ‹_› ‹_› ‹_› | exact end_1 ‹_› ‹_› ‹_› ‹_› ‹_› ‹_› ‹_› ‹_› ‹_› ‹_› | exact end_2 ‹_› ‹_› ‹_› ‹_› ‹_› ‹_› | exact end_2b ‹_› ‹_› ‹_› ‹_› ‹_› ‹_› ‹_› ‹_› | exact end_4 ‹_› ‹_› ‹_› ‹_› ‹_› ‹_› ‹_› ‹_› ‹_› ‹_› ‹_› ‹_› ‹_› ‹_› ‹_› ‹_› ‹_› ‹_› ‹_› ‹_› ‹_› ‹_› ‹_› ‹_› ‹_› ‹_› ‹_› ‹_› ‹_› ‹_› ‹_› (by omega) | exact end_5 ‹_› ‹_› ‹_› ‹_› ‹_› ‹_› ‹_› ‹_› ‹_› ‹_› ‹_› ‹_› ‹_› ‹_› ‹_› ‹_› ‹_› ‹_› ‹_› ‹_› ‹_› ‹_› (by omega) | exact fin_s (due_s ‹_› ‹_› ‹_› ‹_› ‹_› ‹_› ‹_› ‹_› ‹_› ‹_› ‹_›) (told_sss ‹_› ‹_› ‹_› ‹_› ‹_› ‹_› ‹_› ‹_› ‹_› ‹_› ‹_›) ‹_› ‹_› ‹_› ‹_› ‹_› | exact fin_s (due_s ‹_› ‹_› ‹_› ‹_› ‹_› ‹_› ‹_› ‹_› ‹_› ‹_› ‹_›) (told_sn ‹_› ‹_› ‹_› ‹_› ‹_› ‹_›) ‹_› ‹_› ‹_› ‹_› ‹_› | exact fin_s (due_s ‹_› ‹_› ‹_› ‹_› ‹_› ‹_› ‹_› ‹_› ‹_› ‹_› ‹_›) (told_ns ‹_› ‹_› ‹_› ‹_› ‹_› ‹_›) ‹_› ‹_› ‹_› ‹_› ‹_› | exact fin_n (due_s ‹_› ‹_› ‹_› ‹_› ‹_› ‹_› ‹_› ‹_› ‹_› ‹_› ‹_›) (told_ssn ‹_› ‹_› ‹_› ‹_› ‹_› ‹_› ‹_› ‹_› ‹_› ‹_› ‹_›) ‹_› ‹_› ‹_› | exact fin_n (due_s ‹_› ‹_› ‹_› ‹_› ‹_› ‹_› ‹_› ‹_› ‹_› ‹_› ‹_›) (told_nn ‹_› ‹_› ‹_› ‹_› ‹_› ‹_›) ‹_› ‹_› ‹_› | exact fin_s (due_n ‹_› ‹_› ‹_› ‹_› ‹_› ‹_› ‹_›) (told_sss ‹_› ‹_› ‹_› ‹_› ‹_› ‹_› ‹_› ‹_› ‹_› ‹_› ‹_›) ‹_› ‹_› ‹_› ‹_› ‹_› | exact fin_s (due_n ‹_› ‹_› ‹_› ‹_› ‹_› ‹_› ‹_›) (told_sn ‹_› ‹_› ‹_› ‹_› ‹_› ‹_›) ‹_› ‹_› ‹_› ‹_› ‹_› | exact fin_s (due_n ‹_› ‹_› ‹_› ‹_› ‹_› ‹_› ‹_›) (told_ns ‹_› ‹_› ‹_› ‹_› ‹_› ‹_›) ‹_› ‹_› ‹_› ‹_› ‹_› | exact fin_n (due_n ‹_› ‹_› ‹_› ‹_› ‹_› ‹_› ‹_›) (told_ssn ‹_› ‹_› ‹_› ‹_› ‹_› ‹_› ‹_› ‹_› ‹_› ‹_› ‹_›) ‹_› ‹_› ‹_› | exact fin_n (due_n ‹_› ‹_› ‹_› ‹_› ‹_› ‹_› ‹_›) (told_nn ‹_› ‹_› ‹_› ‹_› ‹_› ‹_›) ‹_› ‹_› ‹_›); kc_close) | exact fin_no ‹_› (due_s ‹_› ‹_› ‹_› ‹_› ‹_› ‹_› ‹_› ‹_› ‹_› ‹_› ‹_›) (told_ssn ‹_› ‹_› ‹_› ‹_› ‹_› ‹_› ‹_› ‹_› ‹_› ‹_› ‹_›) ‹_› ‹_› ‹_› | exact fin_no ‹_› (due_s ‹_› ‹_› ‹_› ‹_› ‹_› ‹_› ‹_› ‹_› ‹_› ‹_› ‹_›) (told_nn ‹_› ‹_› ‹_› ‹_› ‹_› ‹_›) ‹_› ‹_› ‹_›))) --KEEP
end
local macro_rules | `(tactic| kc_close) => `(tactic| (kc_bool; k_dflt (first | (refine goodB ?_ ?_; (· first | exact end_0 ‹_› ‹_› ‹_› ‹_› ‹_› ‹_› ‹_› ‹_› ‹_› ‹_› ‹_› ‹_› ‹_› | exact end_1 ‹_› ‹_› ‹_› ‹_› ‹_› ‹_› ‹_› ‹_› ‹_› ‹_› | exact end_2 ‹_› ‹_› ‹_› ‹_› ‹_› ‹_› | exact end_2b ‹_› ‹_› ‹_› ‹_› ‹_› ‹_› ‹_› ‹_› | exact end_4 ‹_› ‹_› ‹_› ‹_› ‹_› ‹_› ‹_› ‹_› ‹_› ‹_› ‹_› ‹_› ‹_› ‹_› ‹_› ‹_› ‹_› ‹_› ‹_› ‹_› ‹_› ‹_› ‹_› ‹_› ‹_› ‹_› ‹_› ‹_› ‹_› ‹_› ‹_› (by omega) | exact end_5 ‹_› ‹_› ‹_› ‹_› ‹_› ‹_› ‹_› ‹_› ‹_› ‹_› ‹_› ‹_› ‹_› ‹_› ‹_› ‹_› ‹_› ‹_› ‹_› ‹_› ‹_› ‹_› (by omega) | exact fin_s (due_s ‹_› ‹_› ‹_› ‹_› ‹_› ‹_› ‹_› ‹_› ‹_› ‹_› ‹_›) (told_sss ‹_› ‹_› ‹_› ‹_› ‹_› ‹_› ‹_› ‹_› ‹_› ‹_› ‹_›) ‹_› ‹_› ‹_› ‹_› ‹_› | exact fin_s (due_s ‹_› ‹_› ‹_› ‹_› ‹_› ‹_› ‹_› ‹_› ‹_› ‹_› ‹_›) (told_sn ‹_› ‹_› ‹_› ‹_› ‹_› ‹_›) ‹_› ‹_› ‹_› ‹_› ‹_› | exact fin_s (due_s ‹_› ‹_› ‹_› ‹_› ‹_› ‹_› ‹_› ‹_› ‹_› ‹_› ‹_›) (told_ns ‹_› ‹_› ‹_› ‹_› ‹_› ‹_›) ‹_› ‹_› ‹_› ‹_› ‹_› | exact fin_n (due_s ‹_› ‹_› ‹_› ‹_› ‹_› ‹_› ‹_› ‹_› ‹_› ‹_› ‹_›) (told_ssn ‹_› ‹_› ‹_› ‹_› ‹_› ‹_› ‹_› ‹_› ‹_› ‹_› ‹_›) ‹_› ‹_› ‹_› | exact fin_n (due_s ‹_› ‹_› ‹_› ‹_› ‹_› ‹_› ‹_› ‹_› ‹_› ‹_› ‹_›) (told_nn ‹_› ‹_› ‹_› ‹_› ‹_› ‹_›) ‹_› ‹_› ‹_› | exact fin_s (due_n ‹_› ‹_› ‹_› ‹_› ‹_› ‹_› ‹_›) (told_sss ‹_› ‹_› ‹_› ‹_› ‹_› ‹_› ‹_› ‹_› ‹_› ‹_› ‹_›) ‹_› ‹_› ‹_› ‹_› ‹_› | exact fin_s (due_n ‹_› ‹_› ‹_› ‹_› ‹_› ‹_› ‹_›) (told_sn ‹_› ‹_› ‹_› ‹_› ‹_› ‹_›) ‹_› ‹_› ‹_› ‹_› ‹_› | exact fin_s (due_n ‹_› ‹_› ‹_› ‹_› ‹_› ‹_› ‹_›) (told_ns ‹_› ‹_› ‹_› ‹_› ‹_› ‹_›) ‹_› ‹_› ‹_› ‹_› ‹_› | exact fin_n (due_n ‹_› ‹_› ‹_› ‹_› ‹_› ‹_› ‹_›) (told_ssn ‹_› ‹_› ‹_› ‹_› ‹_› ‹_› ‹_› ‹_› ‹_› ‹_› ‹_›) ‹_› ‹_› ‹_› | exact fin_n (due_n ‹_› ‹_› ‹_› ‹_› ‹_› ‹_› ‹_›) (told_nn ‹_› ‹_› ‹_› ‹_› ‹_› ‹_›) ‹_› ‹_› ‹_›); kc_close) | exact fin_no ‹_› (due_s ‹_› ‹_› ‹_› ‹_› ‹_› ‹_› ‹_› ‹_› ‹_› ‹_› ‹_›) (told_ssn ‹_› ‹_› ‹_› ‹_› ‹_› ‹_› ‹_› ‹_› ‹_› ‹_› ‹_›) ‹_› ‹_› ‹_› | exact fin_no ‹_› (due_s ‹_› ‹_› ‹_› ‹_› ‹_› ‹_› ‹_› ‹_› ‹_› ‹_› ‹_›) (told_nn ‹_› ‹_› ‹_› ‹_› ‹_› ‹_›) ‹_› ‹_› ‹_›))) --KEEP
local macro_rules | `(tactic| kct_strs) => `(tactic| (k_here; (with_reducible show wpAny _ _ (call (Value.ref 105) _) _ _ _); k_dflt (refine' (At.use (c_badd ?ch0 ?ch1 ?ch2 ?ch3 ?ch4 ?ch5 ?ch6 ?ch7 ?ch8 ?ch9 ?ch10 ?ch11 ?ch12 ?ch13 ?ch14 ?ch15 ?ch16) ?kB ?kF ?kK ?kN ?kT ?kk ?kd ?ku) _ _ ?_; (case kB => k_asm); (case kF => k_asm); (case kK => k_asm); (case kN => k_asm); (case kT => k_asm); (case kk => first | exact rfl | assumption); (case ch0 => k_mem); (case ch1 => k_mem); (case ch2 => k_mem); (case ch3 => k_mem); (case ch4 => k_mem); (case ch5 => k_mem); (case ch6 => k_mem); (case ch7 => k_mem); (case ch8 => k_mem); (case ch9 => k_mem); (case ch10 => omega); (case ch11 => omega); (case ch12 => omega); (case ch13 => omega); (case ch14 => omega); (case ch15 => omega); (case ch16 => exact bok (by assumption) (by omega) (by omega)); (case kd => ktr_room); (case ku => ktr_units); (unfold RetO); (refine ⟨fun _ _ hOpt => ?_, fun hOpt => ?_⟩); all_goals (first | (unfold RetP; (intro _ _ _ _ _ _ _ _ _ _ _ _ _ _ _ _ _ _ _ _ _ _ _ _ _ _ _ _); (try dsimp only)) | (exfalso; exact lplain_ne hOpt (by assumption) (by assumption)) | (intro _ _)); skip); (all_goals (try dsimp only [PySem.W.CmpBack, PySem.W.InitBack, PySem.W.BoolBack, PySem.W.LenBack, PySem.W.StrBack])); (all_goals (try k_fold))))
local macro_rules | `(tactic| kct_strs) => `(tactic| (k_here; (with_reducible show wpAny _ _ (call (Value.ref 496) _) _ _ _); k_dflt (refine' (At.use (c_lplain ?ch0 ?ch1 ?ch2 ?ch3 ?ch4) ?kB ?kF ?kK ?kN ?kT ?kk ?kd ?ku) _ _ ?_; (case kB => k_asm); (case kF => k_asm); (case kK => k_asm); (case kN => k_asm); (case kT => k_asm); (case kk => first | exact rfl | assumption); (case ch0 => k_mem); (case ch1 => omega); (case ch2 => omega); (case ch3 => omega); (case ch4 => omega); (case kd => ktr_room); (case ku => ktr_units); (unfold RetO); (refine ⟨fun _ _ hOpt => ?_, fun hOpt => ?_⟩); all_goals (first | (unfold RetP; (intro _ _ _ _ _ _ _ _ _ _ _ _ _ _ _ _ _ _ _ _ _ _ _ _ _ _ _ _); (try dsimp only)) | (exfalso; exact lplain_ne hOpt (by assumption) (by assumption)) | (intro _ _)); skip); (all_goals (try dsimp only [PySem.W.CmpBack, PySem.W.InitBack, PySem.W.BoolBack, PySem.W.LenBack, PySem.W.StrBack])); (all_goals (try k_fold))))
section
def RetV (h₀ : Heap) (L : Addr) (m : Str → Option Value) (news : List (Addr × Obj)) (s : Shared) (Q : Value → Shared → Prop) (v : Value) : Prop :=
  ∀ (h' : Heap) (tk' : Nat), Fr h₀ L h' m → News h₀ L h' news → Q v { s with heap := h', toks := tk' }
theorem c_badd_nn {w : World} {news : List (Addr × Obj)} :
    At w 10 news fun Ar h₀ L m s => ∀ (Q E : Value → Shared → Prop), RetV h₀ L m news s Q .none →
      wpAny (model PySem.Challenge.rw_bw0041_01.row.prog w) Ar (call (.ref 105) [.none, .none]) Q E s := by
  unfold At
  w_top off
  k_fill
  intro p' loose mean mg mb dp un gd cn cs fa ccd cl outer A₀ base h₀ L m s B F KX N T hk hd hu Q E hret
  refine wpAny_call ?_
  k_dflt (refine' code_def ?k1 ?k2 ?k3 ?k4 ?k5 ?kA ?kF ?kK ?k6 ?k7 ?k8 ?k9 ?kB ?_ ?c2 ?c3 ?c4 ?c5; (case kA => exact rfl); (case kF => exact rfl); (case kK => first | exact rfl | assumption); (case k1 => k_asm); (case k2 => k_asm); (case k3 => k_asm); (case k4 => k_asm); (case k5 => k_asm); (case k6 => k_is); (case k7 => k_is); (case k8 => ktr_room); (case k9 => exact BindsTo.of_eq rfl); (case c5 => decide); (case kB => exact locs rfl); (case c2 => exact rfl); (case c3 => exact rfl); (case c4 => exact rfl); k_whole; intro g' L' h' FG' F' N' B' X' T'; (try (replace F' : Fr _ _ _ (fun y => List.lookup y [(Str.ofString "p2", _), (Str.ofString "p1", _)]) := F')); (try dsimp only); (try k_lift B'); (try k_fold))
  k_steps
  all_goals (exact hret _ _ (by assumption) (news_sub (by assumption) (by kcf_all)))
theorem c_badd_nr {w : World} {D : Addr} {news : List (Addr × Obj)} :
    At w 10 news fun Ar h₀ L m s => ∀ (Q E : Value → Shared → Prop), RetV h₀ L m news s Q (.ref D) →
      wpAny (model PySem.Challenge.rw_bw0041_01.row.prog w) Ar (call (.ref 105) [.none, .ref D]) Q E s := by
  unfold At
  w_top off
  k_fill
  intro p' loose mean mg mb dp un gd cn cs fa ccd cl outer A₀ base h₀ L m s B F KX N T hk hd hu Q E hret
  refine wpAny_call ?_
  k_dflt (refine' code_def ?k1 ?k2 ?k3 ?k4 ?k5 ?kA ?kF ?kK ?k6 ?k7 ?k8 ?k9 ?kB ?_ ?c2 ?c3 ?c4 ?c5; (case kA => exact rfl); (case kF => exact rfl); (case kK => first | exact rfl | assumption); (case k1 => k_asm); (case k2 => k_asm); (case k3 => k_asm); (case k4 => k_asm); (case k5 => k_asm); (case k6 => k_is); (case k7 => k_is); (case k8 => ktr_room); (case k9 => exact BindsTo.of_eq rfl); (case c5 => decide); (case kB => exact locs rfl); (case c2 => exact rfl); (case c3 => exact rfl); (case c4 => exact rfl); k_whole; intro g' L' h' FG' F' N' B' X' T'; (try (replace F' : Fr _ _ _ (fun y => List.lookup y [(Str.ofString "p2", _), (Str.ofString "p1", _)]) := F')); (try dsimp only); (try k_lift B'); (try k_fold))
  k_steps
  all_goals (exact hret _ _ (by assumption) (news_sub (by assumption) (by kcf_all)))
theorem c_badd_rn {w : World} {D : Addr} {news : List (Addr × Obj)} :
    At w 10 news fun Ar h₀ L m s => ∀ (Q E : Value → Shared → Prop), RetV h₀ L m news s Q (.ref D) →
      wpAny (model PySem.Challenge.rw_bw0041_01.row.prog w) Ar (call (.ref 105) [.ref D, .none]) Q E s := by
  unfold At
  w_top off
  k_fill
  intro p' loose mean mg mb dp un gd cn cs fa ccd cl outer A₀ base h₀ L m s B F KX N T hk hd hu Q E hret
  refine wpAny_call ?_
  k_dflt (refine' code_def ?k1 ?k2 ?k3 ?k4 ?k5 ?kA ?kF ?kK ?k6 ?k7 ?k8 ?k9 ?kB ?_ ?c2 ?c3 ?c4 ?c5; (case kA => exact rfl); (case kF => exact rfl); (case kK => first | exact rfl | assumption); (case k1 => k_asm); (case k2 => k_asm); (case k3 => k_asm); (case k4 => k_asm); (case k5 => k_asm); (case k6 => k_is); (case k7 => k_is); (case k8 => ktr_room); (case k9 => exact BindsTo.of_eq rfl); (case c5 => decide); (case kB => exact locs rfl); (case c2 => exact rfl); (case c3 => exact rfl); (case c4 => exact rfl); k_whole; intro g' L' h' FG' F' N' B' X' T'; (try (replace F' : Fr _ _ _ (fun y => List.lookup y [(Str.ofString "p2", _), (Str.ofString "p1", _)]) := F')); (try dsimp only); (try k_lift B'); (try k_fold))
  k_steps
  all_goals (exact hret _ _ (by assumption) (news_sub (by assumption) (by kcf_all)))
theorem c_onc_n {w : World} {D : Addr} {news : List (Addr × Obj)} :
    At w 10 news fun Ar h₀ L m s => ∀ (Q E : Value → Shared → Prop), RetV h₀ L m news s Q (.bool true) →
      wpAny (model PySem.Challenge.rw_bw0041_01.row.prog w) Ar (call (.ref 91) [.none, .ref D]) Q E s := by
  unfold At
  w_top off
  k_fill
  intro p' loose mean mg mb dp un gd cn cs fa ccd cl outer A₀ base h₀ L m s B F KX N T hk hd hu Q E hret
  refine wpAny_call ?_
  k_dflt (refine' code_def ?k1 ?k2 ?k3 ?k4 ?k5 ?kA ?kF ?kK ?k6 ?k7 ?k8 ?k9 ?kB ?_ ?c2 ?c3 ?c4 ?c5; (case kA => exact rfl); (case kF => exact rfl); (case kK => first | exact rfl | assumption); (case k1 => k_asm); (case k2 => k_asm); (case k3 => k_asm); (case k4 => k_asm); (case k5 => k_asm); (case k6 => k_is); (case k7 => k_is); (case k8 => ktr_room); (case k9 => exact BindsTo.of_eq rfl); (case c5 => decide); (case kB => exact locs rfl); (case c2 => exact rfl); (case c3 => exact rfl); (case c4 => exact rfl); k_whole; intro g' L' h' FG' F' N' B' X' T'; (try (replace F' : Fr _ _ _ (fun y => List.lookup y [(Str.ofString "b", _), (Str.ofString "pt", _)]) := F')); (try dsimp only); (try k_lift B'); (try k_fold))
  k_steps
  all_goals (exact hret _ _ (by assumption) (news_sub (by assumption) (by kcf_all)))
theorem c_omul8 {w : World} {p a b c nn : Int} {tn : Tok} {D x dx y dy z dz : Addr} {h1 h2 g1 g2 i1 i2 : Int} {k1 t1 k2 t2 l1 u1 l2 u2 q1 v1 q2 v2 : Tok} {e e' e'' n : Nat} {news : List (Addr × Obj)}
    (hD : (D, tupR3 x y z n) ∈ news) (hx : (x, instObj 417 dx) ∈ news) (hdx : (dx, fqd p a h1 h2 k1 t1 k2 t2 e) ∈ news) (hy : (y, instObj 417 dy) ∈ news) (hdy : (dy, fqd p b g1 g2 l1 u1 l2 u2 e') ∈ news) (hz : (z, instObj 417 dz) ∈ news) (hdz : (dz, fqd p c i1 i2 q1 v1 q2 v2 e'') ∈ news)
    (hp : 1 < p) (hp' : p ≤ 1000) (ha : 0 ≤ a ∧ a < p) (hb : 0 ≤ b ∧ b < p) (hc : 0 ≤ c ∧ c < p) (hn : 0 ≤ nn ∧ nn < 256) :
    At w 18 news fun Ar h₀ L m s => ∀ (Q E : Value → Shared → Prop), RetQ h₀ L m news s Q p (omul p 8 a b c nn) →
      wpAny (model PySem.Challenge.rw_bw0041_01.row.prog w) Ar (call (.ref 449) [.ref D, .int nn tn]) Q E s :=
  c_omul hp hp' 8 hD hx hdx hy hdy hz hdz ha hb hc hn
theorem c_onc_t {w : World} {p a b c : Int} {D1 x dx y dy z dz : Addr} {h1 h2 g1 g2 h3 h4 : Int} {k1 t1 k2 t2 l1 u1 l2 u2 k3 t3 k4 t4 : Tok} {e1 e2 e3 n1 : Nat} {news : List (Addr × Obj)}
    (hD1 : (D1, tupR2 x y n1) ∈ news) (hx : (x, instObj 255 dx) ∈ news) (hdx : (dx, fqd p a h1 h2 k1 t1 k2 t2 e1) ∈ news) (hy : (y, instObj 255 dy) ∈ news) (hdy : (dy, fqd p b g1 g2 l1 u1 l2 u2 e2) ∈ news)
    (hz : (z, instObj 255 dz) ∈ news) (hdz : (dz, fqd p c h3 h4 k3 t3 k4 t4 e3) ∈ news)
    (hp : 1 < p) (hp' : p ≤ 1000) (ha : 0 ≤ a ∧ a < p) (hb : 0 ≤ b ∧ b < p) (hc : 0 ≤ c ∧ c < p) (hon : ((b * b).fmod p - ((a * a).fmod p * a).fmod p).fmod p = c) :
    At w 10 news fun Ar h₀ L m s => ∀ (Q E : Value → Shared → Prop), RetV h₀ L m news s Q (.bool true) →
      wpAny (model PySem.Challenge.rw_bw0041_01.row.prog w) Ar (call (.ref 91) [.ref D1, .ref z]) Q E s := by
  unfold At
  intro p' loose mean mg mb dp un gd cn cs fa ccd cl outer A₀ base h₀ L m s B F KX N T hk hd hu Q E hret
  refine c_onc hD1 hx hdx hy hdy hz hdz hp hp' ha hb hc p' loose mean mg mb dp un gd cn cs fa ccd cl outer A₀ base h₀ L m s B F KX N T hk hd hu Q E ?_
  intro h' tk' F' N'
  rw [decide_eq_true hon]
  exact hret h' tk' F' N'
theorem c_fq255 {w : World} {p v : Int} {tv tp : Tok} {news : List (Addr × Obj)} (hp : 1 < p) (hp' : p ≤ 1000) :
    At w 3 news fun Ar h₀ L m s => ∀ (Q E : Value → Shared → Prop), RetFQ 255 h₀ L m news s Q p (v.fmod p) →
      wpAny (model PySem.Challenge.rw_bw0041_01.row.prog w) Ar (call (.ref 255) [.int v tv, .int p tp]) Q E s := by
  unfold At
  w_top off
  k_fill
  intro p' loose mean mg mb dp un gd cn cs fa ccd cl outer A₀ base h₀ L m s B F KX N T hk hd hu Q E hret
  k_steps
  all_goals (refine' endFQ (h' := _) (tk' := _) hret ?F ?N ?m ?m' ?s ?e ?r; (case F => assumption); (case N => assumption); (case m => k_mem); (case m' => k_mem); (case s => kcf_all); (case e => kwd_less; first | rfl | (simp only [ff (show 0 < p by omega)]; done)); (case r => exact fmod_bd (by omega)))
local macro_rules | `(tactic| kct_strs) => `(tactic| (k_here; (with_reducible show wpAny _ _ (call (Value.ref 105) _) _ _ _); k_dflt (refine' (At.use (c_badd_nn ) ?kB ?kF ?kK ?kN ?kT ?kk ?kd ?ku) _ _ ?_; (case kB => k_asm); (case kF => k_asm); (case kK => k_asm); (case kN => k_asm); (case kT => k_asm); (case kk => first | exact rfl | assumption);  (case kd => ktr_room); (case ku => ktr_units); intro _ _; skip); (all_goals (try dsimp only [PySem.W.CmpBack, PySem.W.InitBack, PySem.W.BoolBack, PySem.W.LenBack, PySem.W.StrBack])); (all_goals (try k_fold))))
local macro_rules | `(tactic| kct_strs) => `(tactic| (k_here; (with_reducible show wpAny _ _ (call (Value.ref 105) _) _ _ _); k_dflt (refine' (At.use (c_badd_nr ) ?kB ?kF ?kK ?kN ?kT ?kk ?kd ?ku) _ _ ?_; (case kB => k_asm); (case kF => k_asm); (case kK => k_asm); (case kN => k_asm); (case kT => k_asm); (case kk => first | exact rfl | assumption);  (case kd => ktr_room); (case ku => ktr_units); intro _ _; skip); (all_goals (try dsimp only [PySem.W.CmpBack, PySem.W.InitBack, PySem.W.BoolBack, PySem.W.LenBack, PySem.W.StrBack])); (all_goals (try k_fold))))
local macro_rules | `(tactic| kct_strs) => `(tactic| (k_here; (with_reducible show wpAny _ _ (call (Value.ref 105) _) _ _ _); k_dflt (refine' (At.use (c_badd_rn ) ?kB ?kF ?kK ?kN ?kT ?kk ?kd ?ku) _ _ ?_; (case kB => k_asm); (case kF => k_asm); (case kK => k_asm); (case kN => k_asm); (case kT => k_asm); (case kk => first | exact rfl | assumption);  (case kd => ktr_room); (case ku => ktr_units); intro _ _; skip); (all_goals (try dsimp only [PySem.W.CmpBack, PySem.W.InitBack, PySem.W.BoolBack, PySem.W.LenBack, PySem.W.StrBack])); (all_goals (try k_fold))))
local macro_rules | `(tactic| kct_strs) => `(tactic| (k_here; (with_reducible show wpAny _ _ (call (Value.ref 91) _) _ _ _); k_dflt (refine' (At.use (c_onc_n ) ?kB ?kF ?kK ?kN ?kT ?kk ?kd ?ku) _ _ ?_; (case kB => k_asm); (case kF => k_asm); (case kK => k_asm); (case kN => k_asm); (case kT => k_asm); (case kk => first | exact rfl | assumption);  (case kd => ktr_room); (case ku => ktr_units); intro _ _; skip); (all_goals (try dsimp only [PySem.W.CmpBack, PySem.W.InitBack, PySem.W.BoolBack, PySem.W.LenBack, PySem.W.StrBack])); (all_goals (try k_fold))))
local macro_rules | `(tactic| kct_strs) => `(tactic| (k_here; (with_reducible show wpAny _ _ (call (Value.ref 449) _) _ _ _); k_dflt (refine' (At.use (c_omul8 ?ch0 ?ch1 ?ch2 ?ch3 ?ch4 ?ch5 ?ch6 ?ch7 ?ch8 ?ch9 ?ch10 ?ch11 ?ch12) ?kB ?kF ?kK ?kN ?kT ?kk ?kd ?ku) _ _ ?_; (case kB => k_asm); (case kF => k_asm); (case kK => k_asm); (case kN => k_asm); (case kT => k_asm); (case kk => first | exact rfl | assumption); (case ch0 => k_mem); (case ch1 => k_mem); (case ch2 => k_mem); (case ch3 => k_mem); (case ch4 => k_mem); (case ch5 => k_mem); (case ch6 => k_mem); (case ch7 => omega); (case ch8 => omega); (case ch9 => omega); (case ch10 => omega); (case ch11 => omega); (case ch12 => omega); (case kd => ktr_room); (case ku => ktr_units); intro _ _ _ _ _ _ _ _ _ _ _ _ _ _ _ _ _ _ _ _ _ _ _ _ _ _ _ _ _ _ _ _ _ _ _ _ _ _; skip); (all_goals (try dsimp only [PySem.W.CmpBack, PySem.W.InitBack, PySem.W.BoolBack, PySem.W.LenBack, PySem.W.StrBack])); (all_goals (try k_fold))))
local macro_rules | `(tactic| kct_strs) => `(tactic| (k_here; (with_reducible show wpAny _ _ (call (Value.ref 91) _) _ _ _); k_dflt (refine' (At.use (c_onc_t ?ch0 ?ch1 ?ch2 ?ch3 ?ch4 ?ch5 ?ch6 ?ch7 ?ch8 ?ch9 ?ch10 ?ch11 ?ch12) ?kB ?kF ?kK ?kN ?kT ?kk ?kd ?ku) _ _ ?_; (case kB => k_asm); (case kF => k_asm); (case kK => k_asm); (case kN => k_asm); (case kT => k_asm); (case kk => first | exact rfl | assumption); (case ch0 => k_mem); (case ch1 => k_mem); (case ch2 => k_mem); (case ch3 => k_mem); (case ch4 => k_mem); (case ch5 => k_mem); (case ch6 => k_mem); (case ch7 => omega); (case ch8 => omega); (case ch9 => omega); (case ch10 => omega); (case ch11 => omega); (case ch12 => first | exact onc_sum_Is (by assumption) (by assumption) (by assumption) (by assumption) (by assumption) (by assumption) (by assumption) (by assumption) (by assumption) (by assumption) (by assumption) (by assumption) (by assumption) (by assumption) (by assumption) (by assumption) (by assumption) | exact onc_one_Is (by assumption) (by assumption) (by assumption) (by assumption) (by assumption) (by assumption) (by assumption) (by assumption)); (case kd => ktr_room); (case ku => ktr_units); intro _ _; skip); (all_goals (try dsimp only [PySem.W.CmpBack, PySem.W.InitBack, PySem.W.BoolBack, PySem.W.LenBack, PySem.W.StrBack])); (all_goals (try k_fold))))
local macro_rules | `(tactic| kct_strs) => `(tactic| (k_here; (with_reducible show wpAny _ _ (call (Value.ref 255) _) _ _ _); k_dflt (refine' (At.use (c_fq255 ?ch0 ?ch1) ?kB ?kF ?kK ?kN ?kT ?kk ?kd ?ku) _ _ ?_; (case kB => k_asm); (case kF => k_asm); (case kK => k_asm); (case kN => k_asm); (case kT => k_asm); (case kk => first | exact rfl | assumption); (case ch0 => omega); (case ch1 => omega); (case kd => ktr_room); (case ku => ktr_units); intro _ _ _ _ _ _ _ _ _ _ _ _ _ _ _ _; skip); (all_goals (try dsimp only [PySem.W.CmpBack, PySem.W.InitBack, PySem.W.BoolBack, PySem.W.LenBack, PySem.W.StrBack])); (all_goals (try k_fold))))
end
local macro_rules | `(tactic| kct_strs) => `(tactic| (k_here; (with_reducible show wpAny _ _ (call (Value.ref 105) _) _ _ _); k_dflt (refine' (At.use (c_badd_nn ) ?kB ?kF ?kK ?kN ?kT ?kk ?kd ?ku) _ _ ?_; (case kB => k_asm); (case kF => k_asm); (case kK => k_asm); (case kN => k_asm); (case kT => k_asm); (case kk => first | exact rfl | assumption);  (case kd => ktr_room); (case ku => ktr_units); intro _ _; skip); (all_goals (try dsimp only [PySem.W.CmpBack, PySem.W.InitBack, PySem.W.BoolBack, PySem.W.LenBack, PySem.W.StrBack])); (all_goals (try k_fold))))
local macro_rules | `(tactic| kct_strs) => `(tactic| (k_here; (with_reducible show wpAny _ _ (call (Value.ref 105) _) _ _ _); k_dflt (refine' (At.use (c_badd_nr ) ?kB ?kF ?kK ?kN ?kT ?kk ?kd ?ku) _ _ ?_; (case kB => k_asm); (case kF => k_asm); (case kK => k_asm); (case kN => k_asm); (case kT => k_asm); (case kk => first | exact rfl | assumption);  (case kd => ktr_room); (case ku => ktr_units); intro _ _; skip); (all_goals (try dsimp only [PySem.W.CmpBack, PySem.W.InitBack, PySem.W.BoolBack, PySem.W.LenBack, PySem.W.StrBack])); (all_goals (try k_fold))))
local macro_rules | `(tactic| kct_strs) => `(tactic| (k_here; (with_reducible show wpAny _ _ (call (Value.ref 105) _) _ _ _); k_dflt (refine' (At.use (c_badd_rn ) ?kB ?kF ?kK ?kN ?kT ?kk ?kd ?ku) _ _ ?_; (case kB => k_asm); (case kF => k_asm); (case kK => k_asm); (case kN => k_asm); (case kT => k_asm); (case kk => first | exact rfl | assumption);  (case kd => ktr_room); (case ku => ktr_units); intro _ _; skip); (all_goals (try dsimp only [PySem.W.CmpBack, PySem.W.InitBack, PySem.W.BoolBack, PySem.W.LenBack, PySem.W.StrBack])); (all_goals (try k_fold))))
local macro_rules | `(tactic| kct_strs) => `(tactic| (k_here; (with_reducible show wpAny _ _ (call (Value.ref 91) _) _ _ _); k_dflt (refine' (At.use (c_onc_n ) ?kB ?kF ?kK ?kN ?kT ?kk ?kd ?ku) _ _ ?_; (case kB => k_asm); (case kF => k_asm); (case kK => k_asm); (case kN => k_asm); (case kT => k_asm); (case kk => first | exact rfl | assumption);  (case kd => ktr_room); (case ku => ktr_units); intro _ _; skip); (all_goals (try dsimp only [PySem.W.CmpBack, PySem.W.InitBack, PySem.W.BoolBack, PySem.W.LenBack, PySem.W.StrBack])); (all_goals (try k_fold))))
local macro_rules | `(tactic| kct_strs) => `(tactic| (k_here; (with_reducible show wpAny _ _ (call (Value.ref 449) _) _ _ _); k_dflt (refine' (At.use (c_omul8 ?ch0 ?ch1 ?ch2 ?ch3 ?ch4 ?ch5 ?ch6 ?ch7 ?ch8 ?ch9 ?ch10 ?ch11 ?ch12) ?kB ?kF ?kK ?kN ?kT ?kk ?kd ?ku) _ _ ?_; (case kB => k_asm); (case kF => k_asm); (case kK => k_asm); (case kN => k_asm); (case kT => k_asm); (case kk => first | exact rfl | assumption); (case ch0 => k_mem); (case ch1 => k_mem); (case ch2 => k_mem); (case ch3 => k_mem); (case ch4 => k_mem); (case ch5 => k_mem); (case ch6 => k_mem); (case ch7 => omega); (case ch8 => omega); (case ch9 => omega); (case ch10 => omega); (case ch11 => omega); (case ch12 => omega); (case kd => ktr_room); (case ku => ktr_units); intro _ _ _ _ _ _ _ _ _ _ _ _ _ _ _ _ _ _ _ _ _ _ _ _ _ _ _ _ _ _ _ _ _ _ _ _ _ _; skip); (all_goals (try dsimp only [PySem.W.CmpBack, PySem.W.InitBack, PySem.W.BoolBack, PySem.W.LenBack, PySem.W.StrBack])); (all_goals (try k_fold))))
local macro_rules | `(tactic| kct_strs) => `(tactic| (k_here; (with_reducible show wpAny _ _ (call (Value.ref 91) _) _ _ _); k_dflt (refine' (At.use (c_onc_t ?ch0 ?ch1 ?ch2 ?ch3 ?ch4 ?ch5 ?ch6 ?ch7 ?ch8 ?ch9 ?ch10 ?ch11 ?ch12) ?kB ?kF ?kK ?kN ?kT ?kk ?kd ?ku) _ _ ?_; (case kB => k_asm); (case kF => k_asm); (case kK => k_asm); (case kN => k_asm); (case kT => k_asm); (case kk => first | exact rfl | assumption); (case ch0 => k_mem); (case ch1 => k_mem); (case ch2 => k_mem); (case ch3 => k_mem); (case ch4 => k_mem); (case ch5 => k_mem); (case ch6 => k_mem); (case ch7 => omega); (case ch8 => omega); (case ch9 => omega); (case ch10 => omega); (case ch11 => omega); (case ch12 => first | exact onc_sum_Is (by assumption) (by assumption) (by assumption) (by assumption) (by assumption) (by assumption) (by assumption) (by assumption) (by assumption) (by assumption) (by assumption) (by assumption) (by assumption) (by assumption) (by assumption) (by assumption) (by assumption) | exact onc_one_Is (by assumption) (by assumption) (by assumption) (by assumption) (by assumption) (by assumption) (by assumption) (by assumption)); (case kd => ktr_room); (case ku => ktr_units); intro _ _; skip); (all_goals (try dsimp only [PySem.W.CmpBack, PySem.W.InitBack, PySem.W.BoolBack, PySem.W.LenBack, PySem.W.StrBack])); (all_goals (try k_fold))))
local macro_rules | `(tactic| kct_strs) => `(tactic| (k_here; (with_reducible show wpAny _ _ (call (Value.ref 255) _) _ _ _); k_dflt (refine' (At.use (c_fq255 ?ch0 ?ch1) ?kB ?kF ?kK ?kN ?kT ?kk ?kd ?ku) _ _ ?_; (case kB => k_asm); (case kF => k_asm); (case kK => k_asm); (case kN => k_asm); (case kT => k_asm); (case kk => first | exact rfl | assumption); (case ch0 => omega); (case ch1 => omega); (case kd => ktr_room); (case ku => ktr_units); intro _ _ _ _ _ _ _ _ _ _ _ _ _ _ _ _; skip); (all_goals (try dsimp only [PySem.W.CmpBack, PySem.W.InitBack, PySem.W.BoolBack, PySem.W.LenBack, PySem.W.StrBack])); (all_goals (try k_fold))))
section
/-- the roots of r below i, in order -/
def ysI (p : Int) (i : Nat) (r : Int) : List Int := ((List.range i).filter fun (y : Nat) => ((y : Int) * (y : Int)).fmod p == r).map fun (y : Nat) => (y : Int)
theorem ysI_succ (p : Int) (i : Nat) (r : Int) : ysI p (i + 1) r = if ((i : Int) * (i : Int)).fmod p = r then ysI p i r ++ [(i : Int)] else ysI p i r := by
  unfold ysI
  rw [List.range_succ, List.filter_append, List.map_append]
  by_cases h : ((i : Int) * (i : Int)).fmod p = r
  · rw [if_pos h, List.filter_cons_of_pos (by simpa using h)]; rfl
  · rw [if_neg h, List.filter_cons_of_neg (by simpa using h)]; simp
theorem ysI_length (p : Int) (i : Nat) (r : Int) : (ysI p i r).length ≤ i := by
  unfold ysI
  rw [List.length_map]
  exact Nat.le_trans (List.length_filter_le _ _) (by rw [List.length_range]; exact Nat.le_refl _)
/-- the dict of lists after i turns -/
structure RI (p : Int) (i : Nat) (kvs : List (Int × Value)) (lists : List (Addr × Obj)) : Prop where
  len : kvs.length ≤ i
  no : ∀ r, valueAt kvs r = none → ysI p i r = []
  yes : ∀ r v, valueAt kvs r = some v → ∃ a vs n, v = .ref a ∧ (a, listO vs n) ∈ lists ∧ IntsAre vs (ysI p i r)
  inj : ∀ r r' a, valueAt kvs r = some (.ref a) → valueAt kvs r' = some (.ref a) → r = r'
theorem RI.start (p : Int) : RI p 0 [] [] := ⟨Nat.le_refl _, fun _ _ => rfl, fun _ _ h => (by cases h), fun _ _ _ h => (by cases h)⟩
theorem valueAt_new {kvs : List (Int × Value)} {r : Int} {v : Value} (h : valueAt kvs r = none) (r' : Int) : valueAt (stored kvs r v) r' = if r' = r then some v else valueAt kvs r' := by
  rw [stored_absent h]
  unfold valueAt at h ⊢
  rw [List.find?_append]
  by_cases e : r' = r
  · subst e
    rw [if_pos rfl]
    rw [Option.map_eq_none_iff] at h
    rw [h]; simp
  · rw [if_neg e]
    cases hf : kvs.find? fun kv => kv.1 = r' with
    | some x => simp
    | none => simp; exact fun q => e q.symm
/-- the turn where the key is new -/
theorem RI.new {p : Int} {i : Nat} {kvs : List (Int × Value)} {lists : List (Addr × Obj)} (R : RI p i kvs lists) {r : Int} (hr : ((i : Int) * (i : Int)).fmod p = r) (h : valueAt kvs r = none) {l : Addr} (hl : ∀ q ∈ lists, q.1 ≠ l) (t : Tok) (n : Nat) :
    RI p (i + 1) (stored kvs r (.ref l)) ((l, listO [.int i t] n) :: lists) where
  len := by rw [stored_absent h, List.length_append]; have := R.len; simp; omega
  no := fun r' h' => by
    rw [valueAt_new h] at h'
    by_cases e : r' = r
    · rw [if_pos e] at h'; cases h'
    · rw [if_neg e] at h'
      rw [ysI_succ, if_neg (by rw [hr]; exact fun q => e q.symm)]; exact R.no r' h'
  yes := fun r' v h' => by
    rw [valueAt_new h] at h'
    by_cases e : r' = r
    · rw [if_pos e] at h'; cases h'
      refine ⟨l, [.int i t], n, rfl, .head _, ?_⟩
      rw [ysI_succ, if_pos (by rw [hr, e]), e, R.no r h]
      exact .cons _ _ .nil
    · rw [if_neg e] at h'
      obtain ⟨a, vs, n', e1, e2, e3⟩ := R.yes r' v h'
      refine ⟨a, vs, n', e1, .tail _ e2, ?_⟩
      rw [ysI_succ, if_neg (by rw [hr]; exact fun q => e q.symm)]; exact e3
  inj := fun r1 r2 a h1 h2 => by
    rw [valueAt_new h] at h1 h2
    by_cases e1 : r1 = r
    · by_cases e2 : r2 = r
      · rw [e1, e2]
      · rw [if_pos e1] at h1; rw [if_neg e2] at h2
        cases h1
        obtain ⟨a, vs, n', q1, q2, _⟩ := R.yes r2 _ h2
        cases q1; exact absurd rfl (hl _ q2)
    · by_cases e2 : r2 = r
      · rw [if_neg e1] at h1; rw [if_pos e2] at h2
        cases h2
        obtain ⟨a, vs, n', q1, q2, _⟩ := R.yes r1 _ h1
        cases q1; exact absurd rfl (hl _ q2)
      · rw [if_neg e1] at h1; rw [if_neg e2] at h2
        exact R.inj r1 r2 a h1 h2
/-- the turn where the key is there -/
theorem RI.old {p : Int} {i : Nat} {kvs : List (Int × Value)} {lists : List (Addr × Obj)} (R : RI p i kvs lists) {r : Int} (hr : ((i : Int) * (i : Int)).fmod p = r) {a : Addr} {vs : List Value} (h : valueAt kvs r = some (.ref a)) (hv : IntsAre vs (ysI p i r)) (t : Tok) (n : Nat) :
    RI p (i + 1) kvs ((a, listO (vs ++ [.int i t]) n) :: lists.filter (fun q => q.1 != a)) where
  len := by have := R.len; omega
  no := fun r' h' => by
    have e : r' ≠ r := fun e => by rw [e, h] at h'; cases h'
    rw [ysI_succ, if_neg (by rw [hr]; exact fun q => e q.symm)]; exact R.no r' h'
  yes := fun r' v h' => by
    by_cases e : r' = r
    · rw [e, h] at h'; cases h'
      refine ⟨a, vs ++ [.int i t], n, rfl, .head _, ?_⟩
      rw [ysI_succ, if_pos (by rw [hr, e]), e]
      exact hv.append (.cons _ _ .nil)
    · obtain ⟨a', vs', n', e1, e2, e3⟩ := R.yes r' v h'
      refine ⟨a', vs', n', e1, .tail _ (List.mem_filter.mpr ⟨e2, ?_⟩), ?_⟩
      · rw [bne_iff_ne]
        intro q
        have q' : a' = a := q
        exact e (R.inj r' r a (by rw [h', e1, q']) h)
      · rw [ysI_succ, if_neg (by rw [hr]; exact fun q => e q.symm)]; exact e3
  inj := R.inj
section
variable {prog : Program} {w : World} {A : Around} {E : Value → Shared → Prop} {s : Shared} {h₀ : Heap} {L : Addr} {m : Str → Option Value}
/-- the ledger between the turns: the dict d, what stands, the lists -/
structure PS (prog : Program) (w : World) (p : Int) (i : Nat) (d : Addr) (od : Obj) (base lists own : List (Addr × Obj)) (kvs : List (Int × Value)) : Prop where
  hI : od.IsDictOf (PySem.intKind prog w) kvs
  R : RI p i kvs lists
  S1 : ∀ q ∈ lists, q.1 ≠ d ∧ ∀ b ∈ base, b.1 ≠ q.1
  S2 : ∀ b ∈ base, b.1 ≠ d
  O : ∀ q ∈ own, q.1 ≠ d ∧ (∀ b ∈ base, q.1 ≠ b.1) ∧ ∀ b ∈ lists, q.1 ≠ b.1
/-- what setdefault hands on: the list a, apart from the rest -/
structure PN (prog : Program) (w : World) (p : Int) (i : Nat) (d a : Addr) (od : Obj) (base others own : List (Addr × Obj)) (kvs : List (Int × Value)) (vs : List Value) : Prop where
  nxt : ∀ t n, PS prog w p (i + 1) d od base ((a, listO (vs ++ [.int i t]) n) :: others) own kvs
  ne : ∀ q ∈ (d, od) :: (base ++ (others ++ own)), q.1 ≠ a
  len : vs.length ≤ i
theorem sd_any {d l : Addr} {od : Obj} {base lists own : List (Addr × Obj)} {kvs : List (Int × Value)} {p r : Int} {i n0 : Nat} {t : Tok} {Q : Value → Shared → Prop}
    (F : Fr h₀ L s.heap m) (N : News h₀ L s.heap ((l, listO [] n0) :: (d, od) :: (base ++ (lists ++ own)))) (lo : (d == sysModules) = false)
    (P : PS prog w p i d od base lists own kvs) (hr : ((i : Int) * (i : Int)).fmod p = r) (hl : ∀ q ∈ (d, od) :: (base ++ (lists ++ own)), q.1 < l) (hi : i ≤ 100)
    (h : ∀ a vs n others od' kvs' h' tk', Fr h₀ L h' m → News h₀ L h' ((a, listO vs n) :: (d, od') :: (base ++ (others ++ own))) → PN prog w p i d a od' base others own kvs' vs → Q (.ref a) { s with heap := h', toks := tk' }) :
    wpAny (model prog w) A (call (.builtin "dict.setdefault") [.ref d, .int r t, .ref l]) Q E s := by
  have hsz : kvs.length ≤ sizeLine := Nat.le_trans P.R.len (Nat.le_trans hi (by rw [sizeLine_eq]; exact Nat.le_of_ble_eq_true (by with_unfolding_all rfl)))
  have inb : ∀ b ∈ base, b ∈ (d, od) :: (base ++ (lists ++ own)) := fun b hb => .tail _ (List.mem_append.mpr (.inl hb))
  have inl : ∀ b ∈ lists, b ∈ (d, od) :: (base ++ (lists ++ own)) := fun b hb => .tail _ (List.mem_append.mpr (.inr (List.mem_append.mpr (.inl hb))))
  have ino : ∀ b ∈ own, b ∈ (d, od) :: (base ++ (lists ++ own)) := fun b hb => .tail _ (List.mem_append.mpr (.inr (List.mem_append.mpr (.inr hb))))
  cases hv : valueAt kvs r with
  | some v =>
    obtain ⟨a, vs, n, rfl, hm, hints⟩ := P.R.yes r v hv
    refine kob_setdef_there (knd := PySem.intKind _ _) N (.tail _ (.head _)) P.hI lo (intKind_is _ _ _ _) (PySem.F.args_dict_setdefault_3 _ _ _) hv hsz ?_
    refine h a vs n (lists.filter fun q => q.1 != a) od kvs s.heap _ F (fun q hq => ?_) ⟨fun t' n' => ⟨P.hI, P.R.old hr hv hints t' n', ?_, P.S2, ?_⟩, ?_, ?_⟩
    · rcases List.mem_cons.mp hq with rfl | hq
      · exact N _ (.tail _ (inl _ hm))
      rcases List.mem_cons.mp hq with rfl | hq
      · exact N _ (.tail _ (.head _))
      rcases List.mem_append.mp hq with hq | hq
      · exact N _ (.tail _ (inb _ hq))
      rcases List.mem_append.mp hq with hq | hq
      · exact N _ (.tail _ (inl _ (List.mem_filter.mp hq).1))
      · exact N _ (.tail _ (ino _ hq))
    · intro q hq
      rcases List.mem_cons.mp hq with rfl | hq
      · exact P.S1 (a, listO vs n) hm
      · exact P.S1 _ (List.mem_filter.mp hq).1
    · intro q hq
      refine ⟨(P.O q hq).1, (P.O q hq).2.1, fun b hb => ?_⟩
      rcases List.mem_cons.mp hb with rfl | hb
      · exact (P.O q hq).2.2 (a, listO vs n) hm
      · exact (P.O q hq).2.2 _ (List.mem_filter.mp hb).1
    · intro q hq
      rcases List.mem_cons.mp hq with rfl | hq
      · exact fun e => (P.S1 _ hm).1 e.symm
      rcases List.mem_append.mp hq with hq | hq
      · exact (P.S1 _ hm).2 q hq
      rcases List.mem_append.mp hq with hq | hq
      · exact bne_iff_ne.mp (List.mem_filter.mp hq).2
      · exact (P.O q hq).2.2 _ hm
    · rw [hints.length]; exact ysI_length _ _ _
  | none =>
    refine kob_setdef_new (knd := PySem.intKind _ _) F N (.tail (fun e => Nat.ne_of_lt (hl (d, od) (.head _)) e.symm) (.head ?_)) P.hI lo (intKind_is _ _ _ _) (PySem.F.args_dict_setdefault_3 _ _ _) hv hsz fun h' o' F' N' hd' => ?_
    · intro q hq
      rcases List.mem_append.mp hq with hq | hq
      · exact P.S2 q hq
      rcases List.mem_append.mp hq with hq | hq
      · exact (P.S1 q hq).1
      · exact (P.O q hq).1
    · refine h l [] n0 lists o' _ h' _ F' N' ⟨fun t' n' => ⟨hd', P.R.new hr hv (fun q hq => Nat.ne_of_lt (hl q (inl q hq))) t' n', ?_, P.S2, ?_⟩, ?_, Nat.zero_le _⟩
      · intro q hq
        rcases List.mem_cons.mp hq with rfl | hq
        · exact ⟨fun e => Nat.ne_of_lt (hl (d, od) (.head _)) e.symm, fun b hb => Nat.ne_of_lt (hl b (inb b hb))⟩
        · exact P.S1 q hq
      · intro q hq
        refine ⟨(P.O q hq).1, (P.O q hq).2.1, fun b hb => ?_⟩
        rcases List.mem_cons.mp hb with rfl | hb
        · exact Nat.ne_of_lt (hl q (ino q hq))
        · exact (P.O q hq).2.2 b hb
      · intro q hq
        rcases List.mem_cons.mp hq with rfl | hq
        · exact Nat.ne_of_lt (hl (d, od) (.head _))
        · exact Nat.ne_of_lt (hl q (.tail _ hq))
end
section
variable {prog : Program} {w : World} {A : Around} {E : Value → Shared → Prop} {R : Result → Shared → Prop} {s : Shared}
abbrev comp2 (elt t1 i1 t2 i2 : PySem.Expr) (scope : Scope) (pos : Pos) : PySem.Expr := .ListComp elt [⟨t1, i1, [], 0⟩, ⟨t2, i2, [], 0⟩] scope pos
theorem turn_d1 (elt t1 i1 t2 i2 : PySem.Expr) (scope : Scope) (pos : Pos) (it acc : Value) (env : Env) :
    compTurn (comp2 elt t1 i1 t2 i2 scope pos) 1 it acc env = (standAt i2.pos >>= fun _ => pyNext it >>= fun r => match r with
      | none => pure (.done .next)
      | some v => letOwnedTupleGo t2 it v >>= fun _ => assign t2 env v >>= fun _ =>
        (eval elt env >>= fun x => call (.builtin "list.append") [acc, x] >>= fun _ => pure ()) >>= fun _ =>
          again (.compLoop (comp2 elt t1 i1 t2 i2 scope pos) 1 it acc env)) := by rfl
theorem turn_d0 (elt t1 i1 t2 i2 : PySem.Expr) (scope : Scope) (pos : Pos) (it acc : Value) (env : Env) :
    compTurn (comp2 elt t1 i1 t2 i2 scope pos) 0 it acc env = (standAt i1.pos >>= fun _ => pyNext it >>= fun r => match r with
      | none => pure (.done .next)
      | some v => letOwnedTupleGo t1 it v >>= fun _ => assign t1 env v >>= fun _ =>
        eval i2 env >>= fun x => standAt i2.pos >>= fun _ => foldedSetIterable i2 env x >>= fun x => holding [x] (pyIter x) >>= fun j =>
          runOwn (.compStart (comp2 elt t1 i1 t2 i2 scope pos) 1 j acc env) env >>= fun _ =>
          again (.compLoop (comp2 elt t1 i1 t2 i2 scope pos) 0 it acc env)) := by rfl
theorem comp_d1 {elt t1 i1 t2 i2 : PySem.Expr} {scope : Scope} {pos : Pos} {it acc : Value} {env : Env} (I : Nat → Shared → Prop)
    (turn : ∀ n s, I n s → wpAny (model prog w) A (pyNext it) (fun r s₁ => match r with
      | none => R (.ok .next) s₁
      | some v => wpAny (model prog w) A (assign t2 env v) (fun _ s₂ => wpAny (model prog w) A (eval elt env) (fun x s₃ =>
          wpAny (model prog w) A (call (.builtin "list.append") [acc, x]) (fun _ s₄ => ∃ m, m < n ∧ I m s₄) (notedBy (model prog w) A env fun e s' => R (.error e) s') s₃)
          (notedBy (model prog w) A env fun e s' => R (.error e) s') s₂) (notedBy (model prog w) A env fun e s' => R (.error e) s') s₁) (notedBy (model prog w) A env fun e s' => R (.error e) s') s)
    (n : Nat) (h : I n s) (ht : ∀ v, letOwnedTupleGo t2 it v = pure () := by intro _; rfl) :
    codeAny (model prog w) A (.compLoop (comp2 elt t1 i1 t2 i2 scope pos) 1 it acc env) R s := by
  refine codeAny_loop rfl I (fun n s hI => ?_) n h
  show wpAny _ _ ((compTurn (comp2 elt t1 i1 t2 i2 scope pos) 1 it acc env).onRaise (fun x => do noteFrame x env; theTreesLotGoes x)) _ _ s
  refine wpAny_noted ?_
  rw [turn_d1]
  refine wpAny_bind (wpAny_standAt (wpAny_bind (wpAny_mono (turn n s hI) (fun r s₁ h₁ => ?_) fun _ _ h' => h')))
  cases r with
  | none => exact wpAny_pure h₁
  | some v =>
    refine wpAny_bind (wpAny_of_eq (ht v) ?_)
    exact wpAny_bind (wpAny_mono h₁ (fun _ s₂ h₂ => wpAny_bind (wpAny_bind (wpAny_mono h₂ (fun x s₃ h₃ => wpAny_bind (wpAny_mono h₃
      (fun _ s₄ h₄ => wpAny_pure (wpAny_pure ⟨rfl, h₄⟩)) fun _ _ h' => h')) fun _ _ h' => h'))) fun _ _ h' => h')
theorem comp_d0 {elt t1 i1 t2 i2 : PySem.Expr} {scope : Scope} {pos : Pos} {it acc : Value} {env : Env} (I : Nat → Shared → Prop)
    (turn : ∀ n s, I n s → wpAny (model prog w) A (pyNext it) (fun r s₁ => match r with
      | none => R (.ok .next) s₁
      | some v => wpAny (model prog w) A (assign t1 env v) (fun _ s₂ => wpAny (model prog w) A (eval i2 env) (fun x s₃ =>
          wpAny (model prog w) A (pyIter x) (fun j s₄ => wpAny (model prog w) A (runOwn (.compStart (comp2 elt t1 i1 t2 i2 scope pos) 1 j acc env) env) (fun _ s₅ => ∃ m, m < n ∧ I m s₅)
            (notedBy (model prog w) A env fun e s' => R (.error e) s') s₄) (notedBy (model prog w) A env fun e s' => R (.error e) s') s₃)
          (notedBy (model prog w) A env fun e s' => R (.error e) s') s₂) (notedBy (model prog w) A env fun e s' => R (.error e) s') s₁) (notedBy (model prog w) A env fun e s' => R (.error e) s') s)
    (n : Nat) (h : I n s) (ht : ∀ v, letOwnedTupleGo t1 it v = pure () := by intro _; rfl) (hs : ∀ x, foldedSetIterable i2 env x = pure x := by intro _; rfl) :
    codeAny (model prog w) A (.compLoop (comp2 elt t1 i1 t2 i2 scope pos) 0 it acc env) R s := by
  refine codeAny_loop rfl I (fun n s hI => ?_) n h
  show wpAny _ _ ((compTurn (comp2 elt t1 i1 t2 i2 scope pos) 0 it acc env).onRaise (fun x => do noteFrame x env; theTreesLotGoes x)) _ _ s
  refine wpAny_noted ?_
  rw [turn_d0]
  refine wpAny_bind (wpAny_standAt (wpAny_bind (wpAny_mono (turn n s hI) (fun r s₁ h₁ => ?_) fun _ _ h' => h')))
  cases r with
  | none => exact wpAny_pure h₁
  | some v =>
    refine wpAny_bind (wpAny_of_eq (ht v) ?_)
    exact wpAny_bind (wpAny_mono h₁ (fun _ s₂ h₂ => wpAny_bind (wpAny_mono h₂ (fun x s₃ h₃ => wpAny_bind (wpAny_standAt (wpAny_bind (wpAny_of_eq (hs x) (wpAny_bind (wpAny_holding (wpAny_mono h₃
      (fun j s₄ h₄ => wpAny_bind (wpAny_mono h₄ (fun _ s₅ h₅ => wpAny_pure ⟨rfl, h₅⟩) fun _ _ h' => h')) fun _ _ h' => h'))))))) fun _ _ h' => h')) fun _ _ h' => h')
theorem comp_s1 {elt t1 i1 t2 i2 : PySem.Expr} {scope : Scope} {pos : Pos} {it acc : Value} {env : Env}
    (h0 : codeAny (model prog w) A (.compLoop (comp2 elt t1 i1 t2 i2 scope pos) 1 it acc env) R s)
    (h : wpAny (model prog w) A (pyIter it) (fun it' s' => codeAny (model prog w) A (.compLoop (comp2 elt t1 i1 t2 i2 scope pos) 1 it' acc env) R s')
      (notedBy (model prog w) A env fun x s' => R (.error x) s') s) :
    codeAny (model prog w) A (.compStart (comp2 elt t1 i1 t2 i2 scope pos) 1 it acc env) R s := by
  refine codeAny_of_tree ?_
  show wpAny _ _ ((compStart (comp2 elt t1 i1 t2 i2 scope pos) 1 it acc env).onRaise (fun x => do noteFrame x env; standAt theWindowsPlace)) _ _ s
  refine wpAny_notedAt ?_
  unfold compStart
  show wpAny _ _ (ask >>= _) _ _ s
  refine wpAny_bind (wpAny_askSetting (wpAny_ite ?_))
  split
  · first
      | exact wpAny_bind (wpAny_pure (wpAny_pure (And.intro rfl h0)))
      | exact wpAny_pure (And.intro rfl h0)
  · first
      | exact wpAny_bind (wpAny_rule (wpAny_bind (wpAny_standAt (wpAny_bind (wpAny_mono h (fun it' s' h' => wpAny_pure (And.intro rfl h')) fun _ _ x => x)))))
      | (refine wpAny_bind (wpAny_rule ?_); show wpAny _ _ (standAt i2.pos >>= _) _ _ s; exact wpAny_bind (wpAny_standAt (wpAny_bind (wpAny_mono h (fun it' s' h' => wpAny_pure (And.intro rfl h')) fun _ _ x => x))))
end
section
open PyProof.Rows.LCg
variable {prog : Program} {w : World} {A : Around} {E : Value → Shared → Prop} {s : Shared} {h₀ : Heap} {L : Addr} {m : Str → Option Value} {env : Env}
abbrev tupV (u v : Value) (n : Nat) : Obj := { cls := .type "tuple", data := .seq #[u, v] n }
/-- the tuples that the inner loop has made of vx and the items -/
inductive Tups (vx : Value) : List Value → List (Addr × Obj) → Prop
  | nil : Tups vx [] []
  | snoc {vs : List Value} {ts : List (Addr × Obj)} (v : Value) (T : Addr) (n : Nat) : Tups vx vs ts → Tups vx (vs ++ [v]) (ts ++ [(T, tupV vx v n)])
def EltOk (prog : Program) (w : World) (A : Around) (h₀ : Heap) (L : Addr) (m : Str → Option Value) (cenv : Env) (elt : PySem.Expr) (x y : Str) (C : Addr) (vx : Value) (its : List Value) (s : Shared) : Prop :=
  ∀ v J oJ oC m₂ h tk led (Q' : Value → Shared → Prop) (E' : Value → Shared → Prop), v ∈ its → NsObj oC m₂ → m₂ x = some vx → m₂ y = some v → Fr h₀ L h m → News h₀ L h ((J, oJ) :: (C, oC) :: led) →
    (∀ T n h' tk', Fr h₀ L h' m → News h₀ L h' ((T, tupV vx v n) :: (J, oJ) :: (C, oC) :: led) → (∀ p ∈ (J, oJ) :: (C, oC) :: led, p.1 < T) → Q' (.ref T) { s with heap := h', toks := tk' }) →
    wpAny (model prog w) A (eval elt cenv) Q' E' { s with heap := h, toks := tk }
theorem inner2 {elt t1 i1 i2 : PySem.Expr} {x y : Str} {py pos : Pos} {scope : Scope} {cl : List (Str × Addr)} {C D a : Addr} {its : List Value} {na : Nat} {ys : List Value} {nw : List (Addr × Obj)} {m₀ : Str → Option Value} {vx : Value} {Q : Flow → Shared → Prop}
    (hA : A.handled = none) (hkind : scope.kind = .function) (hy : scope.names.lookup y = some .local) (hxy : x ≠ y) (hsz : ys.length + its.length ≤ sizeLine)
    (F : Fr h₀ L s.heap m) (N : News h₀ L s.heap ((D, lst ys) :: nw)) (hC : s.heap.Ns C m₀) (hC0 : h₀.get? C = none) (hCL : C ≠ L) (hx : m₀ x = some vx)
    (ha : (a, ({ cls := .type "list", data := .seq its.toArray na } : Obj)) ∈ nw) (offC : ∀ p ∈ nw, p.1 ≠ C) (offD : ∀ p ∈ nw, p.1 ≠ D) (hCD : C ≠ D)
    (telt : EltOk prog w A h₀ L m (compEnvC scope cl C env) elt x y C vx its s)
    (done : ∀ h' tk' m' ts, Fr h₀ L h' m → h'.Ns C m' → Tups vx its ts → News h₀ L h' ((D, lst (ys ++ ts.map fun t => .ref t.1)) :: (ts ++ nw)) → (∀ p ∈ ts, p.1 ≠ C ∧ p.1 ≠ D ∧ ∀ q ∈ nw, q.1 ≠ p.1) → Q .next { s with heap := h', toks := tk' }) :
    wpAny (model prog w) A (pyIter (.ref a)) (fun j s₄ => wpAny (model prog w) A (runOwn (.compStart (comp2 elt t1 i1 (.Name y py) i2 scope pos) 1 j (.ref D) (compEnvC scope cl C env)) (compEnvC scope cl C env)) Q E s₄) E s := by
  have hl : s.heap.IsList a its.toArray := ⟨_, (N _ (.tail _ ha)).1, rfl, na, rfl⟩
  have hDL : D ≠ L := (N (D, lst ys) (.head _)).2.1
  have hD0 : h₀.get? D = none := (N (D, lst ys) (.head _)).2.2
  have haC : a ≠ C := offC _ ha
  have haD : a ≠ D := offD _ ha
  have haJ : a ≠ s.heap.objs.size := Nat.ne_of_lt (Heap.lt_size (N _ (.tail _ ha)).1)
  refine wpAny_pyIter_list hl ?_
  generalize hJ : s.heap.objs.size = J at haJ ⊢
  have hJC : J ≠ C := by rw [← hJ]; obtain ⟨o, _, _, e, _⟩ := hC; exact fun q => Nat.lt_irrefl _ (q ▸ Heap.lt_size e)
  have hJD : J ≠ D := by rw [← hJ]; exact fun q => Nat.lt_irrefl _ (q ▸ Heap.lt_size (N _ (.head _)).1)
  have hJL : J ≠ L := by rw [← hJ]; exact fun q => Nat.lt_irrefl _ (q ▸ F.ns.lt)
  have hJ0 : h₀.get? J = none := by rw [← hJ]; exact next_is_new F
  have hJnw : ∀ p ∈ nw, p.1 ≠ J := fun p hp => by rw [← hJ]; exact Nat.ne_of_lt (Heap.lt_size (N p (.tail _ hp)).1)
  have up : ∀ b o, s.heap.get? b = some o → (s.heap.push { cls := .type "list_iterator", data := .fields #[.ref a, .int 0 0] }).get? b = some o := fun b o e => Heap.get?_push_of_some _ e
  have W := Walks.list (prog := prog) (w := w) hA J a haJ its.toArray
  refine wpAny_runOwn ?_
  have R : codeAny (model prog w) A (.compLoop (comp2 elt t1 i1 (.Name y py) i2 scope pos) 1 (.ref J) (.ref D) (compEnvC scope cl C env))
      (fun r s' => match r with | .ok f => Q f s' | .error e => cameBackBy (model prog w) A (compEnvC scope cl C env) E e s')
      { s with heap := s.heap.push { cls := .type "list_iterator", data := .fields #[.ref a, .int 0 0] } } := by
    refine comp_d1 (fun k s' => ∃ h' tk j m' ts, s' = { s with heap := h', toks := tk } ∧ j ≤ its.length ∧ k = its.length + 1 - j ∧ (h'.IsListIter J a j ∧ h'.IsList a its.toArray) ∧ Fr h₀ L h' m ∧ h'.Ns C m' ∧ m' x = some vx ∧
      Tups vx (its.take j) ts ∧ ts.length = j ∧ News h₀ L h' ((D, lst (ys ++ ts.map fun t => .ref t.1)) :: (ts ++ nw)) ∧ ∀ p ∈ ts, p.1 ≠ C ∧ p.1 ≠ D ∧ p.1 ≠ J ∧ ∀ q ∈ nw, q.1 ≠ p.1) ?_ (its.length + 1)
      ⟨_, _, 0, m₀, [], rfl, Nat.zero_le _, rfl, ⟨⟨_, hJ ▸ Heap.get?_push_size _ rfl, rfl, rfl⟩, hl.push _⟩, F.push _, hC.at' fun o e => up _ o e, hx, by rw [List.take_zero]; exact .nil, rfl, ?_, fun p hp => (nomatch hp)⟩
    · rintro k s' ⟨h', tk, j, m', ts, rfl, hj, rfl, hst, F', hn', hx', hT, htl, N', off'⟩
      by_cases hlt : j < its.length
      · refine W.item j _ _ _ (by simpa using hlt) hst fun v h₂ tk₂ hPv hst₂ hk₂ => ?_
        have hv : its[j]? = some v := by simpa using hPv
        have F₂ : Fr h₀ L h₂ m := fr_but F' hk₂ hJL.symm hJ0
        refine wpAny_assign_Name (wpAny_storeName_local (lookup_relabel_local hy) (hn'.at' fun o e => hk₂ _ o (by simpa using hJC.symm) e) (fun h₃ hn₃ hs₃ => ?_) (by simp [compEnvC, relabel, hkind]))
        have F₃ : Fr h₀ L h₃ m := F₂.change hs₃ hCL hC0
        have hst₃ : h₃.IsListIter J a (j + 1) ∧ h₃.IsList a its.toArray := W.frame _ _ _ hst₂ fun b hb o e => hs₃.extBut b o (fun q => by
          rcases List.mem_cons.mp hb with h1 | h1
          · exact hJC (h1.symm.trans q)
          · exact haC ((List.mem_singleton.mp h1).symm.trans q)) e
        obtain ⟨oJ, heJ, _⟩ := id hst₃.1
        obtain ⟨oC, heC, hoC⟩ := ns_obj hn₃
        have N₂ : ∀ p ∈ (D, lst (ys ++ ts.map fun t => Value.ref t.1)) :: (ts ++ nw), h₂.get? p.1 = some p.2 ∧ p.1 ≠ L ∧ h₀.get? p.1 = none := fun p hp => by
          refine ⟨hk₂ _ _ ?_ (N' p hp).1, (N' p hp).2⟩
          rw [List.mem_singleton]
          rcases List.mem_cons.mp hp with rfl | hp
          · exact hJD.symm
          rcases List.mem_append.mp hp with hp | hp
          · exact (off' p hp).2.2.1
          · exact hJnw p hp
        have N₃ : News h₀ L h₃ ((J, oJ) :: (C, oC) :: (D, lst (ys ++ ts.map fun t => .ref t.1)) :: (ts ++ nw)) := fun p hp => by
          rcases List.mem_cons.mp hp with rfl | hp
          · exact ⟨heJ, hJL, hJ0⟩
          rcases List.mem_cons.mp hp with rfl | hp
          · exact ⟨heC, hCL, hC0⟩
          refine ⟨hs₃.extBut _ _ ?_ (N₂ p hp).1, (N₂ p hp).2⟩
          rcases List.mem_cons.mp hp with rfl | hp
          · exact hCD.symm
          rcases List.mem_append.mp hp with hp | hp
          · exact (off' p hp).1
          · exact offC p hp
        refine telt v J oJ oC _ h₃ _ _ _ _ (List.mem_of_getElem? hv) hoC (by simp only [if_neg hxy]; exact hx') (by simp) F₃ N₃ fun T n h₄ tk₄ F₄ N₄ lt₄ => ?_
        have zD := (N₄ (D, lst (ys ++ ts.map fun t => .ref t.1)) (.tail _ (.tail _ (.tail _ (.head _))))).1
        have hDT : D ≠ T := Nat.ne_of_lt (lt₄ (D, lst (ys ++ ts.map fun t => .ref t.1)) (.tail _ (.tail _ (.head _))))
        have hst₄ : h₄.IsListIter J a (j + 1) ∧ h₄.IsList a its.toArray :=
          list_st (h₀ := h₀) (L := L) (j + 1) h₃ h₄ oJ nw hst₃ heJ (N₄ (J, oJ) (.tail _ (.head _))).1 F₄.keep (fun p hp => N₄ p (.tail _ (.tail _ (.tail _ (.tail _ (List.mem_append.mpr (.inr hp))))))) (.inr ⟨_, ha, rfl, na, rfl⟩)
        have hszN : (ys ++ ts.map fun t => Value.ref t.1).toArray.size ≤ sizeLine := by
          rw [List.size_toArray, List.length_append, List.length_map, htl]; omega
        refine append_at (hsz := hszN) zD fun h₅ hs₅ hD₅ => ?_
        have keep : ∀ p ∈ (T, tupV vx v n) :: (J, oJ) :: (C, oC) :: (ts ++ nw), p.1 ≠ D := fun p hp => by
          rcases List.mem_cons.mp hp with rfl | hp
          · exact hDT.symm
          rcases List.mem_cons.mp hp with rfl | hp
          · exact hJD
          rcases List.mem_cons.mp hp with rfl | hp
          · exact hCD
          rcases List.mem_append.mp hp with hp | hp
          · exact (off' p hp).2.1
          · exact offD p hp
        have inN : ∀ p ∈ (T, tupV vx v n) :: (J, oJ) :: (C, oC) :: (ts ++ nw), p ∈ (T, tupV vx v n) :: (J, oJ) :: (C, oC) :: (D, lst (ys ++ ts.map fun t => .ref t.1)) :: (ts ++ nw) := fun p hp => by
          rcases List.mem_cons.mp hp with rfl | hp
          · exact .head _
          rcases List.mem_cons.mp hp with rfl | hp
          · exact .tail _ (.head _)
          rcases List.mem_cons.mp hp with rfl | hp
          · exact .tail _ (.tail _ (.head _))
          · exact .tail _ (.tail _ (.tail _ (.tail _ hp)))
        have get5 : ∀ p ∈ (T, tupV vx v n) :: (J, oJ) :: (C, oC) :: (ts ++ nw), h₅.get? p.1 = some p.2 ∧ p.1 ≠ L ∧ h₀.get? p.1 = none := fun p hp =>
          ⟨hs₅.extBut _ _ (keep p hp) (N₄ p (inN p hp)).1, (N₄ p (inN p hp)).2⟩
        refine ⟨its.length + 1 - (j + 1), by omega, h₅, tk₄, j + 1, _, ts ++ [(T, tupV vx v n)], rfl, hlt, rfl, W.frame _ _ _ hst₄ fun b hb o e => hs₅.extBut b o (fun q => ?_) e, F₄.change hs₅ hDL hD0,
          hoC.ns (get5 (C, oC) (.tail _ (.tail _ (.head _)))).1, (by simp only [if_neg hxy]; exact hx'), ?_, by rw [List.length_append, htl]; rfl, fun p hp => ?_, fun p hp => ?_⟩
        · rcases List.mem_cons.mp hb with h1 | h1
          · exact hJD (h1.symm.trans q)
          · exact haD ((List.mem_singleton.mp h1).symm.trans q)
        · rw [List.take_add_one, hv]; exact hT.snoc v T n
        · rcases List.mem_cons.mp hp with rfl | hp
          · refine ⟨hD₅.trans (congrArg some ?_), hDL, hD0⟩
            rw [List.map_append, ← List.append_assoc]
            exact lst_snoc _ _
          rcases List.mem_append.mp hp with hp | hp
          · rcases List.mem_append.mp hp with hp | hp
            · exact get5 p (.tail _ (.tail _ (.tail _ (List.mem_append.mpr (.inl hp)))))
            · rw [List.mem_singleton.mp hp]; exact get5 _ (.head _)
          · exact get5 p (.tail _ (.tail _ (.tail _ (List.mem_append.mpr (.inr hp)))))
        · rcases List.mem_append.mp hp with hp | hp
          · exact off' p hp
          · rw [List.mem_singleton.mp hp]
            exact ⟨(Nat.ne_of_lt (lt₄ (C, oC) (.tail _ (.head _)))).symm, hDT.symm, (Nat.ne_of_lt (lt₄ (J, oJ) (.head _))).symm, fun q hq => Nat.ne_of_lt (lt₄ q (.tail _ (.tail _ (.tail _ (List.mem_append.mpr (.inr hq))))))⟩
      · obtain rfl : j = its.length := Nat.le_antisymm hj (Nat.not_lt.mp hlt)
        have hst' := hst
        rw [List.take_length] at hT
        refine W.done _ _ _ (by simpa using hst') fun h₂ tk₂ hk₂ => ?_
        refine done h₂ tk₂ m' ts (fr_but F' hk₂ hJL.symm hJ0) (hn'.at' fun o e => hk₂ _ o (by simpa using hJC.symm) e) hT (fun p hp => ?_) fun p hp => ⟨(off' p hp).1, (off' p hp).2.1, (off' p hp).2.2.2⟩
        refine ⟨hk₂ _ _ ?_ (N' p hp).1, (N' p hp).2⟩
        rw [List.mem_singleton]
        rcases List.mem_cons.mp hp with rfl | hp
        · exact hJD.symm
        rcases List.mem_append.mp hp with hp | hp
        · exact (off' p hp).2.2.1
        · exact hJnw p hp
    · intro p hp
      rw [List.map_nil, List.append_nil, List.nil_append] at hp
      exact ⟨up _ _ (N p hp).1, (N p hp).2⟩
  exact comp_s1 R (W.self 0 _ _ _ ⟨⟨_, hJ ▸ Heap.get?_push_size _ rfl, rfl, rfl⟩, hl.push _⟩ R)
end
section
open PyProof.Rows.LCg
variable {prog : Program} {w : World} {A : Around} {E : Value → Shared → Prop} {h₀ : Heap} {L : Addr} {m : Str → Option Value} {env : Env}
/-- what a turn of the outer loop is asked -/
def OutTurn (prog : Program) (w : World) (A : Around) (h₀ : Heap) (L : Addr) (m : Str → Option Value) (env : Env) (elt t1 i1 t2 i2 : PySem.Expr) (scope : Scope) (pos : Pos) (cl : List (Str × Addr)) (x : Str) (n : Nat) (P : Nat → Value → Prop) (s₂ : Shared) (J : Nat → List Value → List (Addr × Obj) → Prop) : Prop :=
  ∀ i v I oI C oC D ys nw m₂ h tk (E' : Value → Shared → Prop) (Q : Flow → Shared → Prop), i < n → P i v → J i ys nw → NsObj oC m₂ → m₂ x = some v → Fr h₀ L h m → News h₀ L h ((I, oI) :: (C, oC) :: (D, lst ys) :: nw) →
    (∀ p ∈ (I, oI) :: nw, p.1 ≠ C) → (∀ p ∈ (I, oI) :: nw, p.1 ≠ D) → C ≠ D → (∀ p ∈ nw, p.1 ≠ I) →
    (∀ h' tk' ys' nw' m', Fr h₀ L h' m → h'.Ns C m' → News h₀ L h' ((I, oI) :: (D, lst ys') :: nw') → (∀ p ∈ nw', p.1 ≠ C ∧ p.1 ≠ D ∧ p.1 ≠ I) → J (i + 1) ys' nw' → Q .next { s₂ with heap := h', toks := tk' }) →
    wpAny (model prog w) A (eval i2 (compEnvC scope cl C env)) (fun xv s₃ => wpAny (model prog w) A (pyIter xv) (fun j s₄ => wpAny (model prog w) A (runOwn (.compStart (comp2 elt t1 i1 t2 i2 scope pos) 1 j (.ref D) (compEnvC scope cl C env)) (compEnvC scope cl C env)) Q E' s₄) E' s₃) E' { s₂ with heap := h, toks := tk }
theorem block2 {elt i1 t2 i2 : PySem.Expr} {x : Str} {px pos : Pos} {scope : Scope} {cl : List (Str × Addr)} {s₂ : Shared} {I : Addr} {n : Nat} {P : Nat → Value → Prop} {St : Nat → Heap → Prop} {news : List (Addr × Obj)}
    {RR : Value → Addr → Result → Shared → Prop} (J : Nat → List Value → List (Addr × Obj) → Prop)
    (W : Walks prog w A I [I] [I] n P St) (hIo : ∀ i h, St i h → ∃ o, h.get? I = some o) (hSt : ∀ i h h' o, St i h → h.get? I = some o → h'.get? I = some o → St i h')
    (hcell : ∀ y ∈ scope.names, y.2 ≠ .cell) (hkind : scope.kind = .function) (hx : scope.names.lookup x = some .local) (hst : St 0 s₂.heap)
    (F : Fr h₀ L s₂.heap m) (N : News h₀ L s₂.heap news) (hIL : L ≠ I) (hI₀ : h₀.get? I = none) (off : ∀ p ∈ news, p.1 ≠ I) (h0 : J 0 [] news)
    (turn : OutTurn prog w A h₀ L m env elt (.Name x px) i1 t2 i2 scope pos cl x n P s₂ J) (hs2 : ∀ c : Env, ∀ x, foldedSetIterable i2 c x = pure x)
    (hRR : ∀ D C h tk m' ys nw, Fr h₀ L h m → News h₀ L h ((D, lst ys) :: nw) → h.Ns C m' → h₀.get? C = none → C ≠ L → C ≠ D → (∀ p ∈ nw, p.1 ≠ C) → J n ys nw → RR (.ref D) C (.ok .next) { s₂ with heap := h, toks := tk }) :
    wpAny (model prog w) A (newList []) (fun acc s₃ => wpAny (model prog w) A (newFunctionEnv scope env.globals cl [] env.qual none .none (some env)) (fun cenv s₄ =>
      codeAny (model prog w) A (.compStart (comp2 elt (.Name x px) i1 t2 i2 scope pos) 0 (.ref I) acc { cenv with scope := relabel scope env }) (RR acc cenv.locals) s₄) E s₃) E s₂ := by
  refine wpAny_newObj_type (wpAny_newFunctionEnv hcell (by intro y hy; simp at hy) (fun h₁ hns₁ hsb₁ => ?_) hkind)
  dsimp only at hns₁ hsb₁ ⊢
  generalize hH2 : s₂.heap.push { cls := .type "list", dict := none, data := .seq ([] : List Value).toArray } = H2 at hns₁ hsb₁ ⊢
  have szC : H2.objs.size = s₂.heap.objs.size + 1 := by rw [← hH2, Heap.size_push]
  generalize hD : s₂.heap.objs.size = D at szC ⊢
  generalize hC : H2.objs.size = C at szC hns₁ hsb₁ ⊢
  have hCD : C ≠ D := by rw [szC]; exact Nat.succ_ne_self _
  have ltD : ∀ b o, s₂.heap.get? b = some o → b ≠ D ∧ b ≠ C := fun b o e => by
    have := Heap.lt_size e
    rw [hD] at this
    exact ⟨Nat.ne_of_lt this, by rw [szC]; exact Nat.ne_of_lt (Nat.lt_succ_of_lt this)⟩
  have old : ∀ b o, s₂.heap.get? b = some o → h₁.get? b = some o := fun b o e => hsb₁.extBut b o (ltD b o e).2 (Heap.get?_push_of_some _ (by rw [← hH2]; exact Heap.get?_push_of_some _ e))
  have none₀ : ∀ a, s₂.heap.objs.size ≤ a → h₀.get? a = none := fun a ha => by
    cases e : h₀.get? a with
    | none => rfl
    | some o' => exact absurd (Heap.lt_size (F.keep a o' e)) (Nat.not_lt.mpr ha)
  have hD0 : h₀.get? D = none := none₀ _ (Nat.le_of_eq hD)
  have hC0 : h₀.get? C = none := none₀ _ (by rw [szC, hD]; exact Nat.le_succ _)
  obtain ⟨oI0, eI0⟩ := hIo _ _ hst
  obtain ⟨oL, _, _, eL, _⟩ := id F.ns
  have hDL : D ≠ L := (ltD _ _ eL).1.symm
  have hCL : C ≠ L := (ltD _ _ eL).2.symm
  have hID : I ≠ D := (ltD _ _ eI0).1
  have hIC : I ≠ C := (ltD _ _ eI0).2
  have hst₁ : St 0 h₁ := W.frame _ _ _ hst fun b _ o e => old b o e
  have accD : h₁.get? D = some (lst []) := hsb₁.extBut D _ hCD.symm (Heap.get?_push_of_some _ (by rw [← hH2, ← hD]; exact Heap.get?_push_size _ rfl))
  have loop : ∀ s₃ : Shared, s₃ = { s₂ with heap := h₁, toks := s₂.toks + ([] : List (Str × Value)).length } →
      codeAny (model prog w) A (.compLoop (comp2 elt (.Name x px) i1 t2 i2 scope pos) 0 (.ref I) (.ref D) (compEnvC scope cl C env)) (RR (.ref D) C) s₃ := by
    rintro s₃ rfl
    refine comp_d0 (fun k s' => ∃ h' tk i ys m' nw, s' = { s₂ with heap := h', toks := tk } ∧ i ≤ n ∧ k = n + 1 - i ∧ St i h' ∧ Fr h₀ L h' m ∧ h'.Ns C m' ∧ News h₀ L h' ((D, lst ys) :: nw) ∧ (∀ p ∈ nw, p.1 ≠ C ∧ p.1 ≠ D ∧ p.1 ≠ I) ∧ J i ys nw) ?_ (n + 1)
      ⟨h₁, _, 0, [], _, news, rfl, Nat.zero_le _, rfl, hst₁, F.keeps old, hns₁, fun p hp => ?_, fun p hp => ⟨(ltD _ _ (N p hp).1).2, (ltD _ _ (N p hp).1).1, off p hp⟩, h0⟩ (hs := hs2 _)
    · rintro k s' ⟨h', tk, i, ys, m', nw, rfl, hi, rfl, hst', F', hn', N', off', hJ⟩
      have keep2 : ∀ {h₂ : Heap}, (∀ b o, b ∉ [I] → h'.get? b = some o → h₂.get? b = some o) → News h₀ L h₂ ((D, lst ys) :: nw) := fun hk₂ p hp => by
        refine ⟨hk₂ _ _ ?_ (N' p hp).1, (N' p hp).2⟩
        rw [List.mem_singleton]
        rcases List.mem_cons.mp hp with rfl | hp
        · exact hID.symm
        · exact (off' p hp).2.2
      by_cases hlt : i < n
      · refine W.item i _ _ _ hlt hst' fun v h₂ tk₂ hPv hst₂ hk₂ => ?_
        refine wpAny_assign_Name (wpAny_storeName_local (lookup_relabel_local hx) (hn'.at' fun o e => hk₂ _ o (by simpa using hIC.symm) e) (fun h₃ hn₃ hs₃ => ?_) (by simp [compEnvC, relabel, hkind]))
        have hst₃ : St (i + 1) h₃ := W.frame _ _ _ hst₂ fun b hb o e => hs₃.extBut b o (fun q => hIC ((List.mem_singleton.mp hb).symm.trans q)) e
        obtain ⟨oI, heI⟩ := hIo _ _ hst₃
        obtain ⟨oC, heC, hoC⟩ := ns_obj hn₃
        have N₂ := keep2 hk₂
        refine turn i v I oI C oC D ys nw _ h₃ _ _ _ hlt hPv hJ hoC (by simp) ((fr_but F' hk₂ hIL hI₀).change hs₃ hCL hC0) (fun p hp => ?_) (fun p hp => ?_) (fun p hp => ?_) hCD (fun p hp => (off' p hp).2.2) fun h₄ tk₄ ys₄ nw₄ m₄ F₄ hn₄ N₄ off₄ hJ₄ => ?_
        · rcases List.mem_cons.mp hp with rfl | hp
          · exact ⟨heI, hIL.symm, hI₀⟩
          rcases List.mem_cons.mp hp with rfl | hp
          · exact ⟨heC, hCL, hC0⟩
          refine ⟨hs₃.extBut _ _ ?_ (N₂ p hp).1, (N₂ p hp).2⟩
          rcases List.mem_cons.mp hp with rfl | hp
          · exact hCD.symm
          · exact (off' p hp).1
        · rcases List.mem_cons.mp hp with rfl | hp
          · exact hIC
          · exact (off' p hp).1
        · rcases List.mem_cons.mp hp with rfl | hp
          · exact hID
          · exact (off' p hp).2.1
        · exact ⟨n + 1 - (i + 1), by omega, h₄, tk₄, i + 1, ys₄, m₄, nw₄, rfl, hlt, rfl, hSt _ _ _ _ hst₃ heI (N₄ (I, oI) (.head _)).1, F₄, hn₄, fun p hp => N₄ p (.tail _ hp), off₄, hJ₄⟩
      · obtain rfl : i = n := Nat.le_antisymm hi (Nat.not_lt.mp hlt)
        refine W.done _ _ _ hst' fun h₂ tk₂ hk₂ => ?_
        exact hRR D C h₂ tk₂ m' ys nw (fr_but F' hk₂ hIL hI₀) (keep2 hk₂) (hn'.at' fun o e => hk₂ _ o (by simpa using hIC.symm) e) hC0 hCL hCD (fun p hp => (off' p hp).1) hJ
    · rcases List.mem_cons.mp hp with rfl | hp
      · exact ⟨accD, hDL, hD0⟩
      · exact ⟨old _ _ (N p hp).1, (N p hp).2⟩
  exact codeAny_compStart_list (loop _ rfl) (W.self 0 _ _ _ hst₁ (loop _ rfl))
end
/-- the tuples stand for the points -/
inductive PT : List (Int × Int) → List (Addr × Obj) → Prop
  | nil : PT [] []
  | cons (x y : Int) (t0 t1 : Tok) (n : Nat) (D : Addr) {ps : List (Int × Int)} {ts : List (Addr × Obj)} : PT ps ts → PT ((x, y) :: ps) ((D, tup2 x y t0 t1 n) :: ts)
theorem PT.append : ∀ {ps qs : List (Int × Int)} {ts us : List (Addr × Obj)}, PT ps ts → PT qs us → PT (ps ++ qs) (ts ++ us)
  | _, _, _, _, .nil, h => h
  | _, _, _, _, .cons x y t0 t1 n D r, h => .cons x y t0 t1 n D (r.append h)
theorem PT.length : ∀ {ps : List (Int × Int)} {ts : List (Addr × Obj)}, PT ps ts → ts.length = ps.length
  | _, _, .nil => rfl
  | _, _, .cons _ _ _ _ _ _ r => by rw [List.length_cons, List.length_cons, r.length]
theorem PT.get : ∀ {ps : List (Int × Int)} {ts : List (Addr × Obj)}, PT ps ts → ∀ (i : Nat) (x y : Int), ps[i]? = some (x, y) → ∃ D t0 t1 n, ts[i]? = some (D, tup2 x y t0 t1 n)
  | _, _, .nil, i, x, y, h => by cases h
  | _, _, .cons x' y' t0 t1 n D r, 0, x, y, h => by cases h; exact ⟨D, t0, t1, n, rfl⟩
  | _, _, .cons x' y' t0 t1 n D r, i + 1, x, y, h => r.get i x y h
theorem ints_snoc : ∀ {vs : List Value} {v : Value} {ns : List Int}, IntsAre (vs ++ [v]) ns → ∃ ms k t, ns = ms ++ [k] ∧ v = .int k t ∧ IntsAre vs ms
  | [], v, ns, h => by cases h with | cons n t r => cases r; exact ⟨[], n, t, rfl, rfl, .nil⟩
  | u :: vs, v, ns, h => by
    cases h with
    | cons n t r =>
      obtain ⟨ms, k, t', rfl, rfl, r'⟩ := ints_snoc r
      exact ⟨n :: ms, k, t', rfl, rfl, .cons n t r'⟩
theorem Tups.pt {x : Int} {tx : Tok} {vs : List Value} {ts : List (Addr × Obj)} (h : Tups (.int x tx) vs ts) : ∀ {ns : List Int}, IntsAre vs ns → PT (ns.map fun y => (x, y)) ts := by
  induction h with
  | nil => intro ns hi; cases hi; exact .nil
  | snoc v T n _ ih =>
    intro ns hi
    obtain ⟨ms, k, t, rfl, rfl, r⟩ := ints_snoc hi
    rw [List.map_append]
    exact (ih r).append (.cons x k tx t n T .nil)
def rowU (p b : Int) (n : Nat) (i : Nat) : List (Int × Int) := (ysI p n (((i : Int) * (i : Int) * (i : Int) + b).fmod p)).map fun y => ((i : Int), y)
def ptsU (p b : Int) (n i : Nat) : List (Int × Int) := (List.range i).flatMap (rowU p b n)
theorem ptsU_succ (p b : Int) (n i : Nat) : ptsU p b n (i + 1) = ptsU p b n i ++ rowU p b n i := by
  unfold ptsU; rw [List.range_succ, List.flatMap_append]; simp
theorem pts_U (n : Nat) (b : Int) : pts (n : Int) b = ptsU n b n n := by
  unfold pts ptsU rowU ysI
  simp only [Int.toNat_natCast, List.map_map]
  rfl
theorem ptsU_length (p b : Int) (n : Nat) : ∀ i, (ptsU p b n i).length ≤ i * n
  | 0 => by simp [ptsU]
  | i + 1 => by
    rw [ptsU_succ, List.length_append, Nat.succ_mul]
    have h1 := ptsU_length p b n i
    have h2 : (rowU p b n i).length ≤ n := by unfold rowU; rw [List.length_map]; exact ysI_length _ _ _
    omega
theorem ints_mem {v : Value} : ∀ {vs : List Value} {ns : List Int}, IntsAre vs ns → v ∈ vs → ∃ k t, v = .int k t
  | _, _, .nil, h => by cases h
  | _, _, .cons n t r, h => by
    rcases List.mem_cons.mp h with rfl | h
    · exact ⟨n, t, rfl⟩
    · exact ints_mem r h
local macro_rules | `(tactic| k_lt $h:ident) => `(tactic| skip)
theorem na1 {L d : Nat} (h : L + 1 + 1 + 1 < d) : L < d := by omega
theorem na2 {L : Nat} : L + 1 + 1 ≠ L + 1 + 1 + 1 := by omega
theorem na3 {L : Nat} : L + 1 ≠ L + 1 + 1 + 1 := by omega
theorem na4 {L q : Nat} (h : q < L) : q ≠ L + 1 + 1 + 1 := by omega
theorem c_pts {w : World} {p b : Int} {tp tb : Tok} {news : List (Addr × Obj)} (hp : 1 < p) (hp' : p ≤ 100) (hb : 0 ≤ b ∧ b ≤ 100) :
    At w 10 news fun Ar h₀ L m s => ∀ (Q E : Value → Shared → Prop), RetPts h₀ L m news s Q (pts p b) →
      wpAny (model PySem.Challenge.rw_bw0041_01.row.prog w) Ar (call (.ref 475) [.int p tp, .int b tb]) Q E s := by
  obtain ⟨n, rfl⟩ : ∃ n : Nat, p = (n : Int) := ⟨p.toNat, by omega⟩
  unfold At
  w_top off
  k_fill
  intro p' loose mean mg mb dp un gd cn cs fa ccd cl outer A₀ base h₀ L m s B F KX N T hk hd hu Q E hret
  refine wpAny_call ?_
  k_dflt (refine' code_defC ?k1 ?k2 ?k3 ?k4 ?k5 ?kA ?kF ?kK ?k6 ?k7 ?k8 ?k9 ?kB ?kD ?_ ?c2 ?c3 ?c4; (case kA => exact rfl); (case kF => exact rfl); (case kK => first | exact rfl | assumption); (case k1 => k_asm); (case k2 => k_asm); (case k3 => k_asm); (case k4 => k_asm); (case k5 => k_asm); (case k6 => k_is); (case k7 => k_is); (case k8 => ktr_room); (case k9 => exact BindsTo.of_eq rfl); (case kB => exact rfl); (case kD => decide +kernel); (case c2 => exact rfl); (case c3 => exact rfl); (case c4 => exact rfl); k_whole; intro g' L' h' tk' cells' FG' F' N' Y' B' X' T' l1)
  obtain ⟨oR, oB, oP, hE, dR, dB, dP⟩ := PyProof.Rows.CellsAre.three Y'
  subst hE; clear Y'
  simp only [List.cons_append, List.nil_append] at N'
  replace F' : Fr g' L' h' (fun _ => none) := F'
  replace dR : oR.data = .cell none := dR
  replace dB : oB.data = .cell (some (.int b tb)) := dB
  replace dP : oP.data = .cell (some (.int n tp)) := dP
  dsimp only
  (try k_lift B')
  (try k_fold)
  (repeat' ((fail_if_success (with_reducible show wpAny _ _ (storeName _ _ _) _ _ _)); first | (k_unfold; (try dsimp only)) | (k_end; kc_close) | walk1 | (dsimp only; walk1) | (leave1; walk_say "STEP leave1"; (try dsimp only)) | fail "no step"))
  rename_i d h2 od F2 N2 lt2 lo hs fs hI fi
  have hlt : L' < d := na1 (lt2 _ (List.mem_cons_self))
  k_dflt (refine' storeX_C F2 N2 (c := L' + 1 + 1 + 1) (by rfl) (UpdF.tail ?u1 (UpdF.head ?u2)) dR ?_)
  case u1 => have := lt2 _ (List.mem_cons_self); exact fun e => Nat.ne_of_lt this e.symm
  case u2 =>
    intro q hq
    rcases List.mem_cons.mp hq with rfl | hq
    · exact na2
    rcases List.mem_cons.mp hq with rfl | hq
    · exact na3
    · exact na4 (l1 q hq)
  intro h3 oR' F3 N3 dR'
  (try dsimp only at N3)
  (repeat' ((fail_if_success (with_reducible show wpAny _ _ (exec (Stmt.For _ _ _ _ _) _) _ _ _)); first | (k_unfold; (try dsimp only)) | (k_end; kc_close) | walk1 | (dsimp only; walk1) | (leave1; walk_say "STEP leave1"; (try dsimp only)) | fail "no step"))
  k_dflt (refine' For_invVF F3 ?f1 ?f2 ?_)
  case f1 => exact rfl
  case f2 => exact rfl
  (repeat' ((fail_if_success (with_reducible show wpAny _ _ (pyIter _) _ _ _)); first | (k_unfold; (try dsimp only)) | (k_end; kc_close) | walk1 | (dsimp only; walk1) | (leave1; walk_say "STEP leave1"; (try dsimp only)) | fail "no step"))
  rename_i h4 tk4 t1 u1 v1 rg F4 N4 hk4
  refine tbr_invG (fun i _ nx => ∃ od kvs lists, nx = (d, od) :: (((L' + 1 + 1 + 1, oR') :: (L' + 1 + 1, oB) :: (L' + 1, oP) :: news) ++ lists) ∧ PS PySem.Challenge.rw_bw0041_01.row.prog w n i d od ((L' + 1 + 1 + 1, oR') :: (L' + 1 + 1, oB) :: (L' + 1, oP) :: news) lists [] kvs)
    (by rfl) rg (small_one (by omega) (by omega) (by omega) (by omega)) (by simpa using rangeSize_nat 0 n) F4 N4 ?start ?turn ?done
  case start =>
    refine ⟨od, [], [], by rw [List.append_nil], hI, RI.start _, fun q hq => (nomatch hq), ?_, fun q hq => (nomatch hq)⟩
    intro q hq
    rcases List.mem_cons.mp hq with rfl | hq
    · exact Nat.ne_of_lt (lt2 (L' + 1 + 1 + 1, oR) (List.mem_cons_self))
    · exact Nat.ne_of_lt (lt2 q (.tail _ hq))
  case turn =>
    clear F4 N4 hk4 rg hI hs fs fi F2 N2
    rintro i k t m₁ nx h5 tk5 own hk' hoff ⟨od5, kvs, lists, rfl, PX⟩ F5 N5
    obtain ⟨hki, hin⟩ : k = (i : Int) ∧ i < n := by
      unfold rangeKs at hk'
      rw [List.getElem?_map, Option.map_eq_some_iff] at hk'
      obtain ⟨j, hj, rfl⟩ := hk'
      rw [List.getElem?_eq_some_iff] at hj
      obtain ⟨hl, hj⟩ := hj
      simp at hl hj
      subst hj
      exact ⟨by omega, hl⟩
    subst hki
    clear hk'
    replace F5 : Fr g' L' h5 (fun y => if y = Str.ofString "y" then some (Value.int i t) else m₁ y) := F5
    simp only [List.cons_append, List.append_assoc] at N5
    replace N5 : News g' L' h5 ((d, od5) :: (L' + 1 + 1 + 1, oR') :: (L' + 1 + 1, oB) :: (L' + 1, oP) :: (news ++ (lists ++ own))) := N5
    have PO : PS PySem.Challenge.rw_bw0041_01.row.prog w n i d od5 ((L' + 1 + 1 + 1, oR') :: (L' + 1 + 1, oB) :: (L' + 1, oP) :: news) lists own kvs :=
      ⟨PX.hI, PX.R, PX.S1, PX.S2, fun q hq => ⟨hoff q hq (d, od5) (.head _), fun b hb => hoff q hq b (.tail _ (List.mem_append.mpr (.inl hb))), fun b hb => hoff q hq b (.tail _ (List.mem_append.mpr (.inr hb)))⟩⟩
    (repeat' ((fail_if_success (with_reducible show wpAny _ _ (getMethod _ _ _) _ _ _)); first | (k_unfold; (try dsimp only)) | (k_end; kc_close) | walk1 | (dsimp only; walk1) | (leave1; walk_say "STEP leave1"; (try dsimp only)) | fail "no step"))
    all_goals (try (first | exact Str.ofString "" | exact (0 : Nat) | exact Value.none))
    k_dflt (refine kob_method (knd := PySem.intKind _ _) PySem.F.slot_dict_setdefault PySem.F.type_dict_setdefault N5 (.head _) PX.hI ?_)
    (repeat' ((fail_if_success (with_reducible show wpAny _ _ (call (Value.builtin "dict.setdefault") _) _ _ _)); first | (k_unfold; (try dsimp only)) | (k_end; kc_close) | walk1 | (dsimp only; walk1) | (leave1; walk_say "STEP leave1"; (try dsimp only)) | fail "no step"))
    all_goals (try (first | exact Str.ofString "" | exact (0 : Nat) | exact Value.none))
    rename_i r hr hrb l h6 F6 N6 l6
    k_dflt (refine' sd_any (base := (L' + 1 + 1 + 1, oR') :: (L' + 1 + 1, oB) :: (L' + 1, oP) :: news) (lists := lists) (own := own) F6 N6 lo PO ?hr l6 ?hi ?_)
    case hr => cases hr; rfl
    case hi => omega
    clear F6 N6 l6
    intro a vs n7 others od7 kvs7 h7 tk7 F7 N7 PP
    simp only [List.cons_append] at N7
    (repeat' ((fail_if_success (with_reducible show wpAny _ _ (call (Value.builtin "list.append") _) _ _ _)); first | (k_unfold; (try dsimp only)) | (k_end; kc_close) | walk1 | (dsimp only; walk1) | (leave1; walk_say "STEP leave1"; (try dsimp only)) | fail "no step"))
    all_goals (try (first | exact Str.ofString "" | exact (0 : Nat) | exact Value.none))
    have N7' : News g' L' h7 ((a, PySem.W.listOf vs.toArray n7) :: (d, od7) :: (((L' + 1 + 1 + 1, oR') :: (L' + 1 + 1, oB) :: (L' + 1, oP) :: news) ++ (others ++ own))) := N7
    k_dflt (refine' append_K ?k1 ?k2 ?k3 ?_ ?sz; (case k1 => exact F7); (case k2 => exact N7'); (case k3 => exact Upd.head PP.ne))
    clear N7 N7' F7
    case sz => rw [sizeLine_eq]; have := PP.len; have h100 : vs.toArray.size ≤ 100 := (by rw [List.size_toArray]; omega); exact Nat.le_trans h100 (Nat.le_of_ble_eq_true (by with_unfolding_all rfl))
    intro h8 F8 N8
    rw [List.push_toArray] at N8
    k_steps
    have PF := PP.nxt t (n7 + 1)
    refine ⟨_, _, _, _, (d, od7) :: (((L' + 1 + 1 + 1, oR') :: (L' + 1 + 1, oB) :: (L' + 1, oP) :: news) ++ ((a, listO (vs ++ [.int i t]) (n7 + 1)) :: others)), rfl, F8, N8, ?_, ?_, ?_, od7, kvs7, (a, listO (vs ++ [.int i t]) (n7 + 1)) :: others, rfl, PF.hI, PF.R, PF.S1, PF.S2, fun q hq => (nomatch hq)⟩
    · intro q hq
      rcases List.mem_cons.mp hq with rfl | hq
      · exact .tail _ (.head _)
      rcases List.mem_append.mp hq with hq | hq
      · exact .tail _ (.tail _ (List.mem_append.mpr (.inl hq)))
      rcases List.mem_cons.mp hq with rfl | hq
      · exact .head _
      · exact .tail _ (.tail _ (List.mem_append.mpr (.inr (List.mem_append.mpr (.inl hq)))))
    · intro q hq
      exact .tail _ (.tail _ (List.mem_append.mpr (.inr (List.mem_append.mpr (.inr hq)))))
    · intro q hq b hb
      rcases List.mem_cons.mp hb with rfl | hb
      · exact (PF.O q hq).1
      rcases List.mem_append.mp hb with hb | hb
      · exact (PF.O q hq).2.1 b hb
      · exact (PF.O q hq).2.2 b hb
  case done =>
    clear F4 N4 hk4 rg hI hs fs fi F2 N2
    rintro m₁ nx h5 tk5 ⟨od5, kvs, lists, rfl, PX⟩ F5 N5
    replace F5 : Fr g' L' h5 m₁ := F5
    simp only [List.cons_append] at N5
    replace N5 : News g' L' h5 ((d, od5) :: (L' + 1 + 1 + 1, oR') :: (L' + 1 + 1, oB) :: (L' + 1, oP) :: (news ++ lists)) := N5
    (repeat' ((fail_if_success (with_reducible show wpAny _ _ (eval (PySem.Expr.ListComp _ _ _ _) _) _ _ _)); first | (k_unfold; (try dsimp only)) | (k_end; kc_close) | walk1 | (dsimp only; walk1) | (leave1; walk_say "STEP leave1"; (try dsimp only)) | fail "no step"))
    k_dflt (rw [eval_ListComp]; refine' wpAny_comprehension_free (use := none) ?g1 ?g2 ?g3 ?g4 ?g5 ?_; (case g1 => exact rfl); (case g2 => intro _; rfl); (case g3 => with_unfolding_all rfl); (case g4 => rfl); (case g5 => decide))
    k_dflt (refine (show wpAny _ _ (eval (PySem.Expr.Call _ _ _ _) _) _ _ _ from ?_))
    (repeat' ((fail_if_success (with_reducible show wpAny _ _ (pyIter _) _ _ _)); first | (k_unfold; (try dsimp only)) | (k_end; kc_close) | walk1 | (dsimp only; walk1) | (leave1; walk_say "STEP leave1"; (try dsimp only)) | fail "no step"))
    rename_i h6 tk6 t6 u6 v6 rg6 F6 N6 hk6
    have hlen0 : (0 : Int) ≤ n := by omega
    have hn6 : Builtin.Range.rangeSize 0 (n : Int) 1 = ((n : Nat) : Int) := by simpa using rangeSize_nat 0 n
    refine wpAny_pyIter_range rg6 (small_one (by omega) (by omega) (by omega) (by omega)) ?_
    refine block2 (h₀ := g') (L := L') (m := m₁) (n := n) (news := (d, od5) :: (L' + 1 + 1 + 1, oR') :: (L' + 1 + 1, oB) :: (L' + 1, oP) :: (news ++ lists)) (fun i ys nw => (∀ q ∈ (d, od5) :: (L' + 1 + 1 + 1, oR') :: (L' + 1 + 1, oB) :: (L' + 1, oP) :: (news ++ lists), q ∈ nw) ∧ ∃ ts, ys = ts.map (fun t => Value.ref t.1) ∧ (∀ q ∈ ts, q ∈ nw) ∧ PT (ptsU n b n i) ts)
      (LCg.range_walks (by rfl) 0 n) (fun i h st => ⟨_, st⟩) ?hSt ?hcell (by rfl) (by rfl) ?hst (F6.keeps fun _ _ e => Heap.get?_push_of_some _ e) (N6.grown fun _ _ e => Heap.get?_push_of_some _ e) (Nat.ne_of_lt F6.ns.lt) (next_is_new F6) (fun p hp => Nat.ne_of_lt (Heap.lt_size (N6 p hp).1)) ⟨fun q hq => hq, [], rfl, fun q hq => (nomatch hq), .nil⟩ ?turn2 (fun _ _ => rfl) ?fin
    case hSt =>
      intro i ha hb o st e e'
      have st' : ha.get? _ = some _ := st
      show hb.get? _ = some _
      rw [e', ← e]; exact st'
    case hcell => decide
    case hst =>
      show IsRangeIter _ _ _ _ _
      rw [hn6]; simpa using Heap.get?_push_size _ rfl
    case fin =>
      intro D C h7 tk7 m7 ys nw F7 N7 hn7 hC0 hCL hCD offC hJ
      refine ⟨m7, hn7, fun h8 hs8 => ?_⟩
      have F8 : Fr g' L' h8 m₁ := F7.change hs8 hCL hC0
      have N8 : News g' L' h8 ((D, LCg.lst ys) :: nw) := fun p hp => by
        refine ⟨hs8.extBut _ _ ?_ (N7 p hp).1, (N7 p hp).2⟩
        rcases List.mem_cons.mp hp with rfl | hp
        · exact hCD.symm
        · exact offC p hp
      clear F7 N7 F6 N6 hk6 rg6
      k_steps
      rename_i kF kN kT kX
      obtain ⟨hΛ, ts, rfl, hts, hPT⟩ := hJ
      refine hret D (ts.map fun t => Value.ref t.1) (ts.map fun t => Value.ref t.1).length ts _ _ ?_ ?_ kF ?_
      · rw [List.length_map, hPT.length, pts_U]
      · intro i x y h
        obtain ⟨T, t0, t1, n', e⟩ := hPT.get i x y (by rw [← pts_U]; exact h)
        exact ⟨T, t0, t1, n', by rw [List.getElem?_map, e]; rfl, List.mem_of_getElem? e⟩
      · intro q hq
        refine kN q ?_
        rcases List.mem_cons.mp hq with rfl | hq
        · exact .head _
        rcases List.mem_append.mp hq with hq | hq
        · exact .tail _ (hΛ _ (.tail _ (.tail _ (.tail _ (.tail _ (List.mem_append.mpr (.inl hq)))))))
        · exact .tail _ (hts _ hq)
    case turn2 =>
      intro i v I oI C oC D ys nw m₂ h7 tk7 E' Q' hlt hv hJ hoC hmx F7 N7 offC offD hCD offI hQ
      obtain ⟨t, rfl⟩ := hv
      obtain ⟨hΛ, ts, rfl, hts, hPT⟩ := hJ
      rw [Int.zero_add] at hmx
      have N8 : News g' L' h7 ((I, oI) :: (C, oC) :: (D, LCg.lst (ts.map fun t => Value.ref t.1)) :: (d, od5) :: (L' + 1 + 1 + 1, oR') :: (L' + 1 + 1, oB) :: (L' + 1, oP) :: nw) := fun p hp => by
        rcases List.mem_cons.mp hp with rfl | hp
        · exact N7 _ (.head _)
        rcases List.mem_cons.mp hp with rfl | hp
        · exact N7 _ (.tail _ (.head _))
        rcases List.mem_cons.mp hp with rfl | hp
        · exact N7 _ (.tail _ (.tail _ (.head _)))
        refine N7 p (.tail _ (.tail _ (.tail _ ?_)))
        rcases List.mem_cons.mp hp with rfl | hp
        · exact hΛ _ (.head _)
        rcases List.mem_cons.mp hp with rfl | hp
        · exact hΛ _ (.tail _ (.head _))
        rcases List.mem_cons.mp hp with rfl | hp
        · exact hΛ _ (.tail _ (.tail _ (.head _)))
        rcases List.mem_cons.mp hp with rfl | hp
        · exact hΛ _ (.tail _ (.tail _ (.tail _ (.head _))))
        · exact hp
      clear F6 N6 hk6 rg6
      (repeat' ((fail_if_success (with_reducible show wpAny _ _ (getMethod _ _ _) _ _ _)); first | (k_unfold; (try dsimp only)) | (k_end; kc_close) | walk1 | (dsimp only; walk1) | (leave1; walk_say "STEP leave1"; (try dsimp only)) | fail "no step"))
      k_dflt (refine kdg_method (knd := PySem.intKind _ _) N8 (.tail _ (.tail _ (.tail _ (.head _)))) PX.hI ?_)
      (repeat' ((fail_if_success (with_reducible show wpAny _ _ (call (Value.builtin "dict.get") _) _ _ _)); first | (k_unfold; (try dsimp only)) | (k_end; kc_close) | walk1 | (dsimp only; walk1) | (leave1; walk_say "STEP leave1"; (try dsimp only)) | fail "no step"))
      all_goals (try (first | exact Str.ofString "" | exact (0 : Nat) | exact Value.none))
      rename_i r hr hrb l h8 F8 N9 l9
      have inN : ∀ p ∈ (D, LCg.lst (ts.map fun t => Value.ref t.1)) :: (I, oI) :: nw, p ∈ (l, PySem.W.listOf #[] 0) :: (I, oI) :: (C, oC) :: (D, LCg.lst (ts.map fun t => Value.ref t.1)) :: (d, od5) :: (L' + 1 + 1 + 1, oR') :: (L' + 1 + 1, oB) :: (L' + 1, oP) :: nw := fun p hp => by
        rcases List.mem_cons.mp hp with rfl | hp
        · exact .tail _ (.tail _ (.tail _ (.head _)))
        rcases List.mem_cons.mp hp with rfl | hp
        · exact .tail _ (.head _)
        · exact .tail _ (.tail _ (.tail _ (.tail _ (.tail _ (.tail _ (.tail _ (.tail _ hp)))))))
      obtain ⟨a, its, na, nwX, hval, hints, hmem, hN, hoff, hsub⟩ : ∃ a its na nwX, (valueAt kvs r).getD (Value.ref l) = Value.ref a ∧ IntsAre its (ysI n n r) ∧ (a, listO its na) ∈ nwX ∧
          News g' L' h8 ((D, LCg.lst (ts.map fun t => Value.ref t.1)) :: (I, oI) :: nwX) ∧ (∀ p ∈ nwX, p.1 ≠ C ∧ p.1 ≠ D ∧ p.1 ≠ I) ∧ ∀ q ∈ nw, q ∈ nwX := by
        cases hv : valueAt kvs r with
        | none =>
          refine ⟨l, [], 0, (l, listO [] 0) :: nw, rfl, by rw [PX.R.no r hv]; exact .nil, .head _, fun p hp => ?_, fun p hp => ?_, fun q hq => .tail _ hq⟩
          · rcases List.mem_cons.mp hp with rfl | hp
            · exact N9 _ (inN _ (.head _))
            rcases List.mem_cons.mp hp with rfl | hp
            · exact N9 _ (inN _ (.tail _ (.head _)))
            rcases List.mem_cons.mp hp with rfl | hp
            · exact N9 _ (.head _)
            · exact N9 _ (inN _ (.tail _ (.tail _ hp)))
          · rcases List.mem_cons.mp hp with rfl | hp
            · exact ⟨(Nat.ne_of_lt (l9 (C, oC) (.tail _ (.head _)))).symm, (Nat.ne_of_lt (l9 (D, LCg.lst (ts.map fun t => Value.ref t.1)) (.tail _ (.tail _ (.head _))))).symm, (Nat.ne_of_lt (l9 (I, oI) (.head _))).symm⟩
            · exact ⟨offC p (.tail _ hp), offD p (.tail _ hp), offI p hp⟩
        | some v =>
          obtain ⟨a, vs, n', rfl, hm, hints⟩ := PX.R.yes r v hv
          exact ⟨a, vs, n', nw, rfl, hints, hΛ _ (.tail _ (.tail _ (.tail _ (.tail _ (List.mem_append.mpr (.inr hm)))))), fun p hp => N9 p (inN p hp), fun p hp => ⟨offC p (.tail _ hp), offD p (.tail _ hp), offI p hp⟩, fun q hq => hq⟩
      refine kdg_get2 (knd := PySem.intKind _ _) N9 (.tail _ (.tail _ (.tail _ (.tail _ (.head _))))) PX.hI lo (intKind_is _ _ _ _) _ rfl ?_
      rw [hval]
      k_unfold
      dsimp only
      have hC8 : h8.Ns C m₂ := hoC.ns (N9 (C, oC) (.tail _ (.tail _ (.head _)))).1
      have hC0 := (N9 (C, oC) (.tail _ (.tail _ (.head _)))).2
      cases hr
      refine inner2 (x := Str.ofString "x") (y := Str.ofString "y") (m₀ := m₂) (its := its) (ys := ts.map fun t => Value.ref t.1) (nw := (I, oI) :: nwX) (vx := .int i t) (by rfl) (by rfl) (by rfl) (by decide) ?sz F8 hN hC8 hC0.2 hC0.1 hmx (.tail _ hmem) ?oC ?oD hCD ?telt ?dn
      case sz =>
        have e1 := hPT.length
        have e2 := ptsU_length n b n i
        have e3 := hints.length
        have e4 := ysI_length n n (((i : Int) * i * i + b).fmod n)
        have e5 : i * n ≤ 100 * 100 := Nat.mul_le_mul (by omega) (by omega)
        rw [List.length_map, sizeLine_eq]
        exact Nat.le_trans (show ts.length + its.length ≤ 20000 by omega) (Nat.le_of_ble_eq_true (by with_unfolding_all rfl))
      case oC =>
        intro p hp
        rcases List.mem_cons.mp hp with rfl | hp
        · exact offC _ (.head _)
        · exact (hoff p hp).1
      case oD =>
        intro p hp
        rcases List.mem_cons.mp hp with rfl | hp
        · exact offD _ (.head _)
        · exact (hoff p hp).2.1
      case telt =>
        intro v J oJ oC9 m9 h9 tk9 led Q9 E9 hv9 hoC9 hmx9 hmy9 F9 N9' k9
        obtain ⟨yv, ty, rfl⟩ := ints_mem hints hv9
        clear hQ hoff hN hPT hΛ hts hsub hmem hval hints N9 l9 F8 inN offC offD offI hmx
        k_steps
        rename_i D10 h10 F10 N10 l10
        exact k9 _ _ _ _ F10 N10 l10
      case dn =>
        intro h9 tk9 m9 ts2 F9 hn9 hT9 N9' off9
        refine hQ h9 tk9 _ (ts2 ++ nwX) m9 F9 hn9 (fun p hp => N9' p ?_) (fun p hp => ?_) ⟨fun q hq => List.mem_append.mpr (.inr (hsub q (hΛ q hq))), ts ++ ts2, by rw [List.map_append], fun q hq => ?_, ?_⟩
        · rcases List.mem_cons.mp hp with rfl | hp
          · exact .tail _ (List.mem_append.mpr (.inr (.head _)))
          rcases List.mem_cons.mp hp with rfl | hp
          · exact .head _
          rcases List.mem_append.mp hp with hp | hp
          · exact .tail _ (List.mem_append.mpr (.inl hp))
          · exact .tail _ (List.mem_append.mpr (.inr (.tail _ hp)))
        · rcases List.mem_append.mp hp with hp | hp
          · exact ⟨(off9 p hp).1, (off9 p hp).2.1, ((off9 p hp).2.2 (I, oI) (.head _)).symm⟩
          · exact hoff p hp
        · rcases List.mem_append.mp hq with hq | hq
          · exact List.mem_append.mpr (.inr (hsub q (hts q hq)))
          · exact List.mem_append.mpr (.inl hq)
        · rw [ptsU_succ]
          exact hPT.append (hT9.pt hints)
local macro_rules | `(tactic| kct_strs) => `(tactic| (k_here; (with_reducible show wpAny _ _ (call (Value.ref 475) _) _ _ _); k_dflt (refine' (At.use (c_pts ?ch0 ?ch1 ?ch2) ?kB ?kF ?kK ?kN ?kT ?kk ?kd ?ku) _ _ ?_; (case kB => k_asm); (case kF => k_asm); (case kK => k_asm); (case kN => k_asm); (case kT => k_asm); (case kk => first | exact rfl | assumption); (case ch0 => omega); (case ch1 => omega); (case ch2 => omega); (case kd => ktr_room); (case ku => ktr_units); intro _ _ _ _ _ _ _ _ _ hPts); (simp only [List.cons_append, List.nil_append] at hPts); (try dsimp only); (try k_fold))) --KEEP
end
local macro_rules | `(tactic| kct_strs) => `(tactic| (k_here; (with_reducible show wpAny _ _ (call (Value.ref 475) _) _ _ _); k_dflt (refine' (At.use (c_pts ?ch0 ?ch1 ?ch2) ?kB ?kF ?kK ?kN ?kT ?kk ?kd ?ku) _ _ ?_; (case kB => k_asm); (case kF => k_asm); (case kK => k_asm); (case kN => k_asm); (case kT => k_asm); (case kk => first | exact rfl | assumption); (case ch0 => omega); (case ch1 => omega); (case ch2 => omega); (case kd => ktr_room); (case ku => ktr_units); intro _ _ _ _ _ _ _ _ _ hPts); (simp only [List.cons_append, List.nil_append] at hPts); (try dsimp only); (try k_fold))) --KEEP
section
local macro_rules | `(tactic| k_lt $h:ident) => `(tactic| clear $h)
local macro_rules | `(tactic| walk_at "ite") => `(tactic| (k_here; first | (refine PySem.W.ite_neg (by simp only [bne_iff_ne, ne_eq, beq_iff_eq, decide_eq_true_eq, Decidable.not_not]; omega) ?_) | (refine PySem.W.ite_pos (by simp only [bne_iff_ne, ne_eq, beq_iff_eq, decide_eq_true_eq, Decidable.not_not]; omega) ?_)))
local macro_rules | `(tactic| walk_at "call type:tuple") => `(tactic| (k_here; (with_reducible show wpAny _ _ (call (Value.type _) [Value.ref _]) _ _ _); k_dflt (refine' call_tuple_tup ?k1 ?_; (case k1 => exact News.isTup (by k_asm) (by k_mem)); k_whole)))
theorem weak6 {h₀ h : Heap} {L : Addr} {m : Str → Option Value} {news : List (Addr × Obj)} {G : Prop} {D1 D2 D3 D4 D5 D6 : Addr} {a1 b1 a2 b2 a3 b3 a4 b4 P1 N1 A1 B1 X1 Y1 P2 N2 A2 B2 X2 Y2 : Int} {t1 t2 t3 t4 t5 t6 t7 t8 u0 u1 u2 u3 u4 u5 v0 v1 v2 v3 v4 v5 : Tok} {n1 n2 n3 n4 n5 n6 : Nat}
    (_ : Fr h₀ L h m) (N : News h₀ L h news) (_ : m (Str.ofString "one") = some (.ref D1)) (_ : m (Str.ofString "other") = some (.ref D2)) (_ : m (Str.ofString "first") = some (.ref D3)) (_ : m (Str.ofString "second") = some (.ref D4)) (_ : m (Str.ofString "here") = some (.ref D5)) (_ : m (Str.ofString "there") = some (.ref D6))
    (h1 : (D1, tup2 a1 b1 t1 t2 n1) ∈ news) (h2 : (D2, tup2 a2 b2 t3 t4 n2) ∈ news) (h3 : (D3, tup2 a3 b3 t5 t6 n3) ∈ news) (h4 : (D4, tup2 a4 b4 t7 t8 n4) ∈ news) (h5 : (D5, tup6 P1 N1 A1 B1 X1 Y1 u0 u1 u2 u3 u4 u5 n5) ∈ news) (h6 : (D6, tup6 P2 N2 A2 B2 X2 Y2 v0 v1 v2 v3 v4 v5 n6) ∈ news)
    (k : News h₀ L h [(D1, tup2 a1 b1 t1 t2 n1), (D2, tup2 a2 b2 t3 t4 n2), (D3, tup2 a3 b3 t5 t6 n3), (D4, tup2 a4 b4 t7 t8 n4), (D5, tup6 P1 N1 A1 B1 X1 Y1 u0 u1 u2 u3 u4 u5 n5), (D6, tup6 P2 N2 A2 B2 X2 Y2 v0 v1 v2 v3 v4 v5 n6)] → G) : G := by
  refine k (news_sub N fun p hp => ?_)
  simp only [List.mem_cons, List.not_mem_nil, or_false] at hp
  rcases hp with rfl | rfl | rfl | rfl | rfl | rfl <;> assumption
local macro_rules | `(tactic| walk_at "exec If") => `(tactic| (k_here; (with_reducible show wpAny _ _ (exec (Stmt.If (Expr.Compare (Expr.Name (Str.ofString "way") _) [CmpOp.Eq] [Expr.Constant (Const.int 0) _ _] _) _ _ _) _) _ _ _); (rename Fr _ _ _ _ => lF'); (rename News _ _ _ _ => lN'); (fail_if_success (have := (show News _ _ _ [_, _, _, _, _, _] from lN'))); k_dflt (refine' weak6 lF' lN' ?e1 ?e2 ?e3 ?e4 ?e5 ?e6 ?h1 ?h2 ?h3 ?h4 ?h5 ?h6 ?_; (case e1 => exact rfl); (case e2 => exact rfl); (case e3 => exact rfl); (case e4 => exact rfl); (case e5 => exact rfl); (case e6 => exact rfl); (case h1 => k_mem); (case h2 => k_mem); (case h3 => k_mem); (case h4 => k_mem); (case h5 => k_mem); (case h6 => k_mem)); (clear lN'); (intro N')))
local macro_rules | `(tactic| kct_strs) => `(tactic| (k_here; (with_reducible show wpAny _ _ (call (Value.ref 463) _) _ _ _); refine wpAny_call ?_; k_dflt (refine' code_def ?k1 ?k2 ?k3 ?k4 ?k5 ?kA ?kF ?kK ?k6 ?k7 ?k8 ?k9 ?kB ?_ ?c2 ?c3 ?c4 ?c5; (case kA => exact rfl); (case kF => exact rfl); (case kK => first | exact rfl | assumption); (case k1 => k_asm); (case k2 => k_asm); (case k3 => k_asm); (case k4 => k_asm); (case k5 => k_asm); (case k6 => k_is); (case k7 => k_is); (case k8 => ktr_room); (case k9 => exact BindsTo.of_eq rfl); (case c5 => decide); (case kB => exact locs rfl); (case c2 => exact rfl); (case c3 => exact rfl); (case c4 => exact rfl); k_whole; intro g' L' h' FG' F' N' B' X' T'; (try (replace F' : Fr _ _ _ (fun y => List.lookup y []) := F')); (try dsimp only); (try k_lift B'); (try k_fold))))
theorem law_holds : PySem.Challenge.rw_bw0041_01.Holds := by
  refine Mine.hd ?_
  w_top off
  w_strict k_go0
  all_goals try k_fold
  k_steps
end
end Mine
theorem PySem.Challenge.cw_bw0041_01_holds : PySem.Challenge.rw_bw0041_01.Holds := by
  exact Mine.law_holds

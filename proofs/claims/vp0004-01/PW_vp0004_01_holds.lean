import PyProof.Rows.All
import Wide.All
import OpenK.AllK
import Wide.FinOn
import PySem.Challenge.RW_vp0004_01
open PySem PySem.W PySem.Calls PyProof.Rows
set_option Elab.async false
set_option maxRecDepth 100000
set_option linter.all false
set_option maxHeartbeats 4000000
namespace Mine
open_top hd for PySem.Challenge.rw_vp0004_01

theorem reset1 : True := by w_top off; trivial

section
local macro_rules | `(tactic| walk_at "pad part 1 0") => `(tactic| skip)
local macro_rules | `(tactic| walk_at "pad part 1 1") => `(tactic| skip)
local macro_rules | `(tactic| walk_at "pad part 1 2") => `(tactic| skip)
local macro_rules | `(tactic| walk_at "pad part 1 3") => `(tactic| skip)
local macro_rules | `(tactic| walk_at "pad part 1 4") => `(tactic| skip)
local macro_rules | `(tactic| walk_at "pad part 1 5") => `(tactic| skip)
local macro_rules | `(tactic| walk_at "pad part 1 6") => `(tactic| skip)
local macro_rules | `(tactic| walk_at "pad part 1 7") => `(tactic| skip)
local macro_rules | `(tactic| walk_at "pad part 1 8") => `(tactic| skip)
local macro_rules | `(tactic| walk_at "pad part 1 9") => `(tactic| skip)
local macro_rules | `(tactic| walk_at "pad part 1 10") => `(tactic| skip)
local macro_rules | `(tactic| walk_at "pad part 1 11") => `(tactic| skip)
local macro_rules | `(tactic| walk_at "pad part 1 12") => `(tactic| skip)
local macro_rules | `(tactic| walk_at "pad part 1 13") => `(tactic| skip)
local macro_rules | `(tactic| walk_at "pad part 1 14") => `(tactic| skip)
local macro_rules | `(tactic| walk_at "pad part 1 15") => `(tactic| skip)
local macro_rules | `(tactic| walk_at "pad part 1 16") => `(tactic| skip)
local macro_rules | `(tactic| walk_at "pad part 1 17") => `(tactic| skip)
local macro_rules | `(tactic| walk_at "pad part 1 18") => `(tactic| skip)
local macro_rules | `(tactic| walk_at "pad part 1 19") => `(tactic| skip)
local macro_rules | `(tactic| walk_at "pad part 1 20") => `(tactic| skip)
local macro_rules | `(tactic| walk_at "pad part 1 21") => `(tactic| skip)
local macro_rules | `(tactic| walk_at "pad part 1 22") => `(tactic| skip)
local macro_rules | `(tactic| walk_at "pad part 1 23") => `(tactic| skip)
local macro_rules | `(tactic| walk_at "pad part 1 24") => `(tactic| skip)
local macro_rules | `(tactic| walk_at "pad part 1 25") => `(tactic| skip)
local macro_rules | `(tactic| walk_at "pad part 1 26") => `(tactic| skip)
local macro_rules | `(tactic| walk_at "pad part 1 27") => `(tactic| skip)
local macro_rules | `(tactic| walk_at "pad part 1 28") => `(tactic| skip)
local macro_rules | `(tactic| walk_at "pad part 1 29") => `(tactic| skip)
local macro_rules | `(tactic| walk_at "pad part 1 30") => `(tactic| skip)
local macro_rules | `(tactic| walk_at "pad part 1 31") => `(tactic| skip)
local macro_rules | `(tactic| walk_at "pad part 1 32") => `(tactic| skip)
local macro_rules | `(tactic| walk_at "pad part 1 33") => `(tactic| skip)
local macro_rules | `(tactic| walk_at "pad part 1 34") => `(tactic| skip)
local macro_rules | `(tactic| walk_at "pad part 1 35") => `(tactic| skip)
local macro_rules | `(tactic| walk_at "pad part 1 36") => `(tactic| skip)
local macro_rules | `(tactic| walk_at "pad part 1 37") => `(tactic| skip)
local macro_rules | `(tactic| walk_at "pad part 1 38") => `(tactic| skip)
local macro_rules | `(tactic| walk_at "pad part 1 39") => `(tactic| skip)
abbrev Led := List (Addr × Obj)
abbrev Rets := Heap → Addr → (Str → Option Value) → Shared → (Value → Shared → Prop) → Prop
def ClK (f n : Nat) (vs : List Value) (kw : List (Str × Value)) (news : Led) (Ret : Rets) : Prop :=
  ∀ (w : World) (s₀ : Shared) (mg mb : Str → Option Value) (dp un : Nat) (gd : Option (List Code)) (cn : Str) (cs : Scope) (a : Addr) (ccd : Value) (cl : List (Str × Addr)) (outer : List Env) (A₀ : Around) (base h₀ : Heap) (L : Addr) (m : Str → Option Value) (s : Shared) (Q E : Value → Shared → Prop),
    Below A₀ base outer h₀ → Fr h₀ L s.heap m → (hd.heap_39 w.params).In h₀ → News h₀ L s.heap news →
    Top hd.view_39 (looseW hd.view_39 [Str.ofString "legal_date_gregorian", Str.ofString "to_jd_gregorian", Str.ofString "legal_date_julian",
      Str.ofString "to_jd_julian", Str.ofString "easter", Str.ofString "_easter_julian"]) (ExcName.means s₀.heap) mg mb h₀ →
    cs.kind = .function → dp + n < recursionLimit → un + 8 * n < cLine → Ret h₀ L m s Q →
    wpAny (model PySem.Challenge.rw_vp0004_01.row.prog w) (ktrTop dp un gd cn cs L a ccd cl outer) (call (.ref f) vs kw) Q E s
abbrev Cl (f n : Nat) (vs : List Value) (news : Led) (Ret : Rets) : Prop := ClK f n vs [] news Ret
def RetI (news : Led) (P : Int → Prop) : Rets := fun h₀ L m s Q =>
  ∀ (x : Int) (t : Tok) (h' : Heap) (tk' : Nat), P x → Fr h₀ L h' m → News h₀ L h' news → Q (.int x t) { s with heap := h', toks := tk' }
def RetB (news : Led) (P : Bool → Prop) : Rets := fun h₀ L m s Q =>
  ∀ (x : Bool) (h' : Heap) (tk' : Nat), P x → Fr h₀ L h' m → News h₀ L h' news → Q (.bool x) { s with heap := h', toks := tk' }
def RetT (news : Led) (P : Int → Int → Int → Prop) : Rets := fun h₀ L m s Q =>
  ∀ (x y z : Int) (D : Addr) (t1 t2 t3 : Tok) (c : Nat) (h' : Heap) (tk' : Nat), P x y z → Fr h₀ L h' m →
    News h₀ L h' ((D, { cls := .type "tuple", data := .seq #[.int x t1, .int y t2, .int z t3] c }) :: news) → AllLt D news → Q (.ref D) { s with heap := h', toks := tk' }
theorem use_cl {f n : Nat} {vs : List Value} {kw : List (Str × Value)} {news : Led} {Ret : Rets} {w : World} {s₀ : Shared} {mg mb : Str → Option Value} {dp un : Nat} {gd : Option (List Code)} {cn : Str} {cs : Scope} {a : Addr} {ccd : Value} {cl : List (Str × Addr)} {outer : List Env} {A₀ : Around} {base h₀ : Heap} {L : Addr} {m : Str → Option Value} {s : Shared} {Q E : Value → Shared → Prop}
    (C : ClK f n vs kw news Ret) (B : Below A₀ base outer h₀) (F : Fr h₀ L s.heap m) (X : (hd.heap_39 w.params).In h₀) (N : News h₀ L s.heap news)
    (T : Top hd.view_39 (looseW hd.view_39 [Str.ofString "legal_date_gregorian", Str.ofString "to_jd_gregorian", Str.ofString "legal_date_julian",
      Str.ofString "to_jd_julian", Str.ofString "easter", Str.ofString "_easter_julian"]) (ExcName.means s₀.heap) mg mb h₀)
    (hk : cs.kind = .function) (hdp : dp + n < recursionLimit) (hun : un + 8 * n < cLine) (ret : Ret h₀ L m s Q) :
    wpAny (model PySem.Challenge.rw_vp0004_01.row.prog w) (ktrTop dp un gd cn cs L a ccd cl outer) (call (.ref f) vs kw) Q E s := C _ _ _ _ _ _ _ _ _ _ _ _ _ _ _ _ _ _ _ _ _ B F X N T hk hdp hun ret

theorem allLt_r {P : Prop} {D : Nat} {news : Led} (h : P ∧ AllLt D news) : AllLt D news := h.2
theorem allLt_r2 {P P' : Prop} {D : Nat} {news : Led} (h : P ∧ P' ∧ AllLt D news) : AllLt D news := h.2.2
theorem sub_refl (l : Led) : ∀ p ∈ l, p ∈ l := fun _ h => h
theorem sub_cons {a : Addr × Obj} {l l' : Led} (h : ∀ p ∈ l, p ∈ l') : ∀ p ∈ a :: l, p ∈ a :: l' := fun p hp => (List.mem_cons.mp hp).elim (fun e => e ▸ List.mem_cons_self) (fun q => List.mem_cons_of_mem _ (h p q))
theorem sub_skip {a : Addr × Obj} {l l' : Led} (h : ∀ p ∈ l, p ∈ l') : ∀ p ∈ l, p ∈ a :: l' := fun p hp => List.mem_cons_of_mem _ (h p hp)
theorem sub_app {l l' own : Led} (h : ∀ p ∈ l, p ∈ l') : ∀ p ∈ l, p ∈ own ++ l' := fun p hp => List.mem_append.mpr (.inr (h p hp))
theorem allLt_sub {D : Nat} {l l' : Led} (h : AllLt D l') (hs : ∀ p ∈ l, p ∈ l') : AllLt D l := allLt_of fun p hp => ktn_ltOf h p (hs p hp)
theorem mem_of_news {h₀ h : Heap} {L : Addr} {p : Addr × Obj} {news : Led} (_N : News h₀ L h (p :: news)) : p ∈ p :: news := List.mem_cons_self
theorem trunc_same {a b : Int} (hb : 0 < b) (h : (decide (a < 0) == decide (b < 0)) = true) : (0 ≤ a → (if a < 0 then -a else a).fdiv (if b < 0 then -b else b) = a / b) ∧ (a < 0 → (if a < 0 then -a else a).fdiv (if b < 0 then -b else b) = - ((-a) / b)) := by
  have e : ¬ b < 0 := by omega
  rw [if_neg e]
  by_cases ha : a < 0
  · simp [ha, e] at h
  · rw [if_neg ha]
    exact ⟨fun _ => Int.fdiv_eq_ediv_of_nonneg _ (by omega), fun h => absurd h ha⟩
theorem trunc_other {a b : Int} (hb : 0 < b) (h : (decide (a < 0) == decide (b < 0)) = false) : (0 ≤ a → -(if a < 0 then -a else a).fdiv (if b < 0 then -b else b) = a / b) ∧ (a < 0 → -(if a < 0 then -a else a).fdiv (if b < 0 then -b else b) = - ((-a) / b)) := by
  have e : ¬ b < 0 := by omega
  rw [if_neg e]
  by_cases ha : a < 0
  · rw [if_pos ha]
    exact ⟨fun h => by omega, fun _ => by rw [Int.fdiv_eq_ediv_of_nonneg _ (by omega)]⟩
  · simp [ha, e] at h

local macro_rules | `(tactic| walk_at "binaryOp FloorDiv int int") => `(tactic| ((with_reducible show wpAny _ _ (binaryOp _ (Value.int (ite _ _ _) _) (Value.int (ite _ _ _) _)) _ _ _); (with_reducible refine floordiv_int (by split <;> omega) ?_ (Or.inl (PyProof.noPylong_small (by split <;> omega))))))
theorem trunc_cl (news : Led) (a b : Int) (ta tb : Tok) (hb : 0 < b) (hb' : b < 1073741824) : Cl 28 1 [.int a ta, .int b tb] news (RetI news (fun x => (0 ≤ a → x = a / b) ∧ (a < 0 → x = - ((-a) / b)))) := by
  unfold Cl ClK RetI
  k_fill
  intro w s₀ mg mb dp un gd cn cs a ccd cl outer A₀ base h₀ L m s Q E B F X N T hk hdp hun hret
  refine wpAny_call ?_
  k_dflt cell_enter
  k_steps
  all_goals refine hret _ _ _ _ ?_ (by k_asm) (by k_asm)
  · exact trunc_same hb (by assumption)
  · exact trunc_other hb (by assumption)

def leapG (y : Int) : Bool := decide (y % 4 = 0) && (decide (y % 100 ≠ 0) || decide (y % 400 = 0))
def leapJ (y : Int) : Bool := decide (y % 4 = 0)
theorem fm4 (y : Int) : y.fmod 4 = y % 4 := Int.fmod_eq_emod_of_nonneg _ (by decide)
theorem fm100 (y : Int) : y.fmod 100 = y % 100 := Int.fmod_eq_emod_of_nonneg _ (by decide)
theorem fm400 (y : Int) : y.fmod 400 = y % 400 := Int.fmod_eq_emod_of_nonneg _ (by decide)
theorem leapG1 {y : Int} (h : y.fmod 4 = 0) (h' : y.fmod 100 ≠ 0) : (y.fmod 100 != 0) = leapG y := by
  rw [fm4] at h; rw [fm100] at h'; simp [leapG, fm100, h, h']
theorem leapG2 {y : Int} (h : y.fmod 4 = 0) (h' : y.fmod 100 = 0) : (y.fmod 400 == 0) = leapG y := by
  rw [fm4] at h; rw [fm100] at h'; rw [Bool.eq_iff_iff]; simp [leapG, fm400, h, h']
theorem leapG3 {y : Int} (h : y.fmod 4 ≠ 0) : (y.fmod 4 == 0) = leapG y := by
  rw [fm4] at h; simp [leapG, fm4, h]
theorem leapJ1 (y : Int) : (y.fmod 4 == 0) = leapJ y := by
  rw [Bool.eq_iff_iff]; simp [leapJ, fm4]
theorem isleap_cl (news : Led) (y : Int) (t : Tok) : Cl 21 1 [.int y t] news (RetB news (fun x => x = leapG y)) := by
  unfold Cl ClK RetB
  k_fill
  intro w s₀ mg mb dp un gd cn cs a ccd cl outer A₀ base h₀ L m s Q E B F X N T hk hdp hun hret
  refine wpAny_call ?_
  k_dflt cell_enter
  k_steps
  all_goals refine hret _ _ _ ?_ (by k_asm) (by k_asm)
  · exact leapG1 (by assumption) (by assumption)
  · exact leapG2 (by assumption) (by assumption)
  · exact leapG3 (by assumption)
theorem leap_cl (news : Led) (y : Int) (t : Tok) : Cl 58 1 [.int y t] news (RetB news (fun x => x = leapJ y)) := by
  unfold Cl ClK RetB
  k_fill
  intro w s₀ mg mb dp un gd cn cs a ccd cl outer A₀ base h₀ L m s Q E B F X N T hk hdp hun hret
  refine wpAny_call ?_
  k_dflt cell_enter
  k_steps
  all_goals refine hret _ _ _ ?_ (by k_asm) (by k_asm)
  exact leapJ1 _

end
theorem reset2 : True := by w_top off; trivial

section

theorem ite_beqT {a b : Int} {p q : Prop} (h : a = b) (hp : p) : if (a == b) = true then p else q := by rw [if_pos (by simp [h])]; exact hp
theorem ite_beqF {a b : Int} {p q : Prop} (h : a ≠ b) (hq : q) : if (a == b) = true then p else q := by rw [if_neg (by simp [h])]; exact hq
theorem ite_bneT {a b : Int} {p q : Prop} (h : a ≠ b) (hp : p) : if (a != b) = true then p else q := by rw [if_pos (by simp [h])]; exact hp
theorem ite_bneF {a b : Int} {p q : Prop} (h : a = b) (hq : q) : if (a != b) = true then p else q := by rw [if_neg (by simp [h])]; exact hq
theorem ite_decT {c : Prop} [Decidable c] {p q : Prop} (h : c) (hp : p) : if (decide c) = true then p else q := by rw [if_pos (by simp [h])]; exact hp
theorem ite_decF {c : Prop} [Decidable c] {p q : Prop} (h : ¬ c) (hq : q) : if (decide c) = true then p else q := by rw [if_neg (by simp [h])]; exact hq
theorem fdivE {prog : Program} {w : World} {A : Around} {E : Value → Shared → Prop} {s : Shared} {a b : Int} {t u : Tok} {Q : Value → Shared → Prop} (hb : 0 < b) (hb' : b < 1073741824) (h : Q (.int (a / b) s.toks) { s with toks := s.toks + 1 }) :
    wpAny (model prog w) A (binaryOp .FloorDiv (.int a t) (.int b u)) Q E s :=
  floordiv_int (by omega) (by rw [Int.fdiv_eq_ediv_of_nonneg a (by omega)]; exact h) (Or.inl (PyProof.noPylong_small (by omega)))
theorem fmodE {prog : Program} {w : World} {A : Around} {E : Value → Shared → Prop} {s : Shared} {a b : Int} {t u : Tok} {Q : Value → Shared → Prop} (hb : 0 < b) (h : Q (.int (a % b) s.toks) { s with toks := s.toks + 1 }) :
    wpAny (model prog w) A (binaryOp .Mod (.int a t) (.int b u)) Q E s :=
  mod_int' (by omega) (by rw [Int.fmod_eq_emod_of_nonneg a (by omega)]; exact h)
def mlen (leap : Bool) (m : Int) : Int := if m = 2 then (if leap = true then 29 else 28) else if m = 4 ∨ m = 6 ∨ m = 9 ∨ m = 11 then 30 else 31
theorem mlen_cases {lp : Bool} {m d : Int} (h : d ≤ mlen lp m) : (m = 2 ∧ lp = true ∧ d ≤ 29) ∨ (m = 2 ∧ lp = false ∧ d ≤ 28) ∨ (m ≠ 2 ∧ (m = 4 ∨ m = 6 ∨ m = 9 ∨ m = 11) ∧ d ≤ 30) ∨ (m ≠ 2 ∧ ¬ (m = 4 ∨ m = 6 ∨ m = 9 ∨ m = 11) ∧ d ≤ 31) := by
  unfold mlen at h
  split at h
  · rename_i h2
    cases lp
    · exact .inr (.inl ⟨h2, rfl, h⟩)
    · exact .inl ⟨h2, rfl, h⟩
  · split at h
    · rename_i h2 h3
      exact .inr (.inr (.inl ⟨h2, h3, h⟩))
    · rename_i h2 h3
      exact .inr (.inr (.inr ⟨h2, h3, h⟩))
theorem in_K4 {w : World} {h₀ : Heap} {L : Addr} {m : Str → Option Value} {s : Shared} {A : Around} {E : Value → Shared → Prop} {x : Int} {u : Tok} {Q : Value → Shared → Prop} {a : Nat} {t1 t2 t3 t4 : Tok}
    (X : (hd.heap_39 w.params).In h₀) (F : Fr h₀ L s.heap m) (e : (hd.heap_39 w.params).lookup a = some { cls := Value.type "tuple", data := Data.seq #[Value.int 4 t1, Value.int 6 t2, Value.int 9 t3, Value.int 11 t4] })
    (h1 : (x = 4 ∨ x = 6 ∨ x = 9 ∨ x = 11) → Q (.bool true) s) (h2 : ¬ (x = 4 ∨ x = 6 ∨ x = 9 ∨ x = 11) → Q (.bool false) s) :
    wpAny (model PySem.Challenge.rw_vp0004_01.row.prog w) A (compareOp .In (.int x u) (.ref a)) Q E s := by
  refine in_tuple_ints (ns := [4, 6, 9, 11]) ⟨_, F.keep _ _ (X _ _ e), rfl, _, rfl⟩ (.cons _ _ (.cons _ _ (.cons _ _ (.cons _ _ .nil)))) ?_
  by_cases h : x = 4 ∨ x = 6 ∨ x = 9 ∨ x = 11
  · have e : ([4, 6, 9, 11] : List Int).any (· == x) = true := by rcases h with h | h | h | h <;> subst h <;> rfl
    rw [e]; exact h1 h
  · have e : ([4, 6, 9, 11] : List Int).any (· == x) = false := by
      simp only [List.any_cons, List.any_nil, Bool.or_false, Bool.or_eq_false_iff, beq_eq_false_iff_ne]; omega
    rw [e]; exact h2 h
local macro_rules | `(tactic| walk_at "eval Call") => `(tactic| (k_here; (with_reducible show wpAny _ _ (eval (Expr.Call (Expr.Name _ _) _ [] _) _) _ _ _); k_dflt (refine Call_ ?_)))
local macro_rules | `(tactic| walk_at "ite") => `(tactic| (k_here; first | (with_reducible refine ite_beqT (by omega) ?_) | (with_reducible refine ite_beqF (by omega) ?_) | (with_reducible refine ite_bneT (by omega) ?_) | (with_reducible refine ite_bneF (by omega) ?_) | (with_reducible refine ite_decT (by omega) ?_) | (with_reducible refine ite_decF (by omega) ?_)))
local macro_rules | `(tactic| walk_at "binaryOp FloorDiv int int") => `(tactic| (with_reducible refine fdivE (by omega) (by omega) ?_))
local macro_rules | `(tactic| walk_at "binaryOp Mod int int") => `(tactic| (with_reducible refine fmodE (by omega) ?_))
local macro_rules | `(tactic| walk_at "compareOp In int ref") => `(tactic| (k_here; k_dflt (refine' in_K4 ?k1 ?k2 ?k3 ?_ ?_; (case k1 => k_asm); (case k2 => k_asm); (case k3 => with_unfolding_all rfl)); all_goals (intro h9; (try ((exfalso; omega); done)))))
local macro_rules | `(tactic| walk_at "call ref") => `(tactic| (k_here; k_dflt (refine' use_cl (isleap_cl _ _ _) ?k1 ?k2 ?k3 ?k4 ?k5 ?kK ?kd ?ku ?_; (case k1 => k_asm); (case k2 => k_asm); (case k3 => k_asm); (case k4 => k_asm); (case k5 => k_asm); (case kK => first | exact rfl | assumption); (case kd => ktr_room); (case ku => ktr_units); (unfold RetB; intro x h' tk' hx F9 N9; (try dsimp only at hx); (rename (leapG _ = _) => hl9); rw [hl9] at hx; subst hx; (try dsimp only); (try k_fold)))))
theorem legal_g_cl (news : Led) (y m d : Int) (t t' t'' : Tok) (hl0 : 0 < d) (hl : d ≤ mlen (leapG y) m) : Cl 36 2 [.int y t, .int m t', .int d t''] news (RetB news (fun x => x = true)) := by
  have hm := mlen_cases hl
  clear hl
  (try unfold Cl); unfold ClK RetB
  k_fill
  intro w s₀ mg mb dp un gd cn cs a ccd cl outer A₀ base h₀ L M s Q E B F X N T hk hdp hun hret
  refine wpAny_call ?_
  k_dflt cell_enter
  rcases hm with ⟨h2, hl, hd⟩ | ⟨h2, hl, hd⟩ | ⟨h2, hl, hd⟩ | ⟨h2, hl, hd⟩
  all_goals k_steps
  all_goals exact hret _ _ _ rfl (by k_asm) (by k_asm)

local macro_rules | `(tactic| walk_at "call ref") => `(tactic| (k_here; k_dflt (refine' use_cl (legal_g_cl _ _ _ _ _ _ _ ?p1 ?p2) ?k1 ?k2 ?k3 ?k4 ?k5 ?kK ?kd ?ku ?_; (case k1 => k_asm); (case k2 => k_asm); (case k3 => k_asm); (case k4 => k_asm); (case k5 => k_asm); (case kK => first | exact rfl | assumption); (case kd => ktr_room); (case ku => ktr_units); (case p1 => first | assumption | omega); (case p2 => first | assumption | omega); (unfold RetB; intro x h' tk' hx F9 N9; (try dsimp only at hx); subst hx; (try dsimp only); (try k_fold)))))
def gJD (y m d : Int) : Int := 1721425 + 365 * (y - 1) + (y - 1) / 4 - (y - 1) / 100 + (y - 1) / 400 + ((367 * m - 362) / 12 + (if m ≤ 2 then 0 else if leapG y = true then -1 else -2) + d)
theorem to_jd_g_cl (news : Led) (y m d : Int) (t t' t'' : Tok) (hl0 : 0 < d) (hl : d ≤ mlen (leapG y) m) : Cl 43 3 [.int y t, .int m t', .int d t''] news (RetI news (fun x => x = gJD y m d)) := by
  obtain ⟨lp, hlp⟩ : ∃ lp, leapG y = lp := ⟨_, rfl⟩
  have hc : m ≤ 2 ∨ ¬ m ≤ 2 := Decidable.em _
  (try unfold Cl); unfold ClK RetI
  k_fill
  intro w s₀ mg mb dp un gd cn cs a ccd cl outer A₀ base h₀ L M s Q E B F X N T hk hdp hun hret
  refine wpAny_call ?_
  k_dflt cell_enter
  rcases hc with hc | hc <;> cases lp
  all_goals k_steps
  all_goals refine hret _ _ _ _ ?_ (by k_asm) (by k_asm)
  all_goals first
    | (simp only [gJD, if_pos hc]; omega)
    | ((rename (leapG _ = _) => hq); simp only [gJD, if_neg hc, hq, if_true, Bool.false_eq_true, if_false]; omega)

end
theorem reset3 : True := by w_top off; trivial

section
local macro_rules | `(tactic| walk_at "pad part 3 0") => `(tactic| skip)
local macro_rules | `(tactic| walk_at "pad part 3 1") => `(tactic| skip)
local macro_rules | `(tactic| walk_at "pad part 3 2") => `(tactic| skip)
local macro_rules | `(tactic| walk_at "pad part 3 3") => `(tactic| skip)
local macro_rules | `(tactic| walk_at "pad part 3 4") => `(tactic| skip)
local macro_rules | `(tactic| walk_at "pad part 3 5") => `(tactic| skip)
local macro_rules | `(tactic| walk_at "pad part 3 6") => `(tactic| skip)
local macro_rules | `(tactic| walk_at "pad part 3 7") => `(tactic| skip)
local macro_rules | `(tactic| walk_at "pad part 3 8") => `(tactic| skip)
local macro_rules | `(tactic| walk_at "pad part 3 9") => `(tactic| skip)
local macro_rules | `(tactic| walk_at "pad part 3 10") => `(tactic| skip)
local macro_rules | `(tactic| walk_at "pad part 3 11") => `(tactic| skip)
local macro_rules | `(tactic| walk_at "pad part 3 12") => `(tactic| skip)
local macro_rules | `(tactic| walk_at "pad part 3 13") => `(tactic| skip)
local macro_rules | `(tactic| walk_at "pad part 3 14") => `(tactic| skip)
local macro_rules | `(tactic| walk_at "pad part 3 15") => `(tactic| skip)
local macro_rules | `(tactic| walk_at "pad part 3 16") => `(tactic| skip)
local macro_rules | `(tactic| walk_at "pad part 3 17") => `(tactic| skip)
local macro_rules | `(tactic| walk_at "pad part 3 18") => `(tactic| skip)
local macro_rules | `(tactic| walk_at "pad part 3 19") => `(tactic| skip)
local macro_rules | `(tactic| walk_at "pad part 3 20") => `(tactic| skip)
local macro_rules | `(tactic| walk_at "pad part 3 21") => `(tactic| skip)
local macro_rules | `(tactic| walk_at "pad part 3 22") => `(tactic| skip)
local macro_rules | `(tactic| walk_at "pad part 3 23") => `(tactic| skip)
local macro_rules | `(tactic| walk_at "pad part 3 24") => `(tactic| skip)
local macro_rules | `(tactic| walk_at "pad part 3 25") => `(tactic| skip)
local macro_rules | `(tactic| walk_at "pad part 3 26") => `(tactic| skip)
local macro_rules | `(tactic| walk_at "pad part 3 27") => `(tactic| skip)
local macro_rules | `(tactic| walk_at "pad part 3 28") => `(tactic| skip)
local macro_rules | `(tactic| walk_at "pad part 3 29") => `(tactic| skip)
local macro_rules | `(tactic| walk_at "pad part 3 30") => `(tactic| skip)
local macro_rules | `(tactic| walk_at "pad part 3 31") => `(tactic| skip)
local macro_rules | `(tactic| walk_at "pad part 3 32") => `(tactic| skip)
local macro_rules | `(tactic| walk_at "pad part 3 33") => `(tactic| skip)
local macro_rules | `(tactic| walk_at "pad part 3 34") => `(tactic| skip)
local macro_rules | `(tactic| walk_at "pad part 3 35") => `(tactic| skip)
local macro_rules | `(tactic| walk_at "pad part 3 36") => `(tactic| skip)
local macro_rules | `(tactic| walk_at "pad part 3 37") => `(tactic| skip)
local macro_rules | `(tactic| walk_at "pad part 3 38") => `(tactic| skip)
local macro_rules | `(tactic| walk_at "pad part 3 39") => `(tactic| skip)
local macro_rules | `(tactic| walk_at "eval Call") => `(tactic| (k_here; (with_reducible show wpAny _ _ (eval (Expr.Call (Expr.Name _ _) _ [] _) _) _ _ _); k_dflt (refine Call_ ?_)))
local macro_rules | `(tactic| walk_at "ite") => `(tactic| (k_here; first | (with_reducible refine ite_beqT (by omega) ?_) | (with_reducible refine ite_beqF (by omega) ?_) | (with_reducible refine ite_bneT (by omega) ?_) | (with_reducible refine ite_bneF (by omega) ?_) | (with_reducible refine ite_decT (by omega) ?_) | (with_reducible refine ite_decF (by omega) ?_)))
local macro_rules | `(tactic| walk_at "binaryOp FloorDiv int int") => `(tactic| (with_reducible refine fdivE (by omega) (by omega) ?_))
local macro_rules | `(tactic| walk_at "binaryOp Mod int int") => `(tactic| (with_reducible refine fmodE (by omega) ?_))
local macro_rules | `(tactic| walk_at "compareOp In int ref") => `(tactic| (k_here; k_dflt (refine' in_K4 ?k1 ?k2 ?k3 ?_ ?_; (case k1 => k_asm); (case k2 => k_asm); (case k3 => with_unfolding_all rfl)); all_goals (intro h9; (try ((exfalso; omega); done)))))
local macro_rules | `(tactic| walk_at "call ref") => `(tactic| (k_here; k_dflt (refine' use_cl (leap_cl _ _ _) ?k1 ?k2 ?k3 ?k4 ?k5 ?kK ?kd ?ku ?_; (case k1 => k_asm); (case k2 => k_asm); (case k3 => k_asm); (case k4 => k_asm); (case k5 => k_asm); (case kK => first | exact rfl | assumption); (case kd => ktr_room); (case ku => ktr_units); (unfold RetB; intro x h' tk' hx F9 N9; (try dsimp only at hx); (rename (leapJ _ = _) => hl9); rw [hl9] at hx; subst hx; (try dsimp only); (try k_fold)))))
theorem mlen_t2 : mlen true 2 = 29 := rfl
theorem mlen_f2 : mlen false 2 = 28 := rfl
theorem mlen_30 {b : Bool} {m : Int} (h : m ≠ 2) (h' : m = 4 ∨ m = 6 ∨ m = 9 ∨ m = 11) : mlen b m = 30 := by simp only [mlen, if_neg h, if_pos h']
theorem mlen_31 {b : Bool} {m : Int} (h : m ≠ 2) (h' : ¬ (m = 4 ∨ m = 6 ∨ m = 9 ∨ m = 11)) : mlen b m = 31 := by simp only [mlen, if_neg h, if_neg h']
theorem month_len_cl (news : Led) (y m : Int) (t t' : Tok) : Cl 65 2 [.int y t, .int m t'] news (RetI news (fun x => x = mlen (leapJ y) m)) := by
  obtain ⟨lp, hlp⟩ : ∃ lp, leapJ y = lp := ⟨_, rfl⟩
  rw [hlp]
  have hc : m = 2 ∨ (m ≠ 2 ∧ (m = 4 ∨ m = 6 ∨ m = 9 ∨ m = 11)) ∨ (m ≠ 2 ∧ ¬ (m = 4 ∨ m = 6 ∨ m = 9 ∨ m = 11)) := by omega
  (try unfold Cl); unfold ClK RetI
  k_fill
  intro w s₀ mg mb dp un gd cn cs a ccd cl outer A₀ base h₀ L M s Q E B F X N T hk hdp hun hret
  refine wpAny_call ?_
  k_dflt cell_enter
  rcases hc with hc | ⟨hc, hc'⟩ | ⟨hc, hc'⟩
  · subst hc
    cases lp
    all_goals k_steps
    all_goals refine hret _ _ _ _ ?_ (by k_asm) (by k_asm)
    · exact mlen_f2.symm
    · exact mlen_t2.symm
  · k_steps
    all_goals refine hret _ _ _ _ ?_ (by k_asm) (by k_asm)
    exact (mlen_30 hc hc').symm
  · k_steps
    all_goals refine hret _ _ _ _ ?_ (by k_asm) (by k_asm)
    exact (mlen_31 hc hc').symm
local macro_rules | `(tactic| walk_at "call ref") => `(tactic| (k_here; k_dflt (refine' use_cl (month_len_cl _ _ _ _ _) ?k1 ?k2 ?k3 ?k4 ?k5 ?kK ?kd ?ku ?_; (case k1 => k_asm); (case k2 => k_asm); (case k3 => k_asm); (case k4 => k_asm); (case k5 => k_asm); (case kK => first | exact rfl | assumption); (case kd => ktr_room); (case ku => ktr_units); (unfold RetI; intro x t h' tk' hx F9 N9; (try dsimp only at hx); subst hx; (try dsimp only); (try k_fold)))))
theorem legal_j_cl (news : Led) (y m d : Int) (t t' t'' : Tok) (hl0 : 0 < d) (hl : d ≤ mlen (leapJ y) m) : Cl 72 3 [.int y t, .int m t', .int d t''] news (RetB news (fun x => x = true)) := by
  (try unfold Cl); unfold ClK RetB
  k_fill
  intro w s₀ mg mb dp un gd cn cs a ccd cl outer A₀ base h₀ L M s Q E B F X N T hk hdp hun hret
  refine wpAny_call ?_
  k_dflt cell_enter
  k_steps
  all_goals exact hret _ _ _ rfl (by k_asm) (by k_asm)
local macro_rules | `(tactic| walk_at "call ref") => `(tactic| (k_here; k_dflt (refine' use_cl (legal_j_cl _ _ _ _ _ _ _ ?p1 ?p2) ?k1 ?k2 ?k3 ?k4 ?k5 ?kK ?kd ?ku ?_; (case k1 => k_asm); (case k2 => k_asm); (case k3 => k_asm); (case k4 => k_asm); (case k5 => k_asm); (case kK => first | exact rfl | assumption); (case kd => ktr_room); (case ku => ktr_units); (case p1 => first | assumption | omega); (case p2 => first | assumption | omega); (unfold RetB; intro x h' tk' hx F9 N9; (try dsimp only at hx); subst hx; (try dsimp only); (try k_fold)))))
def jJD (y m d : Int) : Int := 1461 * (y + 4716) / 4 + 306001 * (m + 1) / 10000 + d - 1524
theorem to_jd_j_cl (news : Led) (y m d : Int) (t t' t'' : Tok) (hm : 2 < m) (hl0 : 0 < d) (hl : d ≤ mlen (leapJ y) m) : Cl 79 4 [.int y t, .int m t', .int d t''] news (RetI news (fun x => x = jJD y m d)) := by
  (try unfold Cl); unfold ClK RetI
  k_fill
  intro w s₀ mg mb dp un gd cn cs a ccd cl outer A₀ base h₀ L M s Q E B F X N T hk hdp hun hret
  refine wpAny_call ?_
  k_dflt cell_enter
  k_steps
  all_goals exact hret _ _ _ _ rfl (by k_asm) (by k_asm)

end
theorem reset4 : True := by w_top off; trivial

section

local macro_rules | `(tactic| walk_at "eval Call") => `(tactic| (k_here; (with_reducible show wpAny _ _ (eval (Expr.Call (Expr.Name _ _) _ [] _) _) _ _ _); k_dflt (refine Call_ ?_)))
local macro_rules | `(tactic| walk_at "ite") => `(tactic| (k_here; first | (with_reducible refine ite_beqT (by omega) ?_) | (with_reducible refine ite_beqF (by omega) ?_) | (with_reducible refine ite_bneT (by omega) ?_) | (with_reducible refine ite_bneF (by omega) ?_) | (with_reducible refine ite_decT (by omega) ?_) | (with_reducible refine ite_decF (by omega) ?_)))
local macro_rules | `(tactic| walk_at "binaryOp FloorDiv int int") => `(tactic| (with_reducible refine fdivE (by omega) (by omega) ?_))
local macro_rules | `(tactic| walk_at "binaryOp Mod int int") => `(tactic| (with_reducible refine fmodE (by omega) ?_))
local macro_rules | `(tactic| walk_at "compareOp In int ref") => `(tactic| (k_here; k_dflt (refine' in_K4 ?k1 ?k2 ?k3 ?_ ?_; (case k1 => k_asm); (case k2 => k_asm); (case k3 => with_unfolding_all rfl)); all_goals (intro h9; (try ((exfalso; omega); done)))))
theorem mlen_one (b : Bool) (m : Int) : 1 ≤ mlen b m := by
  unfold mlen
  split
  · split <;> decide
  · split <;> decide
def okD (y m d : Int) : Prop := 1 ≤ m ∧ m ≤ 12 ∧ 0 < d ∧ d ≤ mlen (leapG y) m
def off (b : Bool) (m : Int) : Int := (367 * m - 362) / 12 + (if m ≤ 2 then 0 else if b = true then -1 else -2)
theorem gJD_off (Y m d : Int) : gJD Y m d = gJD Y 1 1 - 1 + off (leapG Y) m + d := by
  unfold gJD off; rw [if_pos (by decide : (1 : Int) ≤ 2)]; omega
theorem mon_cases {m : Int} (h : 1 ≤ m) (h' : m ≤ 12) : m = 1 ∨ m = 2 ∨ m = 3 ∨ m = 4 ∨ m = 5 ∨ m = 6 ∨ m = 7 ∨ m = 8 ∨ m = 9 ∨ m = 10 ∨ m = 11 ∨ m = 12 := by omega
def bi (b : Bool) : Int := if b = true then 1 else 0
theorem bi_01 (b : Bool) : bi b = 0 ∨ bi b = 1 := by cases b; exact .inl rfl; exact .inr rfl
theorem off_1 (b : Bool) : off b 1 = 0 := by cases b <;> decide
theorem mlen_1 (b : Bool) : mlen b 1 = 31 := by cases b <;> decide
theorem off_2 (b : Bool) : off b 2 = 31 := by cases b <;> decide
theorem mlen_2 (b : Bool) : mlen b 2 = 28 + bi b := by cases b <;> decide
theorem off_3 (b : Bool) : off b 3 = 59 + bi b := by cases b <;> decide
theorem mlen_3 (b : Bool) : mlen b 3 = 31 := by cases b <;> decide
theorem off_4 (b : Bool) : off b 4 = 90 + bi b := by cases b <;> decide
theorem mlen_4 (b : Bool) : mlen b 4 = 30 := by cases b <;> decide
theorem off_5 (b : Bool) : off b 5 = 120 + bi b := by cases b <;> decide
theorem mlen_5 (b : Bool) : mlen b 5 = 31 := by cases b <;> decide
theorem off_6 (b : Bool) : off b 6 = 151 + bi b := by cases b <;> decide
theorem mlen_6 (b : Bool) : mlen b 6 = 30 := by cases b <;> decide
theorem off_7 (b : Bool) : off b 7 = 181 + bi b := by cases b <;> decide
theorem mlen_7 (b : Bool) : mlen b 7 = 31 := by cases b <;> decide
theorem off_8 (b : Bool) : off b 8 = 212 + bi b := by cases b <;> decide
theorem mlen_8 (b : Bool) : mlen b 8 = 31 := by cases b <;> decide
theorem off_9 (b : Bool) : off b 9 = 243 + bi b := by cases b <;> decide
theorem mlen_9 (b : Bool) : mlen b 9 = 30 := by cases b <;> decide
theorem off_10 (b : Bool) : off b 10 = 273 + bi b := by cases b <;> decide
theorem mlen_10 (b : Bool) : mlen b 10 = 31 := by cases b <;> decide
theorem off_11 (b : Bool) : off b 11 = 304 + bi b := by cases b <;> decide
theorem mlen_11 (b : Bool) : mlen b 11 = 30 := by cases b <;> decide
theorem off_12 (b : Bool) : off b 12 = 334 + bi b := by cases b <;> decide
theorem mlen_12 (b : Bool) : mlen b 12 = 31 := by cases b <;> decide
theorem mon_1a0 {yd : Int} (h0 : 0 ≤ yd) (h1 : yd ≤ 364 + 0) (hc : yd < 58 + 0) (e1 : 367 * 1 ≤ yd * 12 + 373) (e2 : yd * 12 < 367 * 1 - 6) : 0 ≤ yd ∧ yd - (0) < 31 := by omega
theorem mon_1a1 {yd : Int} (h0 : 0 ≤ yd) (h1 : yd ≤ 364 + 1) (hc : yd < 58 + 1) (e1 : 367 * 1 ≤ yd * 12 + 373) (e2 : yd * 12 < 367 * 1 - 6) : 0 ≤ yd ∧ yd - (0) < 31 := by omega
theorem mon_1b0 {yd : Int} (h0 : 0 ≤ yd) (h1 : yd ≤ 364 + 0) (hc : 58 + 0 ≤ yd) (e1 : 367 * 1 ≤ (yd + (2 - 0)) * 12 + 373) (e2 : (yd + (2 - 0)) * 12 < 367 * 1 - 6) : 0 ≤ yd ∧ yd - (0) < 31 := by omega
theorem mon_1b1 {yd : Int} (h0 : 0 ≤ yd) (h1 : yd ≤ 364 + 1) (hc : 58 + 1 ≤ yd) (e1 : 367 * 1 ≤ (yd + (2 - 1)) * 12 + 373) (e2 : (yd + (2 - 1)) * 12 < 367 * 1 - 6) : 0 ≤ yd ∧ yd - (0) < 31 := by omega
theorem mon_2a0 {yd : Int} (h0 : 0 ≤ yd) (h1 : yd ≤ 364 + 0) (hc : yd < 58 + 0) (e1 : 367 * 2 ≤ yd * 12 + 373) (e2 : yd * 12 < 367 * 2 - 6) : 31 ≤ yd ∧ yd - (31) < 28 + 0 := by omega
theorem mon_2a1 {yd : Int} (h0 : 0 ≤ yd) (h1 : yd ≤ 364 + 1) (hc : yd < 58 + 1) (e1 : 367 * 2 ≤ yd * 12 + 373) (e2 : yd * 12 < 367 * 2 - 6) : 31 ≤ yd ∧ yd - (31) < 28 + 1 := by omega
theorem mon_2b0 {yd : Int} (h0 : 0 ≤ yd) (h1 : yd ≤ 364 + 0) (hc : 58 + 0 ≤ yd) (e1 : 367 * 2 ≤ (yd + (2 - 0)) * 12 + 373) (e2 : (yd + (2 - 0)) * 12 < 367 * 2 - 6) : 31 ≤ yd ∧ yd - (31) < 28 + 0 := by omega
theorem mon_2b1 {yd : Int} (h0 : 0 ≤ yd) (h1 : yd ≤ 364 + 1) (hc : 58 + 1 ≤ yd) (e1 : 367 * 2 ≤ (yd + (2 - 1)) * 12 + 373) (e2 : (yd + (2 - 1)) * 12 < 367 * 2 - 6) : 31 ≤ yd ∧ yd - (31) < 28 + 1 := by omega
theorem mon_3a0 {yd : Int} (h0 : 0 ≤ yd) (h1 : yd ≤ 364 + 0) (hc : yd < 58 + 0) (e1 : 367 * 3 ≤ yd * 12 + 373) (e2 : yd * 12 < 367 * 3 - 6) : 59 + 0 ≤ yd ∧ yd - (59 + 0) < 31 := by omega
theorem mon_3a1 {yd : Int} (h0 : 0 ≤ yd) (h1 : yd ≤ 364 + 1) (hc : yd < 58 + 1) (e1 : 367 * 3 ≤ yd * 12 + 373) (e2 : yd * 12 < 367 * 3 - 6) : 59 + 1 ≤ yd ∧ yd - (59 + 1) < 31 := by omega
theorem mon_3b0 {yd : Int} (h0 : 0 ≤ yd) (h1 : yd ≤ 364 + 0) (hc : 58 + 0 ≤ yd) (e1 : 367 * 3 ≤ (yd + (2 - 0)) * 12 + 373) (e2 : (yd + (2 - 0)) * 12 < 367 * 3 - 6) : 59 + 0 ≤ yd ∧ yd - (59 + 0) < 31 := by omega
theorem mon_3b1 {yd : Int} (h0 : 0 ≤ yd) (h1 : yd ≤ 364 + 1) (hc : 58 + 1 ≤ yd) (e1 : 367 * 3 ≤ (yd + (2 - 1)) * 12 + 373) (e2 : (yd + (2 - 1)) * 12 < 367 * 3 - 6) : 59 + 1 ≤ yd ∧ yd - (59 + 1) < 31 := by omega
theorem mon_4a0 {yd : Int} (h0 : 0 ≤ yd) (h1 : yd ≤ 364 + 0) (hc : yd < 58 + 0) (e1 : 367 * 4 ≤ yd * 12 + 373) (e2 : yd * 12 < 367 * 4 - 6) : 90 + 0 ≤ yd ∧ yd - (90 + 0) < 30 := by omega
theorem mon_4a1 {yd : Int} (h0 : 0 ≤ yd) (h1 : yd ≤ 364 + 1) (hc : yd < 58 + 1) (e1 : 367 * 4 ≤ yd * 12 + 373) (e2 : yd * 12 < 367 * 4 - 6) : 90 + 1 ≤ yd ∧ yd - (90 + 1) < 30 := by omega
theorem mon_4b0 {yd : Int} (h0 : 0 ≤ yd) (h1 : yd ≤ 364 + 0) (hc : 58 + 0 ≤ yd) (e1 : 367 * 4 ≤ (yd + (2 - 0)) * 12 + 373) (e2 : (yd + (2 - 0)) * 12 < 367 * 4 - 6) : 90 + 0 ≤ yd ∧ yd - (90 + 0) < 30 := by omega
theorem mon_4b1 {yd : Int} (h0 : 0 ≤ yd) (h1 : yd ≤ 364 + 1) (hc : 58 + 1 ≤ yd) (e1 : 367 * 4 ≤ (yd + (2 - 1)) * 12 + 373) (e2 : (yd + (2 - 1)) * 12 < 367 * 4 - 6) : 90 + 1 ≤ yd ∧ yd - (90 + 1) < 30 := by omega
theorem mon_5a0 {yd : Int} (h0 : 0 ≤ yd) (h1 : yd ≤ 364 + 0) (hc : yd < 58 + 0) (e1 : 367 * 5 ≤ yd * 12 + 373) (e2 : yd * 12 < 367 * 5 - 6) : 120 + 0 ≤ yd ∧ yd - (120 + 0) < 31 := by omega
theorem mon_5a1 {yd : Int} (h0 : 0 ≤ yd) (h1 : yd ≤ 364 + 1) (hc : yd < 58 + 1) (e1 : 367 * 5 ≤ yd * 12 + 373) (e2 : yd * 12 < 367 * 5 - 6) : 120 + 1 ≤ yd ∧ yd - (120 + 1) < 31 := by omega
theorem mon_5b0 {yd : Int} (h0 : 0 ≤ yd) (h1 : yd ≤ 364 + 0) (hc : 58 + 0 ≤ yd) (e1 : 367 * 5 ≤ (yd + (2 - 0)) * 12 + 373) (e2 : (yd + (2 - 0)) * 12 < 367 * 5 - 6) : 120 + 0 ≤ yd ∧ yd - (120 + 0) < 31 := by omega
theorem mon_5b1 {yd : Int} (h0 : 0 ≤ yd) (h1 : yd ≤ 364 + 1) (hc : 58 + 1 ≤ yd) (e1 : 367 * 5 ≤ (yd + (2 - 1)) * 12 + 373) (e2 : (yd + (2 - 1)) * 12 < 367 * 5 - 6) : 120 + 1 ≤ yd ∧ yd - (120 + 1) < 31 := by omega
theorem mon_6a0 {yd : Int} (h0 : 0 ≤ yd) (h1 : yd ≤ 364 + 0) (hc : yd < 58 + 0) (e1 : 367 * 6 ≤ yd * 12 + 373) (e2 : yd * 12 < 367 * 6 - 6) : 151 + 0 ≤ yd ∧ yd - (151 + 0) < 30 := by omega
theorem mon_6a1 {yd : Int} (h0 : 0 ≤ yd) (h1 : yd ≤ 364 + 1) (hc : yd < 58 + 1) (e1 : 367 * 6 ≤ yd * 12 + 373) (e2 : yd * 12 < 367 * 6 - 6) : 151 + 1 ≤ yd ∧ yd - (151 + 1) < 30 := by omega
theorem mon_6b0 {yd : Int} (h0 : 0 ≤ yd) (h1 : yd ≤ 364 + 0) (hc : 58 + 0 ≤ yd) (e1 : 367 * 6 ≤ (yd + (2 - 0)) * 12 + 373) (e2 : (yd + (2 - 0)) * 12 < 367 * 6 - 6) : 151 + 0 ≤ yd ∧ yd - (151 + 0) < 30 := by omega
theorem mon_6b1 {yd : Int} (h0 : 0 ≤ yd) (h1 : yd ≤ 364 + 1) (hc : 58 + 1 ≤ yd) (e1 : 367 * 6 ≤ (yd + (2 - 1)) * 12 + 373) (e2 : (yd + (2 - 1)) * 12 < 367 * 6 - 6) : 151 + 1 ≤ yd ∧ yd - (151 + 1) < 30 := by omega
theorem mon_7a0 {yd : Int} (h0 : 0 ≤ yd) (h1 : yd ≤ 364 + 0) (hc : yd < 58 + 0) (e1 : 367 * 7 ≤ yd * 12 + 373) (e2 : yd * 12 < 367 * 7 - 6) : 181 + 0 ≤ yd ∧ yd - (181 + 0) < 31 := by omega
theorem mon_7a1 {yd : Int} (h0 : 0 ≤ yd) (h1 : yd ≤ 364 + 1) (hc : yd < 58 + 1) (e1 : 367 * 7 ≤ yd * 12 + 373) (e2 : yd * 12 < 367 * 7 - 6) : 181 + 1 ≤ yd ∧ yd - (181 + 1) < 31 := by omega
theorem mon_7b0 {yd : Int} (h0 : 0 ≤ yd) (h1 : yd ≤ 364 + 0) (hc : 58 + 0 ≤ yd) (e1 : 367 * 7 ≤ (yd + (2 - 0)) * 12 + 373) (e2 : (yd + (2 - 0)) * 12 < 367 * 7 - 6) : 181 + 0 ≤ yd ∧ yd - (181 + 0) < 31 := by omega
theorem mon_7b1 {yd : Int} (h0 : 0 ≤ yd) (h1 : yd ≤ 364 + 1) (hc : 58 + 1 ≤ yd) (e1 : 367 * 7 ≤ (yd + (2 - 1)) * 12 + 373) (e2 : (yd + (2 - 1)) * 12 < 367 * 7 - 6) : 181 + 1 ≤ yd ∧ yd - (181 + 1) < 31 := by omega
theorem mon_8a0 {yd : Int} (h0 : 0 ≤ yd) (h1 : yd ≤ 364 + 0) (hc : yd < 58 + 0) (e1 : 367 * 8 ≤ yd * 12 + 373) (e2 : yd * 12 < 367 * 8 - 6) : 212 + 0 ≤ yd ∧ yd - (212 + 0) < 31 := by omega
theorem mon_8a1 {yd : Int} (h0 : 0 ≤ yd) (h1 : yd ≤ 364 + 1) (hc : yd < 58 + 1) (e1 : 367 * 8 ≤ yd * 12 + 373) (e2 : yd * 12 < 367 * 8 - 6) : 212 + 1 ≤ yd ∧ yd - (212 + 1) < 31 := by omega
theorem mon_8b0 {yd : Int} (h0 : 0 ≤ yd) (h1 : yd ≤ 364 + 0) (hc : 58 + 0 ≤ yd) (e1 : 367 * 8 ≤ (yd + (2 - 0)) * 12 + 373) (e2 : (yd + (2 - 0)) * 12 < 367 * 8 - 6) : 212 + 0 ≤ yd ∧ yd - (212 + 0) < 31 := by omega
theorem mon_8b1 {yd : Int} (h0 : 0 ≤ yd) (h1 : yd ≤ 364 + 1) (hc : 58 + 1 ≤ yd) (e1 : 367 * 8 ≤ (yd + (2 - 1)) * 12 + 373) (e2 : (yd + (2 - 1)) * 12 < 367 * 8 - 6) : 212 + 1 ≤ yd ∧ yd - (212 + 1) < 31 := by omega
theorem mon_9a0 {yd : Int} (h0 : 0 ≤ yd) (h1 : yd ≤ 364 + 0) (hc : yd < 58 + 0) (e1 : 367 * 9 ≤ yd * 12 + 373) (e2 : yd * 12 < 367 * 9 - 6) : 243 + 0 ≤ yd ∧ yd - (243 + 0) < 30 := by omega
theorem mon_9a1 {yd : Int} (h0 : 0 ≤ yd) (h1 : yd ≤ 364 + 1) (hc : yd < 58 + 1) (e1 : 367 * 9 ≤ yd * 12 + 373) (e2 : yd * 12 < 367 * 9 - 6) : 243 + 1 ≤ yd ∧ yd - (243 + 1) < 30 := by omega
theorem mon_9b0 {yd : Int} (h0 : 0 ≤ yd) (h1 : yd ≤ 364 + 0) (hc : 58 + 0 ≤ yd) (e1 : 367 * 9 ≤ (yd + (2 - 0)) * 12 + 373) (e2 : (yd + (2 - 0)) * 12 < 367 * 9 - 6) : 243 + 0 ≤ yd ∧ yd - (243 + 0) < 30 := by omega
theorem mon_9b1 {yd : Int} (h0 : 0 ≤ yd) (h1 : yd ≤ 364 + 1) (hc : 58 + 1 ≤ yd) (e1 : 367 * 9 ≤ (yd + (2 - 1)) * 12 + 373) (e2 : (yd + (2 - 1)) * 12 < 367 * 9 - 6) : 243 + 1 ≤ yd ∧ yd - (243 + 1) < 30 := by omega
theorem mon_10a0 {yd : Int} (h0 : 0 ≤ yd) (h1 : yd ≤ 364 + 0) (hc : yd < 58 + 0) (e1 : 367 * 10 ≤ yd * 12 + 373) (e2 : yd * 12 < 367 * 10 - 6) : 273 + 0 ≤ yd ∧ yd - (273 + 0) < 31 := by omega
theorem mon_10a1 {yd : Int} (h0 : 0 ≤ yd) (h1 : yd ≤ 364 + 1) (hc : yd < 58 + 1) (e1 : 367 * 10 ≤ yd * 12 + 373) (e2 : yd * 12 < 367 * 10 - 6) : 273 + 1 ≤ yd ∧ yd - (273 + 1) < 31 := by omega
theorem mon_10b0 {yd : Int} (h0 : 0 ≤ yd) (h1 : yd ≤ 364 + 0) (hc : 58 + 0 ≤ yd) (e1 : 367 * 10 ≤ (yd + (2 - 0)) * 12 + 373) (e2 : (yd + (2 - 0)) * 12 < 367 * 10 - 6) : 273 + 0 ≤ yd ∧ yd - (273 + 0) < 31 := by omega
theorem mon_10b1 {yd : Int} (h0 : 0 ≤ yd) (h1 : yd ≤ 364 + 1) (hc : 58 + 1 ≤ yd) (e1 : 367 * 10 ≤ (yd + (2 - 1)) * 12 + 373) (e2 : (yd + (2 - 1)) * 12 < 367 * 10 - 6) : 273 + 1 ≤ yd ∧ yd - (273 + 1) < 31 := by omega
theorem mon_11a0 {yd : Int} (h0 : 0 ≤ yd) (h1 : yd ≤ 364 + 0) (hc : yd < 58 + 0) (e1 : 367 * 11 ≤ yd * 12 + 373) (e2 : yd * 12 < 367 * 11 - 6) : 304 + 0 ≤ yd ∧ yd - (304 + 0) < 30 := by omega
theorem mon_11a1 {yd : Int} (h0 : 0 ≤ yd) (h1 : yd ≤ 364 + 1) (hc : yd < 58 + 1) (e1 : 367 * 11 ≤ yd * 12 + 373) (e2 : yd * 12 < 367 * 11 - 6) : 304 + 1 ≤ yd ∧ yd - (304 + 1) < 30 := by omega
theorem mon_11b0 {yd : Int} (h0 : 0 ≤ yd) (h1 : yd ≤ 364 + 0) (hc : 58 + 0 ≤ yd) (e1 : 367 * 11 ≤ (yd + (2 - 0)) * 12 + 373) (e2 : (yd + (2 - 0)) * 12 < 367 * 11 - 6) : 304 + 0 ≤ yd ∧ yd - (304 + 0) < 30 := by omega
theorem mon_11b1 {yd : Int} (h0 : 0 ≤ yd) (h1 : yd ≤ 364 + 1) (hc : 58 + 1 ≤ yd) (e1 : 367 * 11 ≤ (yd + (2 - 1)) * 12 + 373) (e2 : (yd + (2 - 1)) * 12 < 367 * 11 - 6) : 304 + 1 ≤ yd ∧ yd - (304 + 1) < 30 := by omega
theorem mon_12a0 {yd : Int} (h0 : 0 ≤ yd) (h1 : yd ≤ 364 + 0) (hc : yd < 58 + 0) (e1 : 367 * 12 ≤ yd * 12 + 373) (e2 : yd * 12 < 367 * 12 - 6) : 334 + 0 ≤ yd ∧ yd - (334 + 0) < 31 := by omega
theorem mon_12a1 {yd : Int} (h0 : 0 ≤ yd) (h1 : yd ≤ 364 + 1) (hc : yd < 58 + 1) (e1 : 367 * 12 ≤ yd * 12 + 373) (e2 : yd * 12 < 367 * 12 - 6) : 334 + 1 ≤ yd ∧ yd - (334 + 1) < 31 := by omega
theorem mon_12b0 {yd : Int} (h0 : 0 ≤ yd) (h1 : yd ≤ 364 + 0) (hc : 58 + 0 ≤ yd) (e1 : 367 * 12 ≤ (yd + (2 - 0)) * 12 + 373) (e2 : (yd + (2 - 0)) * 12 < 367 * 12 - 6) : 334 + 0 ≤ yd ∧ yd - (334 + 0) < 31 := by omega
theorem mon_12b1 {yd : Int} (h0 : 0 ≤ yd) (h1 : yd ≤ 364 + 1) (hc : 58 + 1 ≤ yd) (e1 : 367 * 12 ≤ (yd + (2 - 1)) * 12 + 373) (e2 : (yd + (2 - 1)) * 12 < 367 * 12 - 6) : 334 + 1 ≤ yd ∧ yd - (334 + 1) < 31 := by omega
theorem mon_fin {b : Bool} {yd m adj : Int} (h0 : 0 ≤ yd) (h1 : yd ≤ 364 + bi b) (hm : m = ((yd + adj) * 12 + 373) / 367)
    (ha : (yd < 58 + bi b ∧ adj = 0) ∨ (¬ yd < 58 + bi b ∧ adj = 2 - bi b)) : 1 ≤ m ∧ m ≤ 12 ∧ off b m ≤ yd ∧ yd - off b m < mlen b m := by
  have e1 : 367 * m ≤ (yd + adj) * 12 + 373 := by omega
  have e2 : (yd + adj) * 12 < 367 * m - 6 := by omega
  clear hm
  have hb := bi_01 b
  have m1 : 1 ≤ m := by omega
  have m2 : m ≤ 12 := by omega
  refine ⟨m1, m2, ?_⟩
  rcases mon_cases m1 m2 with h | h | h | h | h | h | h | h | h | h | h | h <;> subst h
  · rw [off_1, mlen_1]; rcases ha with ⟨hc, ha⟩ | ⟨hc, ha⟩ <;> rcases hb with hb | hb
    · have q := mon_1a0 h0 (by omega) (by omega) (by omega) (by omega); first | (rw [hb]; exact q) | exact q
    · have q := mon_1a1 h0 (by omega) (by omega) (by omega) (by omega); first | (rw [hb]; exact q) | exact q
    · have q := mon_1b0 h0 (by omega) (by omega) (by omega) (by omega); first | (rw [hb]; exact q) | exact q
    · have q := mon_1b1 h0 (by omega) (by omega) (by omega) (by omega); first | (rw [hb]; exact q) | exact q
  · rw [off_2, mlen_2]; rcases ha with ⟨hc, ha⟩ | ⟨hc, ha⟩ <;> rcases hb with hb | hb
    · have q := mon_2a0 h0 (by omega) (by omega) (by omega) (by omega); first | (rw [hb]; exact q) | exact q
    · have q := mon_2a1 h0 (by omega) (by omega) (by omega) (by omega); first | (rw [hb]; exact q) | exact q
    · have q := mon_2b0 h0 (by omega) (by omega) (by omega) (by omega); first | (rw [hb]; exact q) | exact q
    · have q := mon_2b1 h0 (by omega) (by omega) (by omega) (by omega); first | (rw [hb]; exact q) | exact q
  · rw [off_3, mlen_3]; rcases ha with ⟨hc, ha⟩ | ⟨hc, ha⟩ <;> rcases hb with hb | hb
    · have q := mon_3a0 h0 (by omega) (by omega) (by omega) (by omega); first | (rw [hb]; exact q) | exact q
    · have q := mon_3a1 h0 (by omega) (by omega) (by omega) (by omega); first | (rw [hb]; exact q) | exact q
    · have q := mon_3b0 h0 (by omega) (by omega) (by omega) (by omega); first | (rw [hb]; exact q) | exact q
    · have q := mon_3b1 h0 (by omega) (by omega) (by omega) (by omega); first | (rw [hb]; exact q) | exact q
  · rw [off_4, mlen_4]; rcases ha with ⟨hc, ha⟩ | ⟨hc, ha⟩ <;> rcases hb with hb | hb
    · have q := mon_4a0 h0 (by omega) (by omega) (by omega) (by omega); first | (rw [hb]; exact q) | exact q
    · have q := mon_4a1 h0 (by omega) (by omega) (by omega) (by omega); first | (rw [hb]; exact q) | exact q
    · have q := mon_4b0 h0 (by omega) (by omega) (by omega) (by omega); first | (rw [hb]; exact q) | exact q
    · have q := mon_4b1 h0 (by omega) (by omega) (by omega) (by omega); first | (rw [hb]; exact q) | exact q
  · rw [off_5, mlen_5]; rcases ha with ⟨hc, ha⟩ | ⟨hc, ha⟩ <;> rcases hb with hb | hb
    · have q := mon_5a0 h0 (by omega) (by omega) (by omega) (by omega); first | (rw [hb]; exact q) | exact q
    · have q := mon_5a1 h0 (by omega) (by omega) (by omega) (by omega); first | (rw [hb]; exact q) | exact q
    · have q := mon_5b0 h0 (by omega) (by omega) (by omega) (by omega); first | (rw [hb]; exact q) | exact q
    · have q := mon_5b1 h0 (by omega) (by omega) (by omega) (by omega); first | (rw [hb]; exact q) | exact q
  · rw [off_6, mlen_6]; rcases ha with ⟨hc, ha⟩ | ⟨hc, ha⟩ <;> rcases hb with hb | hb
    · have q := mon_6a0 h0 (by omega) (by omega) (by omega) (by omega); first | (rw [hb]; exact q) | exact q
    · have q := mon_6a1 h0 (by omega) (by omega) (by omega) (by omega); first | (rw [hb]; exact q) | exact q
    · have q := mon_6b0 h0 (by omega) (by omega) (by omega) (by omega); first | (rw [hb]; exact q) | exact q
    · have q := mon_6b1 h0 (by omega) (by omega) (by omega) (by omega); first | (rw [hb]; exact q) | exact q
  · rw [off_7, mlen_7]; rcases ha with ⟨hc, ha⟩ | ⟨hc, ha⟩ <;> rcases hb with hb | hb
    · have q := mon_7a0 h0 (by omega) (by omega) (by omega) (by omega); first | (rw [hb]; exact q) | exact q
    · have q := mon_7a1 h0 (by omega) (by omega) (by omega) (by omega); first | (rw [hb]; exact q) | exact q
    · have q := mon_7b0 h0 (by omega) (by omega) (by omega) (by omega); first | (rw [hb]; exact q) | exact q
    · have q := mon_7b1 h0 (by omega) (by omega) (by omega) (by omega); first | (rw [hb]; exact q) | exact q
  · rw [off_8, mlen_8]; rcases ha with ⟨hc, ha⟩ | ⟨hc, ha⟩ <;> rcases hb with hb | hb
    · have q := mon_8a0 h0 (by omega) (by omega) (by omega) (by omega); first | (rw [hb]; exact q) | exact q
    · have q := mon_8a1 h0 (by omega) (by omega) (by omega) (by omega); first | (rw [hb]; exact q) | exact q
    · have q := mon_8b0 h0 (by omega) (by omega) (by omega) (by omega); first | (rw [hb]; exact q) | exact q
    · have q := mon_8b1 h0 (by omega) (by omega) (by omega) (by omega); first | (rw [hb]; exact q) | exact q
  · rw [off_9, mlen_9]; rcases ha with ⟨hc, ha⟩ | ⟨hc, ha⟩ <;> rcases hb with hb | hb
    · have q := mon_9a0 h0 (by omega) (by omega) (by omega) (by omega); first | (rw [hb]; exact q) | exact q
    · have q := mon_9a1 h0 (by omega) (by omega) (by omega) (by omega); first | (rw [hb]; exact q) | exact q
    · have q := mon_9b0 h0 (by omega) (by omega) (by omega) (by omega); first | (rw [hb]; exact q) | exact q
    · have q := mon_9b1 h0 (by omega) (by omega) (by omega) (by omega); first | (rw [hb]; exact q) | exact q
  · rw [off_10, mlen_10]; rcases ha with ⟨hc, ha⟩ | ⟨hc, ha⟩ <;> rcases hb with hb | hb
    · have q := mon_10a0 h0 (by omega) (by omega) (by omega) (by omega); first | (rw [hb]; exact q) | exact q
    · have q := mon_10a1 h0 (by omega) (by omega) (by omega) (by omega); first | (rw [hb]; exact q) | exact q
    · have q := mon_10b0 h0 (by omega) (by omega) (by omega) (by omega); first | (rw [hb]; exact q) | exact q
    · have q := mon_10b1 h0 (by omega) (by omega) (by omega) (by omega); first | (rw [hb]; exact q) | exact q
  · rw [off_11, mlen_11]; rcases ha with ⟨hc, ha⟩ | ⟨hc, ha⟩ <;> rcases hb with hb | hb
    · have q := mon_11a0 h0 (by omega) (by omega) (by omega) (by omega); first | (rw [hb]; exact q) | exact q
    · have q := mon_11a1 h0 (by omega) (by omega) (by omega) (by omega); first | (rw [hb]; exact q) | exact q
    · have q := mon_11b0 h0 (by omega) (by omega) (by omega) (by omega); first | (rw [hb]; exact q) | exact q
    · have q := mon_11b1 h0 (by omega) (by omega) (by omega) (by omega); first | (rw [hb]; exact q) | exact q
  · rw [off_12, mlen_12]; rcases ha with ⟨hc, ha⟩ | ⟨hc, ha⟩ <;> rcases hb with hb | hb
    · have q := mon_12a0 h0 (by omega) (by omega) (by omega) (by omega); first | (rw [hb]; exact q) | exact q
    · have q := mon_12a1 h0 (by omega) (by omega) (by omega) (by omega); first | (rw [hb]; exact q) | exact q
    · have q := mon_12b0 h0 (by omega) (by omega) (by omega) (by omega); first | (rw [hb]; exact q) | exact q
    · have q := mon_12b1 h0 (by omega) (by omega) (by omega) (by omega); first | (rw [hb]; exact q) | exact q
def inYear (jd Y : Int) : Prop := 0 ≤ jd - gJD Y 1 1 ∧ jd - gJD Y 1 1 ≤ 364 + if leapG Y = true then 1 else 0
theorem fin_day {jd Y adj : Int} (hY : inYear jd Y) (ha : (jd - gJD Y 1 1 < 58 + (if leapG Y = true then 1 else 0) ∧ adj = 0) ∨ (¬ jd - gJD Y 1 1 < 58 + (if leapG Y = true then 1 else 0) ∧ adj = 2 - if leapG Y = true then 1 else 0)) :
    okD Y (((jd - gJD Y 1 1 + adj) * 12 + 373) / 367) (jd - gJD Y (((jd - gJD Y 1 1 + adj) * 12 + 373) / 367) 1 + 1) ∧
    gJD Y (((jd - gJD Y 1 1 + adj) * 12 + 373) / 367) (jd - gJD Y (((jd - gJD Y 1 1 + adj) * 12 + 373) / 367) 1 + 1) = jd := by
  obtain ⟨h0, h1⟩ := hY
  have h := mon_fin (b := leapG Y) h0 h1 rfl ha
  generalize ((jd - gJD Y 1 1 + adj) * 12 + 373) / 367 = m at *
  obtain ⟨m1, m2, o1, o2⟩ := h
  unfold okD
  rw [gJD_off Y m (jd - gJD Y m 1 + 1), gJD_off Y m 1]
  omega
theorem fin_lo {jd Y : Int} {b : Bool} (hY : inYear jd Y) (hb : b = leapG Y) (hc : jd - gJD Y 1 1 < 58 + if b = true then 1 else 0) :
    okD Y (((jd - gJD Y 1 1 + 0) * 12 + 373) / 367) (jd - gJD Y (((jd - gJD Y 1 1 + 0) * 12 + 373) / 367) 1 + 1) ∧
    gJD Y (((jd - gJD Y 1 1 + 0) * 12 + 373) / 367) (jd - gJD Y (((jd - gJD Y 1 1 + 0) * 12 + 373) / 367) 1 + 1) = jd := by
  subst hb; exact fin_day hY (.inl ⟨hc, rfl⟩)
theorem fin_hi1 {jd Y : Int} (hY : inYear jd Y) (hb : true = leapG Y) (hc : ¬ jd - gJD Y 1 1 < 58 + if true = true then 1 else 0) :
    okD Y (((jd - gJD Y 1 1 + 1) * 12 + 373) / 367) (jd - gJD Y (((jd - gJD Y 1 1 + 1) * 12 + 373) / 367) 1 + 1) ∧
    gJD Y (((jd - gJD Y 1 1 + 1) * 12 + 373) / 367) (jd - gJD Y (((jd - gJD Y 1 1 + 1) * 12 + 373) / 367) 1 + 1) = jd := by
  exact fin_day hY (.inr ⟨by rw [← hb]; exact hc, by rw [← hb]; rfl⟩)
theorem fin_hi2 {jd Y : Int} (hY : inYear jd Y) (hb : false = leapG Y) (hc : ¬ jd - gJD Y 1 1 < 58 + if false = true then 1 else 0) :
    okD Y (((jd - gJD Y 1 1 + 2) * 12 + 373) / 367) (jd - gJD Y (((jd - gJD Y 1 1 + 2) * 12 + 373) / 367) 1 + 1) ∧
    gJD Y (((jd - gJD Y 1 1 + 2) * 12 + 373) / 367) (jd - gJD Y (((jd - gJD Y 1 1 + 2) * 12 + 373) / 367) 1 + 1) = jd := by
  exact fin_day hY (.inr ⟨by rw [← hb]; exact hc, by rw [← hb]; rfl⟩)
theorem gJD_11 (Y : Int) : gJD Y 1 1 = 1721426 + 365 * (Y - 1) + (Y - 1) / 4 - (Y - 1) / 100 + (Y - 1) / 400 := by
  unfold gJD; rw [if_pos (by decide : (1 : Int) ≤ 2)]; omega
theorem leapG_t {Y : Int} (h : Y % 4 = 0) (h' : Y % 100 ≠ 0 ∨ Y % 400 = 0) : leapG Y = true := by
  simp only [leapG, Bool.and_eq_true, Bool.or_eq_true, decide_eq_true_eq]; exact ⟨h, h'⟩
theorem yr_cent {jd : Int} (h : (jd - 1721426) % 146097 / 36524 = 4) : inYear jd ((jd - 1721426) / 146097 * 400 + (jd - 1721426) % 146097 / 36524 * 100 + (jd - 1721426) % 146097 % 36524 / 1461 * 4 + (jd - 1721426) % 146097 % 36524 % 1461 / 365) := by
  have e1 : (jd - 1721426) % 146097 = 146096 := by omega
  have e2 : (jd - 1721426) % 146097 % 36524 = 0 := by omega
  rw [h, e2]
  generalize hq : (jd - 1721426) / 146097 = q
  have ej : jd = 1721426 + 146097 * q + 146096 := by omega
  have eY : q * 400 + 4 * 100 + (0 : Int) / 1461 * 4 + 0 % 1461 / 365 = 400 * q + 400 := by omega
  rw [eY]
  have hl : leapG (400 * q + 400) = true := leapG_t (by omega) (by omega)
  unfold inYear
  rw [hl, gJD_11, if_pos rfl]
  omega
theorem yr_four {jd : Int} (h : (jd - 1721426) % 146097 / 36524 ≠ 4) (h4 : (jd - 1721426) % 146097 % 36524 % 1461 / 365 = 4) : inYear jd ((jd - 1721426) / 146097 * 400 + (jd - 1721426) % 146097 / 36524 * 100 + (jd - 1721426) % 146097 % 36524 / 1461 * 4 + (jd - 1721426) % 146097 % 36524 % 1461 / 365) := by
  rw [h4]
  generalize hq : (jd - 1721426) / 146097 = q at *
  generalize hr : (jd - 1721426) % 146097 = r at *
  have r0 : 0 ≤ r := by omega
  have r1 : r < 146097 := by omega
  generalize hc : r / 36524 = c at *
  generalize hd : r % 36524 = d at *
  have d0 : 0 ≤ d := by omega
  have d1 : d < 36524 := by omega
  have c0 : 0 ≤ c := by omega
  have c1 : c ≤ 3 := by omega
  generalize hu : d / 1461 = u at *
  generalize hv : d % 1461 = v at *
  have v4 : v = 1460 := by omega
  have u0 : 0 ≤ u := by omega
  have u1 : u ≤ 23 := by omega
  have ej : jd = 1721426 + 146097 * q + 36524 * c + 1461 * u + 1460 := by omega
  have eY : q * 400 + c * 100 + u * 4 + 4 = 400 * q + 100 * c + 4 * u + 4 := by omega
  rw [eY]
  clear h h4 hq hr hc hd hu hv eY
  have hl : leapG (400 * q + 100 * c + 4 * u + 4) = true := leapG_t (by omega) (.inl (by omega))
  unfold inYear
  rw [hl, gJD_11, if_pos rfl]
  omega
theorem yr_plain {jd : Int} (h : (jd - 1721426) % 146097 / 36524 ≠ 4) (h4 : (jd - 1721426) % 146097 % 36524 % 1461 / 365 ≠ 4) : inYear jd ((jd - 1721426) / 146097 * 400 + (jd - 1721426) % 146097 / 36524 * 100 + (jd - 1721426) % 146097 % 36524 / 1461 * 4 + (jd - 1721426) % 146097 % 36524 % 1461 / 365 + 1) := by
  generalize hq : (jd - 1721426) / 146097 = q at *
  generalize hr : (jd - 1721426) % 146097 = r at *
  have r0 : 0 ≤ r := by omega
  have r1 : r < 146097 := by omega
  generalize hc : r / 36524 = c at *
  generalize hd : r % 36524 = d at *
  have d0 : 0 ≤ d := by omega
  have d1 : d < 36524 := by omega
  have c0 : 0 ≤ c := by omega
  have c1 : c ≤ 3 := by omega
  generalize hu : d / 1461 = u at *
  generalize hv : d % 1461 = v at *
  have u0 : 0 ≤ u := by omega
  have u1 : u ≤ 24 := by omega
  have v0 : 0 ≤ v := by omega
  have v1 : v < 1461 := by omega
  generalize hz : v / 365 = z at *
  have z0 : 0 ≤ z := by omega
  have z1 : z ≤ 3 := by omega
  have ej : jd = 1721426 + 146097 * q + 36524 * c + 1461 * u + v := by omega
  have w0 : 365 * z ≤ v := by omega
  have w1 : v < 365 * z + 365 := by omega
  clear h h4 hq hr hc hd hu hv hz
  unfold inYear
  have e : gJD (q * 400 + c * 100 + u * 4 + z + 1) 1 1 = 1721426 + 146097 * q + 36524 * c + 1461 * u + 365 * z := by
    rw [gJD_11]
    have a1 : (q * 400 + c * 100 + u * 4 + z + 1 - 1) / 4 = 100 * q + 25 * c + u := by omega
    have a2 : (q * 400 + c * 100 + u * 4 + z + 1 - 1) / 100 = 4 * q + c := by omega
    have a3 : (q * 400 + c * 100 + u * 4 + z + 1 - 1) / 400 = q := by omega
    rw [a1, a2, a3]; omega
  rw [e]
  have hk : (0 : Int) ≤ if leapG (q * 400 + c * 100 + u * 4 + z + 1) = true then 1 else 0 := by split <;> decide
  omega
local macro_rules | `(tactic| walk_at "call ref") => `(tactic| (k_here; k_dflt (refine' use_cl (to_jd_g_cl _ _ _ _ _ _ _ ?p1 ?p2) ?k1 ?k2 ?k3 ?k4 ?k5 ?kK ?kd ?ku ?_; (case k1 => k_asm); (case k2 => k_asm); (case k3 => k_asm); (case k4 => k_asm); (case k5 => k_asm); (case kK => first | exact rfl | assumption); (case kd => ktr_room); (case ku => ktr_units); (case p1 => first | assumption | omega); (case p2 => first | assumption | exact mlen_one _ _); (unfold RetI; intro x t h' tk' hx F9 N9; (try dsimp only at hx); subst hx; (try dsimp only); (try k_fold)))))
local macro_rules | `(tactic| walk_at "call ref") => `(tactic| (k_here; k_dflt (refine' use_cl (isleap_cl _ _ _) ?k1 ?k2 ?k3 ?k4 ?k5 ?kK ?kd ?ku ?_; (case k1 => k_asm); (case k2 => k_asm); (case k3 => k_asm); (case k4 => k_asm); (case k5 => k_asm); (case kK => first | exact rfl | assumption); (case kd => ktr_room); (case ku => ktr_units); (unfold RetB; intro x h' tk' hx F9 N9; (try dsimp only at hx); (cases x); all_goals ((try dsimp only); (try k_fold))))))
theorem from_jd_cl (news : Led) (jd : Int) (t : Tok) : Cl 50 4 [.int jd t] news (RetT news (fun y m d => okD y m d ∧ gJD y m d = jd)) := by
  (try unfold Cl); unfold ClK RetT
  k_fill
  intro w s₀ mg mb dp un gd cn cs a ccd cl outer A₀ base h₀ L M s Q E B F X N T hk hdp hun hret
  refine wpAny_call ?_
  k_dflt cell_enter
  k_steps
  all_goals refine hret _ _ _ _ _ _ _ _ _ _ ?_ (by k_asm) (by k_asm) (by first | assumption | exact allLt_of (by assumption))
  all_goals (try dsimp only)
  all_goals with_reducible first
    | exact fin_lo (yr_cent (by with_reducible assumption)) (by with_reducible assumption) (by with_reducible assumption)
    | exact fin_hi1 (yr_cent (by with_reducible assumption)) (by with_reducible assumption) (by with_reducible assumption)
    | exact fin_hi2 (yr_cent (by with_reducible assumption)) (by with_reducible assumption) (by with_reducible assumption)
    | exact fin_lo (yr_four (by with_reducible assumption) (by with_reducible assumption)) (by with_reducible assumption) (by with_reducible assumption)
    | exact fin_hi1 (yr_four (by with_reducible assumption) (by with_reducible assumption)) (by with_reducible assumption) (by with_reducible assumption)
    | exact fin_hi2 (yr_four (by with_reducible assumption) (by with_reducible assumption)) (by with_reducible assumption) (by with_reducible assumption)
    | exact fin_lo (yr_plain (by with_reducible assumption) (by with_reducible assumption)) (by with_reducible assumption) (by with_reducible assumption)
    | exact fin_hi1 (yr_plain (by with_reducible assumption) (by with_reducible assumption)) (by with_reducible assumption) (by with_reducible assumption)
    | exact fin_hi2 (yr_plain (by with_reducible assumption) (by with_reducible assumption)) (by with_reducible assumption) (by with_reducible assumption)

end
theorem reset5 : True := by w_top off; trivial

section
local macro_rules | `(tactic| walk_at "pad part 5 0") => `(tactic| skip)
local macro_rules | `(tactic| walk_at "pad part 5 1") => `(tactic| skip)
local macro_rules | `(tactic| walk_at "pad part 5 2") => `(tactic| skip)
local macro_rules | `(tactic| walk_at "pad part 5 3") => `(tactic| skip)
local macro_rules | `(tactic| walk_at "pad part 5 4") => `(tactic| skip)
local macro_rules | `(tactic| walk_at "pad part 5 5") => `(tactic| skip)
local macro_rules | `(tactic| walk_at "pad part 5 6") => `(tactic| skip)
local macro_rules | `(tactic| walk_at "pad part 5 7") => `(tactic| skip)
local macro_rules | `(tactic| walk_at "pad part 5 8") => `(tactic| skip)
local macro_rules | `(tactic| walk_at "pad part 5 9") => `(tactic| skip)
local macro_rules | `(tactic| walk_at "pad part 5 10") => `(tactic| skip)
local macro_rules | `(tactic| walk_at "pad part 5 11") => `(tactic| skip)
local macro_rules | `(tactic| walk_at "pad part 5 12") => `(tactic| skip)
local macro_rules | `(tactic| walk_at "pad part 5 13") => `(tactic| skip)
local macro_rules | `(tactic| walk_at "pad part 5 14") => `(tactic| skip)
local macro_rules | `(tactic| walk_at "pad part 5 15") => `(tactic| skip)
local macro_rules | `(tactic| walk_at "pad part 5 16") => `(tactic| skip)
local macro_rules | `(tactic| walk_at "pad part 5 17") => `(tactic| skip)
local macro_rules | `(tactic| walk_at "pad part 5 18") => `(tactic| skip)
local macro_rules | `(tactic| walk_at "pad part 5 19") => `(tactic| skip)
local macro_rules | `(tactic| walk_at "pad part 5 20") => `(tactic| skip)
local macro_rules | `(tactic| walk_at "pad part 5 21") => `(tactic| skip)
local macro_rules | `(tactic| walk_at "pad part 5 22") => `(tactic| skip)
local macro_rules | `(tactic| walk_at "pad part 5 23") => `(tactic| skip)
local macro_rules | `(tactic| walk_at "pad part 5 24") => `(tactic| skip)
local macro_rules | `(tactic| walk_at "pad part 5 25") => `(tactic| skip)
local macro_rules | `(tactic| walk_at "pad part 5 26") => `(tactic| skip)
local macro_rules | `(tactic| walk_at "pad part 5 27") => `(tactic| skip)
local macro_rules | `(tactic| walk_at "pad part 5 28") => `(tactic| skip)
local macro_rules | `(tactic| walk_at "pad part 5 29") => `(tactic| skip)
local macro_rules | `(tactic| walk_at "pad part 5 30") => `(tactic| skip)
local macro_rules | `(tactic| walk_at "pad part 5 31") => `(tactic| skip)
local macro_rules | `(tactic| walk_at "pad part 5 32") => `(tactic| skip)
local macro_rules | `(tactic| walk_at "pad part 5 33") => `(tactic| skip)
local macro_rules | `(tactic| walk_at "pad part 5 34") => `(tactic| skip)
local macro_rules | `(tactic| walk_at "pad part 5 35") => `(tactic| skip)
local macro_rules | `(tactic| walk_at "pad part 5 36") => `(tactic| skip)
local macro_rules | `(tactic| walk_at "pad part 5 37") => `(tactic| skip)
local macro_rules | `(tactic| walk_at "pad part 5 38") => `(tactic| skip)
local macro_rules | `(tactic| walk_at "pad part 5 39") => `(tactic| skip)
local macro_rules | `(tactic| walk_at "eval Call") => `(tactic| (k_here; (with_reducible show wpAny _ _ (eval (Expr.Call (Expr.Name _ _) _ [] _) _) _ _ _); k_dflt (refine Call_ ?_)))
local macro_rules | `(tactic| walk_at "ite") => `(tactic| (k_here; first | (with_reducible refine ite_beqT (by omega) ?_) | (with_reducible refine ite_beqF (by omega) ?_) | (with_reducible refine ite_bneT (by omega) ?_) | (with_reducible refine ite_bneF (by omega) ?_) | (with_reducible refine ite_decT (by omega) ?_) | (with_reducible refine ite_decF (by omega) ?_)))
local macro_rules | `(tactic| walk_at "binaryOp FloorDiv int int") => `(tactic| (with_reducible refine fdivE (by omega) (by omega) ?_))
local macro_rules | `(tactic| walk_at "binaryOp Mod int int") => `(tactic| (with_reducible refine fmodE (by omega) ?_))
local macro_rules | `(tactic| walk_at "compareOp In int ref") => `(tactic| (k_here; k_dflt (refine' in_K4 ?k1 ?k2 ?k3 ?_ ?_; (case k1 => k_asm); (case k2 => k_asm); (case k3 => with_unfolding_all rfl)); all_goals (intro h9; (try ((exfalso; omega); done)))))
local macro_rules | `(tactic| walk_at "call ref") => `(tactic| (k_here; k_dflt (refine' use_cl (to_jd_j_cl _ _ _ _ _ _ _ ?p0 ?p1 ?p2) ?k1 ?k2 ?k3 ?k4 ?k5 ?kK ?kd ?ku ?_; (case k1 => k_asm); (case k2 => k_asm); (case k3 => k_asm); (case k4 => k_asm); (case k5 => k_asm); (case kK => first | exact rfl | assumption); (case kd => ktr_room); (case ku => ktr_units); (case p0 => first | assumption | omega); (case p1 => first | assumption | omega); (case p2 => first | assumption | omega); (unfold RetI; intro x t h' tk' hx F9 N9; (try dsimp only at hx); subst hx; (try dsimp only); (try k_fold)))))
local macro_rules | `(tactic| walk_at "call ref") => `(tactic| (k_here; k_dflt (refine' use_cl (from_jd_cl _ _ _) ?k1 ?k2 ?k3 ?k4 ?k5 ?kK ?kd ?ku ?_; (case k1 => k_asm); (case k2 => k_asm); (case k3 => k_asm); (case k4 => k_asm); (case k5 => k_asm); (case kK => first | exact rfl | assumption); (case kd => ktr_room); (case ku => ktr_units); (unfold RetT; intro x y z D t1 t2 t3 c h' tk' hx F9 N9 l9; (try dsimp only at hx); (try k_lt l9); (try k_sweep); (try dsimp only); (try k_fold)))))
theorem to_greg_cl (news : Led) (y m d : Int) (t t' t'' : Tok) (hm : 2 < m) (hl0 : 0 < d) (hl : d ≤ mlen (leapJ y) m) : Cl 86 5 [.int y t, .int m t', .int d t''] news (RetT news (fun y' m' d' => okD y' m' d' ∧ gJD y' m' d' = jJD y m d)) := by
  (try unfold Cl); unfold ClK RetT
  k_fill
  intro w s₀ mg mb dp un gd cn cs a ccd cl outer A₀ base h₀ L M s Q E B F X N T hk hdp hun hret
  refine wpAny_call ?_
  k_dflt cell_enter
  k_steps
  all_goals refine hret _ _ _ _ _ _ _ _ _ _ ?_ (by with_reducible assumption) (by first | with_reducible assumption | exact cb_drop (by with_reducible assumption) (by with_reducible repeat' (first | exact sub_refl _ | refine sub_cons ?_ | refine sub_skip ?_ | refine sub_app ?_))) (by first | with_reducible assumption | exact allLt_of (by with_reducible assumption) | exact allLt_r (by with_reducible assumption) | exact allLt_r2 (by with_reducible assumption) | exact allLt_sub (by with_reducible assumption) (by with_reducible repeat' (first | exact sub_refl _ | refine sub_cons ?_ | refine sub_skip ?_ | refine sub_app ?_)) | exact allLt_sub (allLt_of (by with_reducible assumption)) (by with_reducible repeat' (first | exact sub_refl _ | refine sub_cons ?_ | refine sub_skip ?_ | refine sub_app ?_)))
  all_goals assumption
def epJ (y : Int) : Int := (19 * (y % 19) + 15) % 30
def lawFull (y later : Int) : Int := 1721117 + 365 * y + y / 4 + (21 + epJ y) + (if y % 19 = 0 then later else 0)
def lawE (y later : Int) : Int := lawFull y later + 1 + (5 - lawFull y later) % 7
theorem ej_core {y d e : Int} (h0 : 0 ≤ d) (h1 : d ≤ 30) (he : e = (2 * (y % 4) + 4 * (y % 7) - d + 6) % 7) :
    2 < (113 + d + e + 1) / 31 ∧ 0 < (113 + d + e + 1) % 31 + 1 ∧ (113 + d + e + 1) % 31 + 1 ≤ mlen (leapJ y) ((113 + d + e + 1) / 31) ∧
    jJD y ((113 + d + e + 1) / 31) ((113 + d + e + 1) % 31 + 1) = (1721117 + 365 * y + y / 4 + (21 + d)) + 1 + (5 - (1721117 + 365 * y + y / 4 + (21 + d))) % 7 := by
  have e0 : 0 ≤ e := by omega
  have e1 : e ≤ 6 := by omega
  have ew : (5 - (1721117 + 365 * y + y / 4 + (21 + d))) % 7 = e := by omega
  rw [ew]
  clear ew he
  have hc : (113 + d + e + 1) / 31 = 3 ∨ (113 + d + e + 1) / 31 = 4 := by omega
  unfold jJD
  rcases hc with hc | hc
  · rw [hc, mlen_31 (by decide) (by decide)]; omega
  · rw [hc, mlen_30 (by decide) (by decide)]; omega
theorem ej_0 (y : Int) : y = y ∧ 2 < (113 + (19 * (y % 19) + 15) % 30 + (2 * (y % 4) + 4 * (y % 7) - (19 * (y % 19) + 15) % 30 + 6) % 7 + 1) / 31 ∧ 0 < (113 + (19 * (y % 19) + 15) % 30 + (2 * (y % 4) + 4 * (y % 7) - (19 * (y % 19) + 15) % 30 + 6) % 7 + 1) % 31 + 1 ∧
    (113 + (19 * (y % 19) + 15) % 30 + (2 * (y % 4) + 4 * (y % 7) - (19 * (y % 19) + 15) % 30 + 6) % 7 + 1) % 31 + 1 ≤ mlen (leapJ y) ((113 + (19 * (y % 19) + 15) % 30 + (2 * (y % 4) + 4 * (y % 7) - (19 * (y % 19) + 15) % 30 + 6) % 7 + 1) / 31) ∧
    jJD y ((113 + (19 * (y % 19) + 15) % 30 + (2 * (y % 4) + 4 * (y % 7) - (19 * (y % 19) + 15) % 30 + 6) % 7 + 1) / 31) ((113 + (19 * (y % 19) + 15) % 30 + (2 * (y % 4) + 4 * (y % 7) - (19 * (y % 19) + 15) % 30 + 6) % 7 + 1) % 31 + 1) = lawE y 0 := by
  have h0 : 0 ≤ (19 * (y % 19) + 15) % 30 := by omega
  have h1 : (19 * (y % 19) + 15) % 30 ≤ 30 := by omega
  obtain ⟨a, b, c, d⟩ := ej_core h0 h1 rfl
  refine ⟨rfl, a, b, c, d.trans ?_⟩
  unfold lawE lawFull epJ
  rw [show (if y % 19 = 0 then (0 : Int) else 0) = 0 from by split <;> rfl]; omega
theorem ej_1 {y : Int} (h : y % 19 ≠ 0) : y = y ∧ 2 < (113 + (19 * (y % 19) + 15) % 30 + (2 * (y % 4) + 4 * (y % 7) - (19 * (y % 19) + 15) % 30 + 6) % 7 + 1) / 31 ∧ 0 < (113 + (19 * (y % 19) + 15) % 30 + (2 * (y % 4) + 4 * (y % 7) - (19 * (y % 19) + 15) % 30 + 6) % 7 + 1) % 31 + 1 ∧
    (113 + (19 * (y % 19) + 15) % 30 + (2 * (y % 4) + 4 * (y % 7) - (19 * (y % 19) + 15) % 30 + 6) % 7 + 1) % 31 + 1 ≤ mlen (leapJ y) ((113 + (19 * (y % 19) + 15) % 30 + (2 * (y % 4) + 4 * (y % 7) - (19 * (y % 19) + 15) % 30 + 6) % 7 + 1) / 31) ∧
    jJD y ((113 + (19 * (y % 19) + 15) % 30 + (2 * (y % 4) + 4 * (y % 7) - (19 * (y % 19) + 15) % 30 + 6) % 7 + 1) / 31) ((113 + (19 * (y % 19) + 15) % 30 + (2 * (y % 4) + 4 * (y % 7) - (19 * (y % 19) + 15) % 30 + 6) % 7 + 1) % 31 + 1) = lawE y 1 := by
  obtain ⟨_, a, b, c, d⟩ := ej_0 y
  refine ⟨rfl, a, b, c, d.trans ?_⟩
  unfold lawE lawFull
  rw [if_neg h, if_neg h]
theorem ej_2 {y : Int} (h : y % 19 = 0) : y = y ∧ 2 < (113 + ((19 * (y % 19) + 15) % 30 + 1) + (2 * (y % 4) + 4 * (y % 7) - ((19 * (y % 19) + 15) % 30 + 1) + 6) % 7 + 1) / 31 ∧ 0 < (113 + ((19 * (y % 19) + 15) % 30 + 1) + (2 * (y % 4) + 4 * (y % 7) - ((19 * (y % 19) + 15) % 30 + 1) + 6) % 7 + 1) % 31 + 1 ∧
    (113 + ((19 * (y % 19) + 15) % 30 + 1) + (2 * (y % 4) + 4 * (y % 7) - ((19 * (y % 19) + 15) % 30 + 1) + 6) % 7 + 1) % 31 + 1 ≤ mlen (leapJ y) ((113 + ((19 * (y % 19) + 15) % 30 + 1) + (2 * (y % 4) + 4 * (y % 7) - ((19 * (y % 19) + 15) % 30 + 1) + 6) % 7 + 1) / 31) ∧
    jJD y ((113 + ((19 * (y % 19) + 15) % 30 + 1) + (2 * (y % 4) + 4 * (y % 7) - ((19 * (y % 19) + 15) % 30 + 1) + 6) % 7 + 1) / 31) ((113 + ((19 * (y % 19) + 15) % 30 + 1) + (2 * (y % 4) + 4 * (y % 7) - ((19 * (y % 19) + 15) % 30 + 1) + 6) % 7 + 1) % 31 + 1) = lawE y 1 := by
  have h0 : 0 ≤ (19 * (y % 19) + 15) % 30 + 1 := by omega
  have h1 : (19 * (y % 19) + 15) % 30 + 1 ≤ 30 := by omega
  obtain ⟨a, b, c, d⟩ := ej_core h0 h1 rfl
  refine ⟨rfl, a, b, c, d.trans ?_⟩
  unfold lawE lawFull epJ
  rw [if_pos h]; omega
local macro_rules | `(tactic| walk_at "call ref") => `(tactic| (k_here; k_dflt (refine' use_cl (trunc_cl _ _ _ _ _ ?p0 ?p1) ?k1 ?k2 ?k3 ?k4 ?k5 ?kK ?kd ?ku ?_; (case k1 => k_asm); (case k2 => k_asm); (case k3 => k_asm); (case k4 => k_asm); (case k5 => k_asm); (case kK => first | exact rfl | assumption); (case kd => ktr_room); (case ku => ktr_units); (case p0 => omega); (case p1 => omega); (unfold RetI; intro x t h' tk' hx F9 N9; (try dsimp only at hx); (replace hx := hx.1 (by omega)); subst hx; (try dsimp only); (try k_fold)))))
theorem easter_j_cl (news : Led) (y : Int) (t : Tok) : Cl 109 2 [.int y t] news (RetT news (fun y' m' d' => y' = y ∧ 2 < m' ∧ 0 < d' ∧ d' ≤ mlen (leapJ y) m' ∧ jJD y m' d' = lawE y 0)) := by
  (try unfold Cl); unfold ClK RetT
  k_fill
  intro w s₀ mg mb dp un gd cn cs a ccd cl outer A₀ base h₀ L M s Q E B F X N T hk hdp hun hret
  refine wpAny_call ?_
  k_dflt (refine' code_def ?k1 ?k2 ?k3 ?k4 ?k5 ?kA ?kF ?kK ?k6 ?k7 ?k8 ?k9 ?kB ?_ ?c2 ?c3 ?c4 ?c5; (case kA => exact rfl); (case kF => exact rfl); (case kK => assumption); (case k1 => k_asm); (case k2 => k_asm); (case k3 => k_asm); (case k4 => k_asm); (case k5 => k_asm); (case k6 => k_is); (case k7 => k_is); (case k8 => ktr_room); (case k9 => first | exact BindsTo.of_eq rfl | exact binds_K (by k_in) rfl (by k_is) rfl rfl rfl); (case c5 => decide); (case kB => exact locs rfl); (case c2 => exact rfl); (case c3 => exact rfl); (case c4 => exact rfl); k_whole; intro g' L' h' FG' F' N' B' X' T'; (try dsimp only); (try k_lift B'); (try k_fold))
  k_steps
  all_goals refine hret _ _ _ _ _ _ _ _ _ _ ?_ (by with_reducible assumption) (by first | with_reducible assumption | exact cb_drop (by with_reducible assumption) (by with_reducible repeat' (first | exact sub_refl _ | refine sub_cons ?_ | refine sub_skip ?_ | refine sub_app ?_))) (by first | with_reducible assumption | exact allLt_of (by with_reducible assumption) | exact allLt_r (by with_reducible assumption) | exact allLt_r2 (by with_reducible assumption) | exact allLt_sub (by with_reducible assumption) (by with_reducible repeat' (first | exact sub_refl _ | refine sub_cons ?_ | refine sub_skip ?_ | refine sub_app ?_)) | exact allLt_sub (allLt_of (by with_reducible assumption)) (by with_reducible repeat' (first | exact sub_refl _ | refine sub_cons ?_ | refine sub_skip ?_ | refine sub_app ?_)))
  all_goals exact ej_0 _
theorem easter_e_cl (news : Led) (y : Int) (t : Tok) (t' : Tok) : ClK 109 2 [.int y t] [(Str.ofString "mode", .str (Str.ofString "eastern") t')] news (RetT news (fun y' m' d' => y' = y ∧ 2 < m' ∧ 0 < d' ∧ d' ≤ mlen (leapJ y) m' ∧ jJD y m' d' = lawE y 1)) := by
  (try unfold Cl); unfold ClK RetT
  k_fill
  intro w s₀ mg mb dp un gd cn cs a ccd cl outer A₀ base h₀ L M s Q E B F X N T hk hdp hun hret
  refine wpAny_call ?_
  k_dflt (refine' code_def ?k1 ?k2 ?k3 ?k4 ?k5 ?kA ?kF ?kK ?k6 ?k7 ?k8 ?k9 ?kB ?_ ?c2 ?c3 ?c4 ?c5; (case kA => exact rfl); (case kF => exact rfl); (case kK => assumption); (case k1 => k_asm); (case k2 => k_asm); (case k3 => k_asm); (case k4 => k_asm); (case k5 => k_asm); (case k6 => k_is); (case k7 => k_is); (case k8 => ktr_room); (case k9 => first | exact BindsTo.of_eq rfl | exact binds_K (by k_in) rfl (by k_is) rfl rfl rfl); (case c5 => decide); (case kB => exact locs rfl); (case c2 => exact rfl); (case c3 => exact rfl); (case c4 => exact rfl); k_whole; intro g' L' h' FG' F' N' B' X' T'; (try dsimp only); (try k_lift B'); (try k_fold))
  k_steps
  all_goals refine hret _ _ _ _ _ _ _ _ _ _ ?_ (by with_reducible assumption) (by first | with_reducible assumption | exact cb_drop (by with_reducible assumption) (by with_reducible repeat' (first | exact sub_refl _ | refine sub_cons ?_ | refine sub_skip ?_ | refine sub_app ?_))) (by first | with_reducible assumption | exact allLt_of (by with_reducible assumption) | exact allLt_r (by with_reducible assumption) | exact allLt_r2 (by with_reducible assumption) | exact allLt_sub (by with_reducible assumption) (by with_reducible repeat' (first | exact sub_refl _ | refine sub_cons ?_ | refine sub_skip ?_ | refine sub_app ?_)) | exact allLt_sub (allLt_of (by with_reducible assumption)) (by with_reducible repeat' (first | exact sub_refl _ | refine sub_cons ?_ | refine sub_skip ?_ | refine sub_app ?_)))
  · exact ej_2 (by assumption)
  · exact ej_1 (by assumption)
local macro_rules | `(tactic| walk_at "call ref") => `(tactic| (k_here; k_dflt (refine' use_cl (to_greg_cl _ _ _ _ _ _ _ ?p0 ?p1 ?p2) ?k1 ?k2 ?k3 ?k4 ?k5 ?kK ?kd ?ku ?_; (case k1 => k_asm); (case k2 => k_asm); (case k3 => k_asm); (case k4 => k_asm); (case k5 => k_asm); (case kK => first | exact rfl | assumption); (case kd => ktr_room); (case ku => ktr_units); (case p0 => first | assumption | omega); (case p1 => first | assumption | omega); (case p2 => first | assumption | omega); (unfold RetT; intro x y z D t1 t2 t3 c h' tk' hx F9 N9 l9; (try dsimp only at hx); (try k_lt l9); (try k_sweep); (try dsimp only); (try k_fold)))))
local macro_rules | `(tactic| walk_at "call ref") => `(tactic| (k_here; k_dflt (refine' use_cl (easter_j_cl _ _ _) ?k1 ?k2 ?k3 ?k4 ?k5 ?kK ?kd ?ku ?_; (case k1 => k_asm); (case k2 => k_asm); (case k3 => k_asm); (case k4 => k_asm); (case k5 => k_asm); (case kK => first | exact rfl | assumption); (case kd => ktr_room); (case ku => ktr_units); (unfold RetT; intro x y z D t1 t2 t3 c h' tk' hx F9 N9 l9; (try dsimp only at hx); (obtain ⟨e9, g1, g2, g3, g4⟩ := hx); subst e9; (try k_lt l9); (try k_sweep); (try dsimp only); (try k_fold)))))
local macro_rules | `(tactic| walk_at "call ref") => `(tactic| (k_here; k_dflt (refine' use_cl (easter_e_cl _ _ _ _) ?k1 ?k2 ?k3 ?k4 ?k5 ?kK ?kd ?ku ?_; (case k1 => k_asm); (case k2 => k_asm); (case k3 => k_asm); (case k4 => k_asm); (case k5 => k_asm); (case kK => first | exact rfl | assumption); (case kd => ktr_room); (case ku => ktr_units); (unfold RetT; intro x y z D t1 t2 t3 c h' tk' hx F9 N9 l9; (try dsimp only at hx); (obtain ⟨e9, g1, g2, g3, g4⟩ := hx); subst e9; (try k_lt l9); (try k_sweep); (try dsimp only); (try k_fold)))))
theorem orthodox_cl (news : Led) (y : Int) (t t' : Tok) : Cl 94 6 [.int y t, .str (Str.ofString "orthodox") t'] news (RetT news (fun y' m' d' => okD y' m' d' ∧ gJD y' m' d' = lawE y 0)) := by
  (try unfold Cl); unfold ClK RetT
  k_fill
  intro w s₀ mg mb dp un gd cn cs a ccd cl outer A₀ base h₀ L M s Q E B F X N T hk hdp hun hret
  refine wpAny_call ?_
  k_dflt (refine' code_def ?k1 ?k2 ?k3 ?k4 ?k5 ?kA ?kF ?kK ?k6 ?k7 ?k8 ?k9 ?kB ?_ ?c2 ?c3 ?c4 ?c5; (case kA => exact rfl); (case kF => exact rfl); (case kK => assumption); (case k1 => k_asm); (case k2 => k_asm); (case k3 => k_asm); (case k4 => k_asm); (case k5 => k_asm); (case k6 => k_is); (case k7 => k_is); (case k8 => ktr_room); (case k9 => first | exact BindsTo.of_eq rfl | exact binds_K (by k_in) rfl (by k_is) rfl rfl rfl); (case c5 => decide); (case kB => exact locs rfl); (case c2 => exact rfl); (case c3 => exact rfl); (case c4 => exact rfl); k_whole; intro g' L' h' FG' F' N' B' X' T'; (try dsimp only); (try k_lift B'); (try k_fold))
  k_steps
  all_goals refine hret _ _ _ _ _ _ _ _ _ _ ?_ (by with_reducible assumption) (by first | with_reducible assumption | exact cb_drop (by with_reducible assumption) (by with_reducible repeat' (first | exact sub_refl _ | refine sub_cons ?_ | refine sub_skip ?_ | refine sub_app ?_))) (by first | with_reducible assumption | exact allLt_of (by with_reducible assumption) | exact allLt_r (by with_reducible assumption) | exact allLt_r2 (by with_reducible assumption) | exact allLt_sub (by with_reducible assumption) (by with_reducible repeat' (first | exact sub_refl _ | refine sub_cons ?_ | refine sub_skip ?_ | refine sub_app ?_)) | exact allLt_sub (allLt_of (by with_reducible assumption)) (by with_reducible repeat' (first | exact sub_refl _ | refine sub_cons ?_ | refine sub_skip ?_ | refine sub_app ?_)))
  all_goals ((rename (_ = lawE _ _) => g4); rw [← g4]; assumption)
theorem eastern_cl (news : Led) (y : Int) (t t' : Tok) : Cl 94 6 [.int y t, .str (Str.ofString "eastern") t'] news (RetT news (fun y' m' d' => okD y' m' d' ∧ gJD y' m' d' = lawE y 1)) := by
  (try unfold Cl); unfold ClK RetT
  k_fill
  intro w s₀ mg mb dp un gd cn cs a ccd cl outer A₀ base h₀ L M s Q E B F X N T hk hdp hun hret
  refine wpAny_call ?_
  k_dflt (refine' code_def ?k1 ?k2 ?k3 ?k4 ?k5 ?kA ?kF ?kK ?k6 ?k7 ?k8 ?k9 ?kB ?_ ?c2 ?c3 ?c4 ?c5; (case kA => exact rfl); (case kF => exact rfl); (case kK => assumption); (case k1 => k_asm); (case k2 => k_asm); (case k3 => k_asm); (case k4 => k_asm); (case k5 => k_asm); (case k6 => k_is); (case k7 => k_is); (case k8 => ktr_room); (case k9 => first | exact BindsTo.of_eq rfl | exact binds_K (by k_in) rfl (by k_is) rfl rfl rfl); (case c5 => decide); (case kB => exact locs rfl); (case c2 => exact rfl); (case c3 => exact rfl); (case c4 => exact rfl); k_whole; intro g' L' h' FG' F' N' B' X' T'; (try dsimp only); (try k_lift B'); (try k_fold))
  k_steps
  all_goals refine hret _ _ _ _ _ _ _ _ _ _ ?_ (by with_reducible assumption) (by first | with_reducible assumption | exact cb_drop (by with_reducible assumption) (by with_reducible repeat' (first | exact sub_refl _ | refine sub_cons ?_ | refine sub_skip ?_ | refine sub_app ?_))) (by first | with_reducible assumption | exact allLt_of (by with_reducible assumption) | exact allLt_r (by with_reducible assumption) | exact allLt_r2 (by with_reducible assumption) | exact allLt_sub (by with_reducible assumption) (by with_reducible repeat' (first | exact sub_refl _ | refine sub_cons ?_ | refine sub_skip ?_ | refine sub_app ?_)) | exact allLt_sub (allLt_of (by with_reducible assumption)) (by with_reducible repeat' (first | exact sub_refl _ | refine sub_cons ?_ | refine sub_skip ?_ | refine sub_app ?_)))
  all_goals ((rename (_ = lawE _ _) => g4); rw [← g4]; assumption)

end
theorem reset6 : True := by w_top off; trivial

section

local macro_rules | `(tactic| walk_at "eval Call") => `(tactic| (k_here; (with_reducible show wpAny _ _ (eval (Expr.Call (Expr.Name _ _) _ [] _) _) _ _ _); k_dflt (refine Call_ ?_)))
local macro_rules | `(tactic| walk_at "ite") => `(tactic| (k_here; first | (with_reducible refine ite_beqT (by omega) ?_) | (with_reducible refine ite_beqF (by omega) ?_) | (with_reducible refine ite_bneT (by omega) ?_) | (with_reducible refine ite_bneF (by omega) ?_) | (with_reducible refine ite_decT (by omega) ?_) | (with_reducible refine ite_decF (by omega) ?_)))
local macro_rules | `(tactic| walk_at "binaryOp FloorDiv int int") => `(tactic| (with_reducible refine fdivE (by omega) (by omega) ?_))
local macro_rules | `(tactic| walk_at "binaryOp Mod int int") => `(tactic| (with_reducible refine fmodE (by omega) ?_))
local macro_rules | `(tactic| walk_at "compareOp In int ref") => `(tactic| (k_here; k_dflt (refine' in_K4 ?k1 ?k2 ?k3 ?_ ?_; (case k1 => k_asm); (case k2 => k_asm); (case k3 => with_unfolding_all rfl)); all_goals (intro h9; (try ((exfalso; omega); done)))))
theorem mul01 {prog : Program} {w : World} {A : Around} {E : Value → Shared → Prop} {s : Shared} {a b : Int} {t u : Tok} {Q : Value → Shared → Prop} (h0 : 0 ≤ a) (h1 : a ≤ 1)
    (h : ∀ r : Int, (a = 0 → r = 0) → (a = 1 → r = b) → ∀ k : Nat, Q (.int r k) { s with toks := s.toks + 1 }) : wpAny (model prog w) A (binaryOp .Mult (.int a t) (.int b u)) Q E s := by
  have hm : IntMulOk a b := IntMulOk.of_left (intBits_le_64 (by omega) (by omega))
  exact mul_int (h (a * b) (fun e => by rw [e, Int.zero_mul]) (fun e => by rw [e, Int.one_mul]) s.toks) hm
theorem div29 {b x : Int} (hb : 0 < b) (h : x = 29 / b) : 0 ≤ x ∧ (b = 29 → x = 1) ∧ (b = 30 → x = 0) := by
  subst h
  refine ⟨Int.ediv_nonneg (by decide) (by omega), fun e => ?_, fun e => ?_⟩
  · subst e; rfl
  · subst e; rfl
theorem trunc29_cl (news : Led) (b : Int) (ta tb : Tok) (hb : 0 < b) (hb' : b < 1073741824) : Cl 28 1 [.int 29 ta, .int b tb] news (RetI news (fun x => 0 ≤ x ∧ (b = 29 → x = 1) ∧ (b = 30 → x = 0))) := by
  intro w s₀ mg mb dp un gd cn cs a ccd cl outer A₀ base h₀ L M s Q E B F X N T hk hdp hun hret
  exact trunc_cl news 29 b ta tb hb hb' w s₀ mg mb dp un gd cn cs a ccd cl outer A₀ base h₀ L M s Q E B F X N T hk hdp hun (fun x t h' tk' hx => hret x t h' tk' (div29 hb (hx.1 (by decide))))
def epW (y : Int) : Int := (19 * (y % 19) + 15 - (13 + 8 * (y / 100)) / 25 + y / 100 - y / 100 / 4) % 30
def wkW (y : Int) : Int := (2 * (y % 4) + 4 * (y % 7) + 6 * epW y + 4 + y / 100 - y / 100 / 4) % 7
def marW (y : Int) : Int := if wkW y = 6 ∧ (epW y = 29 ∨ (epW y = 28 ∧ y % 19 > 10)) then 22 + epW y + wkW y - 7 else 22 + epW y + wkW y
def monW (y : Int) : Int := if marW y ≤ 31 then 3 else 4
def dayW (y : Int) : Int := if marW y ≤ 31 then marW y else marW y - 31
theorem west_k {c k t : Int} (hc : 15 ≤ c) (hk : (0 ≤ c - 17 → k = (c - 17) / 25) ∧ (c - 17 < 0 → k = -(-(c - 17) / 25))) (ht : t = (c - k) / 3) : t = (13 + 8 * c) / 25 := by
  by_cases h : 17 ≤ c
  · have hk' := hk.1 (by omega)
    clear hk
    generalize hs : (c - 17) % 25 = s
    have s0 : 0 ≤ s := by omega
    have s1 : s ≤ 24 := by omega
    have e : c = 25 * k + 17 + s := by omega
    have e1 : t = 8 * k + (17 + s) / 3 := by omega
    have e2 : (13 + 8 * c) / 25 = 8 * k + (149 + 8 * s) / 25 := by omega
    rw [e1, e2]
    have : (17 + s) / 3 = (149 + 8 * s) / 25 := by
      obtain ⟨n, rfl⟩ := Int.eq_ofNat_of_zero_le s0
      have hn : n < 25 := by omega
      have key : ∀ m : Fin 25, (17 + ((m.val : Nat) : Int)) / 3 = (149 + 8 * ((m.val : Nat) : Int)) / 25 := by decide
      exact key ⟨n, hn⟩
    rw [this]
  · have hc' : c = 15 ∨ c = 16 := by omega
    rcases hc' with e | e <;> subst e <;> omega
theorem west_wk (y e h : Int) : (2 * (y % 4) + 4 * (y % 7) + 6 * e + 4 + h) % 7 = 6 - (y + y / 4 + e + 2 - h) % 7 := by omega
theorem west_i {i0 n a p f g u r : Int} (h0 : 0 ≤ i0) (h1 : i0 ≤ 29) (n0 : 0 ≤ n) (n1 : n ≤ 18)
    (ha : a = i0 / 28) (hr : a = 0 → r = 0) (hr' : a = 1 → r = 1 - u) (hu : g = 0 → u = 0) (hu' : g = 1 → u = f) (hg : p = 0 → g = 0) (hg' : p = 1 → g = e) (hp : p = i0 / 28)
    (he : 0 ≤ e ∧ (i0 + 1 = 29 → e = 1) ∧ (i0 + 1 = 30 → e = 0)) (hf : f = (21 - n) / 11) : (r = if i0 = 29 ∨ (i0 = 28 ∧ n > 10) then 1 else 0) := by
  have hc : i0 ≤ 27 ∨ i0 = 28 ∨ i0 = 29 := by omega
  rcases hc with hc | hc | hc
  · have a0 : a = 0 := by omega
    rw [hr a0, if_neg (by omega)]
  · subst hc
    have a1 : a = 1 := by omega
    have p1 : p = 1 := by omega
    have e1 : e = 1 := he.2.1 (by decide)
    have g1 : g = 1 := (hg' p1).trans e1
    have u1 := hu' g1
    rw [hr' a1, u1, hf]
    by_cases hn : n > 10
    · rw [if_pos (by omega)]; omega
    · rw [if_neg (by omega)]; omega
  · subst hc
    have a1 : a = 1 := by omega
    have p1 : p = 1 := by omega
    have e1 : e = 0 := he.2.2 (by decide)
    have g1 : g = 0 := (hg' p1).trans e1
    rw [hr' a1, hu g1, if_pos (by omega)]; omega
theorem west_mar {y i0 r j : Int} (h0 : 0 ≤ i0) (h1 : i0 ≤ 29) (he : epW y = i0) (hr : r = if i0 = 29 ∨ (i0 = 28 ∧ y % 19 > 10) then 1 else 0)
    (hj : j = (y + y / 4 + (i0 - r) + 2 - y / 100 + y / 100 / 4) % 7) : marW y = 28 + (i0 - r) - j ∧ 0 ≤ i0 - r ∧ i0 - r ≤ 28 ∧ 0 ≤ j ∧ j ≤ 6 := by
  have hw : wkW y = 6 - (y + y / 4 + i0 + 2 - (y / 100 - y / 100 / 4)) % 7 := by
    unfold wkW; rw [he, ← west_wk]; congr 1; omega
  unfold marW
  rw [he]
  by_cases hx : i0 = 29 ∨ (i0 = 28 ∧ y % 19 > 10)
  · rw [if_pos hx] at hr
    by_cases h6 : wkW y = 6
    · rw [if_pos ⟨h6, hx⟩]; omega
    · rw [if_neg (fun q => h6 q.1)]; omega
  · rw [if_neg hx] at hr
    rw [if_neg (fun q => hx q.2)]; omega
theorem west_out {y i j mo m4 : Int} (hm : marW y = 28 + i - j) (i0 : 0 ≤ i) (i1 : i ≤ 28) (j0 : 0 ≤ j) (j1 : j ≤ 6) (hmo : mo = (i - j + 40) / 44) (h4 : m4 = (3 + mo) / 4) : 3 + mo = monW y ∧ i - j + 28 - 31 * m4 = dayW y := by
  unfold monW dayW
  rw [hm]
  by_cases h : 28 + i - j ≤ 31
  · rw [if_pos h, if_pos h]; omega
  · rw [if_neg h, if_neg h]; omega
theorem west_fin {y c n k q t z a p e g f u r v q' j7 mo m4 : Int} (hy : 1583 ≤ y)
    (h4 : m4 = (3 + mo) / 4) (hmo : mo = (c - q - t + 19 * (y - 19 * n) + 15 - 30 * z - r - (y + v + (c - q - t + 19 * (y - 19 * n) + 15 - 30 * z - r) + 2 - c + q' - 7 * j7) + 40) / 44)
    (h7 : j7 = (y + v + (c - q - t + 19 * (y - 19 * n) + 15 - 30 * z - r) + 2 - c + q') / 7) (hq' : q' = c / 4) (hv : v = y / 4)
    (hr : a = 0 → r = 0) (hr' : a = 1 → r = 1 - u) (ha : a = (c - q - t + 19 * (y - 19 * n) + 15 - 30 * z) / 28)
    (hu : g = 0 → u = 0) (hu' : g = 1 → u = f) (hf : f = (21 - (y - 19 * n)) / 11)
    (hg : p = 0 → g = 0) (hg' : p = 1 → g = e) (hp : p = (c - q - t + 19 * (y - 19 * n) + 15 - 30 * z) / 28)
    (he : 0 ≤ e ∧ (c - q - t + 19 * (y - 19 * n) + 15 - 30 * z + 1 = 29 → e = 1) ∧ (c - q - t + 19 * (y - 19 * n) + 15 - 30 * z + 1 = 30 → e = 0))
    (hz : z = (c - q - t + 19 * (y - 19 * n) + 15) / 30) (ht : t = (c - k) / 3) (hq : q = c / 4)
    (hk : (0 ≤ c - 17 → k = (c - 17) / 25) ∧ (c - 17 < 0 → k = -(-(c - 17) / 25))) (hn : n = y / 19) (hc : c = y / 100) :
    y = y ∧ 3 + mo = monW y ∧ c - q - t + 19 * (y - 19 * n) + 15 - 30 * z - r - (y + v + (c - q - t + 19 * (y - 19 * n) + 15 - 30 * z - r) + 2 - c + q' - 7 * j7) + 28 - 31 * m4 = dayW y := by
  have hc15 : 15 ≤ c := by omega
  have htt := west_k hc15 hk ht
  clear hk ht
  have hn' : y - 19 * n = y % 19 := by omega
  rw [hn'] at hmo h7 ha hf hp he hz ⊢
  have n0 : 0 ≤ y % 19 := by omega
  have n1 : y % 19 ≤ 18 := by omega
  have hep : epW y = c - q - t + 19 * (y % 19) + 15 - 30 * z := by
    unfold epW; rw [← hc, ← hq, ← htt]; omega
  generalize hi : c - q - t + 19 * (y % 19) + 15 - 30 * z = i0 at hmo h7 ha hp he hep ⊢
  have i0' : 0 ≤ i0 := by rw [← hep]; unfold epW; omega
  have i1' : i0 ≤ 29 := by rw [← hep]; unfold epW; omega
  have hri := west_i i0' i1' n0 n1 ha hr hr' hu hu' hg hg' hp he hf
  clear ha hr hr' hu hu' hg hg' hp he hf hz htt hi hn hn'
  generalize hj : y + v + (i0 - r) + 2 - c + q' - 7 * j7 = j at hmo ⊢
  have hj' : j = (y + y / 4 + (i0 - r) + 2 - y / 100 + y / 100 / 4) % 7 := by
    rw [← hc, ← hq, ← hv]; omega
  obtain ⟨hm, a1, a2, a3, a4⟩ := west_mar i0' i1' hep hri hj'
  exact ⟨rfl, west_out hm a1 a2 a3 a4 hmo h4⟩
local macro_rules | `(tactic| walk_at "call ref") => `(tactic| (k_here; k_dflt (refine' use_cl (trunc_cl _ _ _ _ _ ?p0 ?p1) ?k1 ?k2 ?k3 ?k4 ?k5 ?kK ?kd ?ku ?_; (case k1 => k_asm); (case k2 => k_asm); (case k3 => k_asm); (case k4 => k_asm); (case k5 => k_asm); (case kK => first | exact rfl | assumption); (case kd => ktr_room); (case ku => ktr_units); (case p0 => omega); (case p1 => omega); (unfold RetI; intro x t h' tk' hx F9 N9; (try dsimp only at hx); (first | (replace hx := hx.1 (by omega)) | skip); (try dsimp only); (try k_fold)))))
local macro_rules | `(tactic| walk_at "call ref") => `(tactic| (k_here; k_dflt (refine' use_cl (trunc29_cl _ _ _ _ ?p0 ?p1) ?k1 ?k2 ?k3 ?k4 ?k5 ?kK ?kd ?ku ?_; (case k1 => k_asm); (case k2 => k_asm); (case k3 => k_asm); (case k4 => k_asm); (case k5 => k_asm); (case kK => first | exact rfl | assumption); (case kd => ktr_room); (case ku => ktr_units); (case p0 => omega); (case p1 => omega); (unfold RetI; intro x t h' tk' hx F9 N9; (try dsimp only at hx); (try dsimp only); (try k_fold)))))
local macro_rules | `(tactic| walk_at "binaryOp Mult int int") => `(tactic| ((with_reducible refine mul01 (by omega) (by omega) ?_); intro r hr hr' k9))
theorem west_cl (news : Led) (y : Int) (t : Tok) (hy : 1583 ≤ y) : Cl 101 2 [.int y t] news (RetT news (fun y' m' d' => y' = y ∧ m' = monW y ∧ d' = dayW y)) := by
  (try unfold Cl); unfold ClK RetT
  k_fill
  intro w s₀ mg mb dp un gd cn cs a ccd cl outer A₀ base h₀ L M s Q E B F X N T hk hdp hun hret
  refine wpAny_call ?_
  k_dflt (refine' code_def ?k1 ?k2 ?k3 ?k4 ?k5 ?kA ?kF ?kK ?k6 ?k7 ?k8 ?k9 ?kB ?_ ?c2 ?c3 ?c4 ?c5; (case kA => exact rfl); (case kF => exact rfl); (case kK => assumption); (case k1 => k_asm); (case k2 => k_asm); (case k3 => k_asm); (case k4 => k_asm); (case k5 => k_asm); (case k6 => k_is); (case k7 => k_is); (case k8 => ktr_room); (case k9 => first | exact BindsTo.of_eq rfl | exact binds_K (by k_in) rfl (by k_is) rfl rfl rfl); (case c5 => decide); (case kB => exact locs rfl); (case c2 => exact rfl); (case c3 => exact rfl); (case c4 => exact rfl); k_whole; intro g' L' h' FG' F' N' B' X' T'; (try dsimp only); (try k_lift B'); (try k_fold))
  k_steps
  all_goals refine hret _ _ _ _ _ _ _ _ _ _ ?_ (by with_reducible assumption) (by first | with_reducible assumption | exact cb_drop (by with_reducible assumption) (by with_reducible repeat' (first | exact sub_refl _ | refine sub_cons ?_ | refine sub_skip ?_ | refine sub_app ?_))) (by first | with_reducible assumption | exact allLt_of (by with_reducible assumption) | exact allLt_r (by with_reducible assumption) | exact allLt_r2 (by with_reducible assumption) | exact allLt_sub (by with_reducible assumption) (by with_reducible repeat' (first | exact sub_refl _ | refine sub_cons ?_ | refine sub_skip ?_ | refine sub_app ?_)) | exact allLt_sub (allLt_of (by with_reducible assumption)) (by with_reducible repeat' (first | exact sub_refl _ | refine sub_cons ?_ | refine sub_skip ?_ | refine sub_app ?_)))
  dsimp only
  exact west_fin hy (by with_reducible assumption) (by with_reducible assumption) (by with_reducible assumption) (by with_reducible assumption) (by with_reducible assumption) (by with_reducible assumption) (by with_reducible assumption) (by with_reducible assumption) (by with_reducible assumption) (by with_reducible assumption) (by with_reducible assumption) (by with_reducible assumption) (by with_reducible assumption) (by with_reducible assumption) (by with_reducible assumption) (by with_reducible assumption) (by with_reducible assumption) (by with_reducible assumption) (by with_reducible assumption) (by with_reducible assumption) (by with_reducible assumption)
local macro_rules | `(tactic| walk_at "call ref") => `(tactic| (k_here; k_dflt (refine' use_cl (west_cl _ _ _ ?p0) ?k1 ?k2 ?k3 ?k4 ?k5 ?kK ?kd ?ku ?_; (case k1 => k_asm); (case k2 => k_asm); (case k3 => k_asm); (case k4 => k_asm); (case k5 => k_asm); (case kK => first | exact rfl | assumption); (case kd => ktr_room); (case ku => ktr_units); (case p0 => first | assumption | omega); (unfold RetT; intro x y z D t1 t2 t3 c h' tk' hx F9 N9 l9; (try dsimp only at hx); (try k_lt l9); (try k_sweep); (try dsimp only); (try k_fold)))))
theorem western_cl (news : Led) (y : Int) (t t' : Tok) (hy : 1583 ≤ y) : Cl 94 3 [.int y t, .str (Str.ofString "western") t'] news (RetT news (fun y' m' d' => y' = y ∧ m' = monW y ∧ d' = dayW y)) := by
  (try unfold Cl); unfold ClK RetT
  k_fill
  intro w s₀ mg mb dp un gd cn cs a ccd cl outer A₀ base h₀ L M s Q E B F X N T hk hdp hun hret
  refine wpAny_call ?_
  k_dflt (refine' code_def ?k1 ?k2 ?k3 ?k4 ?k5 ?kA ?kF ?kK ?k6 ?k7 ?k8 ?k9 ?kB ?_ ?c2 ?c3 ?c4 ?c5; (case kA => exact rfl); (case kF => exact rfl); (case kK => assumption); (case k1 => k_asm); (case k2 => k_asm); (case k3 => k_asm); (case k4 => k_asm); (case k5 => k_asm); (case k6 => k_is); (case k7 => k_is); (case k8 => ktr_room); (case k9 => first | exact BindsTo.of_eq rfl | exact binds_K (by k_in) rfl (by k_is) rfl rfl rfl); (case c5 => decide); (case kB => exact locs rfl); (case c2 => exact rfl); (case c3 => exact rfl); (case c4 => exact rfl); k_whole; intro g' L' h' FG' F' N' B' X' T'; (try dsimp only); (try k_lift B'); (try k_fold))
  k_steps
  all_goals refine hret _ _ _ _ _ _ _ _ _ _ ?_ (by with_reducible assumption) (by first | with_reducible assumption | exact cb_drop (by with_reducible assumption) (by with_reducible repeat' (first | exact sub_refl _ | refine sub_cons ?_ | refine sub_skip ?_ | refine sub_app ?_))) (by first | with_reducible assumption | exact allLt_of (by with_reducible assumption) | exact allLt_r (by with_reducible assumption) | exact allLt_r2 (by with_reducible assumption) | exact allLt_sub (by with_reducible assumption) (by with_reducible repeat' (first | exact sub_refl _ | refine sub_cons ?_ | refine sub_skip ?_ | refine sub_app ?_)) | exact allLt_sub (allLt_of (by with_reducible assumption)) (by with_reducible repeat' (first | exact sub_refl _ | refine sub_cons ?_ | refine sub_skip ?_ | refine sub_app ?_)))
  all_goals assumption
theorem easter1_cl (news : Led) (y : Int) (t : Tok) (hy : 1583 ≤ y) : Cl 94 3 [.int y t] news (RetT news (fun y' m' d' => y' = y ∧ m' = monW y ∧ d' = dayW y)) := by
  (try unfold Cl); unfold ClK RetT
  k_fill
  intro w s₀ mg mb dp un gd cn cs a ccd cl outer A₀ base h₀ L M s Q E B F X N T hk hdp hun hret
  refine wpAny_call ?_
  k_dflt (refine' code_def ?k1 ?k2 ?k3 ?k4 ?k5 ?kA ?kF ?kK ?k6 ?k7 ?k8 ?k9 ?kB ?_ ?c2 ?c3 ?c4 ?c5; (case kA => exact rfl); (case kF => exact rfl); (case kK => assumption); (case k1 => k_asm); (case k2 => k_asm); (case k3 => k_asm); (case k4 => k_asm); (case k5 => k_asm); (case k6 => k_is); (case k7 => k_is); (case k8 => ktr_room); (case k9 => first | exact BindsTo.of_eq rfl | exact binds_K (by k_in) rfl (by k_is) rfl rfl rfl); (case c5 => decide); (case kB => exact locs rfl); (case c2 => exact rfl); (case c3 => exact rfl); (case c4 => exact rfl); k_whole; intro g' L' h' FG' F' N' B' X' T'; (try dsimp only); (try k_lift B'); (try k_fold))
  k_steps
  all_goals refine hret _ _ _ _ _ _ _ _ _ _ ?_ (by with_reducible assumption) (by first | with_reducible assumption | exact cb_drop (by with_reducible assumption) (by with_reducible repeat' (first | exact sub_refl _ | refine sub_cons ?_ | refine sub_skip ?_ | refine sub_app ?_))) (by first | with_reducible assumption | exact allLt_of (by with_reducible assumption) | exact allLt_r (by with_reducible assumption) | exact allLt_r2 (by with_reducible assumption) | exact allLt_sub (by with_reducible assumption) (by with_reducible repeat' (first | exact sub_refl _ | refine sub_cons ?_ | refine sub_skip ?_ | refine sub_app ?_)) | exact allLt_sub (allLt_of (by with_reducible assumption)) (by with_reducible repeat' (first | exact sub_refl _ | refine sub_cons ?_ | refine sub_skip ?_ | refine sub_app ?_)))
  all_goals assumption

end
theorem reset7 : True := by w_top off; trivial

section
local macro_rules | `(tactic| walk_at "pad part 7 0") => `(tactic| skip)
local macro_rules | `(tactic| walk_at "pad part 7 1") => `(tactic| skip)
local macro_rules | `(tactic| walk_at "pad part 7 2") => `(tactic| skip)
local macro_rules | `(tactic| walk_at "pad part 7 3") => `(tactic| skip)
local macro_rules | `(tactic| walk_at "pad part 7 4") => `(tactic| skip)
local macro_rules | `(tactic| walk_at "pad part 7 5") => `(tactic| skip)
local macro_rules | `(tactic| walk_at "pad part 7 6") => `(tactic| skip)
local macro_rules | `(tactic| walk_at "pad part 7 7") => `(tactic| skip)
local macro_rules | `(tactic| walk_at "pad part 7 8") => `(tactic| skip)
local macro_rules | `(tactic| walk_at "pad part 7 9") => `(tactic| skip)
local macro_rules | `(tactic| walk_at "pad part 7 10") => `(tactic| skip)
local macro_rules | `(tactic| walk_at "pad part 7 11") => `(tactic| skip)
local macro_rules | `(tactic| walk_at "pad part 7 12") => `(tactic| skip)
local macro_rules | `(tactic| walk_at "pad part 7 13") => `(tactic| skip)
local macro_rules | `(tactic| walk_at "pad part 7 14") => `(tactic| skip)
local macro_rules | `(tactic| walk_at "pad part 7 15") => `(tactic| skip)
local macro_rules | `(tactic| walk_at "pad part 7 16") => `(tactic| skip)
local macro_rules | `(tactic| walk_at "pad part 7 17") => `(tactic| skip)
local macro_rules | `(tactic| walk_at "pad part 7 18") => `(tactic| skip)
local macro_rules | `(tactic| walk_at "pad part 7 19") => `(tactic| skip)
local macro_rules | `(tactic| walk_at "pad part 7 20") => `(tactic| skip)
local macro_rules | `(tactic| walk_at "pad part 7 21") => `(tactic| skip)
local macro_rules | `(tactic| walk_at "pad part 7 22") => `(tactic| skip)
local macro_rules | `(tactic| walk_at "pad part 7 23") => `(tactic| skip)
local macro_rules | `(tactic| walk_at "pad part 7 24") => `(tactic| skip)
local macro_rules | `(tactic| walk_at "pad part 7 25") => `(tactic| skip)
local macro_rules | `(tactic| walk_at "pad part 7 26") => `(tactic| skip)
local macro_rules | `(tactic| walk_at "pad part 7 27") => `(tactic| skip)
local macro_rules | `(tactic| walk_at "pad part 7 28") => `(tactic| skip)
local macro_rules | `(tactic| walk_at "pad part 7 29") => `(tactic| skip)
local macro_rules | `(tactic| walk_at "pad part 7 30") => `(tactic| skip)
local macro_rules | `(tactic| walk_at "pad part 7 31") => `(tactic| skip)
local macro_rules | `(tactic| walk_at "pad part 7 32") => `(tactic| skip)
local macro_rules | `(tactic| walk_at "pad part 7 33") => `(tactic| skip)
local macro_rules | `(tactic| walk_at "pad part 7 34") => `(tactic| skip)
local macro_rules | `(tactic| walk_at "pad part 7 35") => `(tactic| skip)
local macro_rules | `(tactic| walk_at "pad part 7 36") => `(tactic| skip)
local macro_rules | `(tactic| walk_at "pad part 7 37") => `(tactic| skip)
local macro_rules | `(tactic| walk_at "pad part 7 38") => `(tactic| skip)
local macro_rules | `(tactic| walk_at "pad part 7 39") => `(tactic| skip)
local macro_rules | `(tactic| walk_at "eval Call") => `(tactic| (k_here; (with_reducible show wpAny _ _ (eval (Expr.Call (Expr.Name _ _) _ [] _) _) _ _ _); k_dflt (refine Call_ ?_)))
local macro_rules | `(tactic| walk_at "ite") => `(tactic| (k_here; first | (with_reducible refine ite_beqT (by omega) ?_) | (with_reducible refine ite_beqF (by omega) ?_) | (with_reducible refine ite_bneT (by omega) ?_) | (with_reducible refine ite_bneF (by omega) ?_) | (with_reducible refine ite_decT (by omega) ?_) | (with_reducible refine ite_decF (by omega) ?_)))
local macro_rules | `(tactic| walk_at "binaryOp FloorDiv int int") => `(tactic| (with_reducible refine fdivE (by omega) (by omega) ?_))
local macro_rules | `(tactic| walk_at "binaryOp Mod int int") => `(tactic| (with_reducible refine fmodE (by omega) ?_))
local macro_rules | `(tactic| walk_at "compareOp In int ref") => `(tactic| (k_here; k_dflt (refine' in_K4 ?k1 ?k2 ?k3 ?_ ?_; (case k1 => k_asm); (case k2 => k_asm); (case k3 => with_unfolding_all rfl)); all_goals (intro h9; (try ((exfalso; omega); done)))))
def lawW (y : Int) : Int := 1721119 + 365 * y + y / 4 - y / 100 + y / 100 / 4 + marW y
theorem marW_less {y : Int} (h : wkW y = 6) (h' : epW y = 29 ∨ (epW y = 28 ∧ y % 19 > 10)) : marW y = 22 + epW y + wkW y - 7 := by unfold marW; rw [if_pos ⟨h, h'⟩]
theorem marW_full {y : Int} (h : ¬ (wkW y = 6 ∧ (epW y = 29 ∨ (epW y = 28 ∧ y % 19 > 10)))) : marW y = 22 + epW y + wkW y := by unfold marW; rw [if_neg h]
theorem lw_1 {y : Int} (h : ((2 * (y % 4) + 4 * (y % 7) + 6 * ((19 * (y % 19) + 15 - (13 + 8 * (y / 100)) / 25 + y / 100 - y / 100 / 4) % 30) + 4 + y / 100 - y / 100 / 4) % 7) = 6) (h' : ((19 * (y % 19) + 15 - (13 + 8 * (y / 100)) / 25 + y / 100 - y / 100 / 4) % 30) = 29) : 1721119 + 365 * y + y / 4 - y / 100 + y / 100 / 4 + (22 + ((19 * (y % 19) + 15 - (13 + 8 * (y / 100)) / 25 + y / 100 - y / 100 / 4) % 30) + ((2 * (y % 4) + 4 * (y % 7) + 6 * ((19 * (y % 19) + 15 - (13 + 8 * (y / 100)) / 25 + y / 100 - y / 100 / 4) % 30) + 4 + y / 100 - y / 100 / 4) % 7) - 7) = lawW y := by
  unfold lawW; rw [marW_less h (.inl h')]; rfl
theorem lw_2 {y : Int} (h : ((2 * (y % 4) + 4 * (y % 7) + 6 * ((19 * (y % 19) + 15 - (13 + 8 * (y / 100)) / 25 + y / 100 - y / 100 / 4) % 30) + 4 + y / 100 - y / 100 / 4) % 7) = 6) (h' : ((19 * (y % 19) + 15 - (13 + 8 * (y / 100)) / 25 + y / 100 - y / 100 / 4) % 30) = 28) (hg : 10 < y % 19) : 1721119 + 365 * y + y / 4 - y / 100 + y / 100 / 4 + (22 + ((19 * (y % 19) + 15 - (13 + 8 * (y / 100)) / 25 + y / 100 - y / 100 / 4) % 30) + ((2 * (y % 4) + 4 * (y % 7) + 6 * ((19 * (y % 19) + 15 - (13 + 8 * (y / 100)) / 25 + y / 100 - y / 100 / 4) % 30) + 4 + y / 100 - y / 100 / 4) % 7) - 7) = lawW y := by
  unfold lawW; rw [marW_less h (.inr ⟨h', hg⟩)]; rfl
theorem lw_3 {y : Int} (h : ((19 * (y % 19) + 15 - (13 + 8 * (y / 100)) / 25 + y / 100 - y / 100 / 4) % 30) ≠ 29) (hg : ¬ 10 < y % 19) : 1721119 + 365 * y + y / 4 - y / 100 + y / 100 / 4 + (22 + ((19 * (y % 19) + 15 - (13 + 8 * (y / 100)) / 25 + y / 100 - y / 100 / 4) % 30) + ((2 * (y % 4) + 4 * (y % 7) + 6 * ((19 * (y % 19) + 15 - (13 + 8 * (y / 100)) / 25 + y / 100 - y / 100 / 4) % 30) + 4 + y / 100 - y / 100 / 4) % 7)) = lawW y := by
  unfold lawW; rw [marW_full (fun q => q.2.elim h (fun r => hg r.2))]; rfl
theorem lw_4 {y : Int} (h : ((19 * (y % 19) + 15 - (13 + 8 * (y / 100)) / 25 + y / 100 - y / 100 / 4) % 30) ≠ 29) (h' : ((19 * (y % 19) + 15 - (13 + 8 * (y / 100)) / 25 + y / 100 - y / 100 / 4) % 30) ≠ 28) : 1721119 + 365 * y + y / 4 - y / 100 + y / 100 / 4 + (22 + ((19 * (y % 19) + 15 - (13 + 8 * (y / 100)) / 25 + y / 100 - y / 100 / 4) % 30) + ((2 * (y % 4) + 4 * (y % 7) + 6 * ((19 * (y % 19) + 15 - (13 + 8 * (y / 100)) / 25 + y / 100 - y / 100 / 4) % 30) + 4 + y / 100 - y / 100 / 4) % 7)) = lawW y := by
  unfold lawW; rw [marW_full (fun q => q.2.elim h (fun r => h' r.1))]; rfl
theorem lw_5 {y : Int} (h : ((2 * (y % 4) + 4 * (y % 7) + 6 * ((19 * (y % 19) + 15 - (13 + 8 * (y / 100)) / 25 + y / 100 - y / 100 / 4) % 30) + 4 + y / 100 - y / 100 / 4) % 7) ≠ 6) : 1721119 + 365 * y + y / 4 - y / 100 + y / 100 / 4 + (22 + ((19 * (y % 19) + 15 - (13 + 8 * (y / 100)) / 25 + y / 100 - y / 100 / 4) % 30) + ((2 * (y % 4) + 4 * (y % 7) + 6 * ((19 * (y % 19) + 15 - (13 + 8 * (y / 100)) / 25 + y / 100 - y / 100 / 4) % 30) + 4 + y / 100 - y / 100 / 4) % 7)) = lawW y := by
  unfold lawW; rw [marW_full (fun q => h q.1)]; rfl
theorem law_west_cl (news : Led) (y : Int) (t : Tok) : Cl 129 1 [.int y t] news (RetI news (fun x => x = lawW y)) := by
  (try unfold Cl); unfold ClK RetI
  k_fill
  intro w s₀ mg mb dp un gd cn cs a ccd cl outer A₀ base h₀ L M s Q E B F X N T hk hdp hun hret
  refine wpAny_call ?_
  k_dflt cell_enter
  k_steps
  all_goals refine hret _ _ _ _ ?_ (by k_asm) (by k_asm)
  all_goals dsimp only
  all_goals with_reducible first
    | exact lw_1 (by with_reducible assumption) (by with_reducible assumption)
    | exact lw_2 (by with_reducible assumption) (by with_reducible assumption) (by with_reducible assumption)
    | exact lw_3 (by with_reducible assumption) (by with_reducible assumption)
    | exact lw_4 (by with_reducible assumption) (by with_reducible assumption)
    | exact lw_5 (by with_reducible assumption)
theorem moon_val {k : Int} (h0 : 0 ≤ k) (h1 : k < 19) : ([36, 25, 44, 33, 22, 41, 30, 49, 38, 27, 46, 35, 24, 43, 32, 21, 40, 29, 48] : List Int).getD k.toNat 0 = 21 + (19 * k + 15) % 30 := by
  obtain ⟨n, rfl⟩ := Int.eq_ofNat_of_zero_le h0
  have hn : n < 19 := by omega
  have key : ∀ m : Fin 19, ([36, 25, 44, 33, 22, 41, 30, 49, 38, 27, 46, 35, 24, 43, 32, 21, 40, 29, 48] : List Int).getD m.val 0 = 21 + (19 * ((m.val : Nat) : Int) + 15) % 30 := by decide
  exact key ⟨n, hn⟩
theorem moons_K {w : World} {h₀ : Heap} {L : Addr} {m : Str → Option Value} {s : Shared} {A : Around} {E : Value → Shared → Prop} {value slice : PySem.Expr} {k : Int} {u : Tok} {Q : Value → Shared → Prop}
    (F : Fr h₀ L s.heap m) (X : (hd.heap_39 w.params).In h₀) (h0 : 0 ≤ k) (h1 : k < 19) (h : ∀ t, Q (.int (21 + (19 * k + 15) % 30) t) s)
    (hs : subscripted slice false (.ref 122) (.int k u) = operate [.ref 122, .int k u] (getItem (.ref 122) (.int k u)) := by with_unfolding_all rfl) :
    wpAny (model PySem.Challenge.rw_vp0004_01.row.prog w) A (subscriptTail value slice (.ref 122) (.int k u)) Q E s := by
  refine topTupAny_K (ns := [36, 25, 44, 33, 22, 41, 30, 49, 38, 27, 46, 35, 24, 43, 32, 21, 40, 29, 48]) (a := 122) F X (by with_unfolding_all rfl) ?_ h0 h1 (by omega) (fun t => ?_) hs
  · repeat constructor
  · rw [moon_val h0 h1]; exact h t
local macro_rules | `(tactic| walk_at "subscriptTail") => `(tactic| (k_here; k_dflt (refine' moons_K ?k1 ?k2 ?k3 ?k4 ?_ ?k6; (case k1 => k_asm); (case k2 => k_asm); (case k3 => omega); (case k4 => omega); (case k6 => with_unfolding_all rfl)); intro t9))
theorem le_1 {y r : Int} (h : y % 19 = 0) : 1721117 + 365 * y + y / 4 + (21 + (19 * (y % 19) + 15) % 30) + r + 1 + (5 - (1721117 + 365 * y + y / 4 + (21 + (19 * (y % 19) + 15) % 30) + r)) % 7 = lawE y r := by
  unfold lawE lawFull epJ; rw [if_pos h]
theorem le_2 {y : Int} (r : Int) (h : y % 19 ≠ 0) : 1721117 + 365 * y + y / 4 + (21 + (19 * (y % 19) + 15) % 30) + 1 + (5 - (1721117 + 365 * y + y / 4 + (21 + (19 * (y % 19) + 15) % 30))) % 7 = lawE y r := by
  unfold lawE lawFull epJ; rw [if_neg h, Int.add_zero]
theorem law_east_cl (news : Led) (y r : Int) (t t' : Tok) : Cl 136 1 [.int y t, .int r t'] news (RetI news (fun x => x = lawE y r)) := by
  (try unfold Cl); unfold ClK RetI
  k_fill
  intro w s₀ mg mb dp un gd cn cs a ccd cl outer A₀ base h₀ L M s Q E B F X N T hk hdp hun hret
  refine wpAny_call ?_
  k_dflt cell_enter
  k_steps
  all_goals refine hret _ _ _ _ ?_ (by k_asm) (by k_asm)
  all_goals dsimp only
  all_goals with_reducible first
    | exact le_1 (by with_reducible assumption)
    | exact le_2 _ (by with_reducible assumption)

end
theorem reset8 : True := by w_top off; trivial

section

local macro_rules | `(tactic| walk_at "eval Call") => `(tactic| (k_here; (with_reducible show wpAny _ _ (eval (Expr.Call (Expr.Name _ _) _ [] _) _) _ _ _); k_dflt (refine Call_ ?_)))
local macro_rules | `(tactic| walk_at "ite") => `(tactic| (k_here; first | (with_reducible refine ite_beqT (by omega) ?_) | (with_reducible refine ite_beqF (by omega) ?_) | (with_reducible refine ite_bneT (by omega) ?_) | (with_reducible refine ite_bneF (by omega) ?_) | (with_reducible refine ite_decT (by omega) ?_) | (with_reducible refine ite_decF (by omega) ?_)))
local macro_rules | `(tactic| walk_at "binaryOp FloorDiv int int") => `(tactic| (with_reducible refine fdivE (by omega) (by omega) ?_))
local macro_rules | `(tactic| walk_at "binaryOp Mod int int") => `(tactic| (with_reducible refine fmodE (by omega) ?_))
local macro_rules | `(tactic| walk_at "compareOp In int ref") => `(tactic| (k_here; k_dflt (refine' in_K4 ?k1 ?k2 ?k3 ?_ ?_; (case k1 => k_asm); (case k2 => k_asm); (case k3 => with_unfolding_all rfl)); all_goals (intro h9; (try ((exfalso; omega); done)))))
theorem fdivX {prog : Program} {w : World} {A : Around} {E : Value → Shared → Prop} {s : Shared} {a b : Int} {t u : Tok} {Q : Value → Shared → Prop} (hb : 0 < b) (hb' : b < 1073741824) (h : ∀ x : Int, x = a / b → ∀ k : Nat, Q (.int x k) { s with toks := s.toks + 1 }) :
    wpAny (model prog w) A (binaryOp .FloorDiv (.int a t) (.int b u)) Q E s := fdivE hb hb' (h _ rfl _)
theorem isubX {prog : Program} {w : World} {A : Around} {E : Value → Shared → Prop} {s : Shared} {a b : Int} {t u : Tok} {Q : Value → Shared → Prop} (h : ∀ x : Int, x = a - b → ∀ k : Nat, Q (.int x k) { s with toks := s.toks + 1 }) :
    wpAny (model prog w) A (inplaceOp .Sub (.int a t) (.int b u)) Q E s := PyProof.Rows.isub_int (h _ rfl _)
theorem minX {prog : Program} {w : World} {A : Around} {E : Value → Shared → Prop} {s : Shared} {h₀ : Heap} {L : Addr} {m : Str → Option Value} {news : Led} {a b : Int} {t u : Tok} {Q : Value → Shared → Prop} (hh : A.handled = none) (F : Fr h₀ L s.heap m) (N : News h₀ L s.heap news)
    (h : ∀ (x : Int) (k : Nat) (h' : Heap) (tk : Nat), (b < a → x = b) ∧ (¬ b < a → x = a) → Fr h₀ L h' m → News h₀ L h' news → Q (.int x k) { s with heap := h', toks := tk }) :
    wpAny (model prog w) A (call (.builtin "min") [.int a t, .int b u]) Q E s :=
  min_two_N hh F N (fun h' tk F' N' => h _ _ h' tk ⟨fun c => if_pos c, fun c => if_neg c⟩ F' N')
def mar1 (Y : Int) : Int := 1721120 + 365 * Y + Y / 4 - Y / 100 + Y / 400
theorem leap_bi (Y : Int) : bi (leapG Y) = (Y / 4 - (Y - 1) / 4) - (Y / 100 - (Y - 1) / 100) + (Y / 400 - (Y - 1) / 400) := by
  by_cases h4 : Y % 4 = 0
  · by_cases h100 : Y % 100 = 0
    · by_cases h400 : Y % 400 = 0
      · rw [leapG_t h4 (.inr h400)]; show (1 : Int) = _; omega
      · have e : leapG Y = false := by simp [leapG, h100, h400]
        rw [e]; show (0 : Int) = _; omega
    · rw [leapG_t h4 (.inl h100)]; show (1 : Int) = _; omega
  · have e : leapG Y = false := by simp [leapG, h4]
    rw [e]; show (0 : Int) = _; omega
theorem mar1_is (Y : Int) : gJD Y 1 1 + 59 + bi (leapG Y) = mar1 Y := by
  rw [leap_bi, gJD_11]; unfold mar1; omega
theorem mar1_next (Y : Int) : gJD (Y + 1) 1 1 = mar1 Y + 306 := by
  rw [gJD_11, Int.add_sub_cancel]; unfold mar1; omega
theorem civ_core {n R l0 q1 h l1 f l2 q2 o l3 : Int} (hR : R = (n - 1721120).fdiv 146097) (hl0 : l0 = (n - 1721120).fmod 146097) (hq1 : q1 = l0 / 36524) (hh : (3 < q1 → h = 3) ∧ (¬ 3 < q1 → h = q1)) (hl1 : l1 = l0 - 36524 * h)
    (hf : f = l1 / 1461) (hl2 : l2 = l1 - 1461 * f) (hq2 : q2 = l2 / 365) (ho : (3 < q2 → o = 3) ∧ (¬ 3 < q2 → o = q2)) (hl3 : l3 = l2 - 365 * o) :
    n = mar1 (400 * R + 100 * h + 4 * f + o) + l3 ∧ 0 ≤ l3 ∧ l3 ≤ 364 + bi (leapG (400 * R + 100 * h + 4 * f + o + 1)) := by
  rw [Int.fdiv_eq_ediv_of_nonneg _ (by decide)] at hR
  rw [Int.fmod_eq_emod_of_nonneg _ (by decide)] at hl0
  have hn : n = 1721120 + 146097 * R + l0 := by omega
  have a0 : 0 ≤ l0 := by omega
  have a1 : l0 ≤ 146096 := by omega
  clear hR hl0
  have b0 : 0 ≤ h := by omega
  have b1 : h ≤ 3 := by omega
  have c0 : 0 ≤ l1 := by omega
  have c1 : l1 ≤ 36524 := by omega
  have c2 : l1 = 36524 → h = 3 := by omega
  have d0 : 0 ≤ f := by omega
  have d1 : f ≤ 24 := by omega
  have e0 : 0 ≤ l2 := by omega
  have e1 : l2 ≤ 1460 := by omega
  have f0 : 0 ≤ o := by omega
  have f1 : o ≤ 3 := by omega
  have g0 : 0 ≤ l3 := by omega
  have g1 : l3 ≤ 365 := by omega
  have g2 : l3 = 365 → o = 3 ∧ (f = 24 → h = 3) := by omega
  have hn' : n = 1721120 + 146097 * R + 36524 * h + 1461 * f + 365 * o + l3 := by omega
  clear hq1 hh hl1 hf hl2 hq2 ho hl3 hn
  refine ⟨?_, g0, ?_⟩
  · unfold mar1
    have s1 : (400 * R + 100 * h + 4 * f + o) / 4 = 100 * R + 25 * h + f := by omega
    have s2 : (400 * R + 100 * h + 4 * f + o) / 100 = 4 * R + h := by omega
    have s3 : (400 * R + 100 * h + 4 * f + o) / 400 = R := by omega
    rw [s1, s2, s3]; omega
  · by_cases hx : l3 = 365
    · obtain ⟨o3, f24⟩ := g2 hx
      have hl : leapG (400 * R + 100 * h + 4 * f + o + 1) = true := leapG_t (by omega) (by omega)
      rw [hl]; show l3 ≤ 364 + 1; omega
    · have := bi_01 (leapG (400 * R + 100 * h + 4 * f + o + 1)); omega
theorem civ_3 {Y n l3 lf : Int} (hn : n = mar1 Y + l3) (h0 : 0 ≤ lf) (hs : l3 = lf + 0) (hl : lf < 31) : okD Y 3 (lf + 1) ∧ gJD Y 3 (lf + 1) = n := by
  have e := mar1_is Y
  refine ⟨⟨by decide, by decide, by omega, ?_⟩, ?_⟩
  · rw [mlen_3]; omega
  · rw [gJD_off, off_3]; omega
theorem civ_4 {Y n l3 lf : Int} (hn : n = mar1 Y + l3) (h0 : 0 ≤ lf) (hs : l3 = lf + 31) (hl : lf < 30) : okD Y 4 (lf + 1) ∧ gJD Y 4 (lf + 1) = n := by
  have e := mar1_is Y
  refine ⟨⟨by decide, by decide, by omega, ?_⟩, ?_⟩
  · rw [mlen_4]; omega
  · rw [gJD_off, off_4]; omega
theorem civ_5 {Y n l3 lf : Int} (hn : n = mar1 Y + l3) (h0 : 0 ≤ lf) (hs : l3 = lf + 61) (hl : lf < 31) : okD Y 5 (lf + 1) ∧ gJD Y 5 (lf + 1) = n := by
  have e := mar1_is Y
  refine ⟨⟨by decide, by decide, by omega, ?_⟩, ?_⟩
  · rw [mlen_5]; omega
  · rw [gJD_off, off_5]; omega
theorem civ_6 {Y n l3 lf : Int} (hn : n = mar1 Y + l3) (h0 : 0 ≤ lf) (hs : l3 = lf + 92) (hl : lf < 30) : okD Y 6 (lf + 1) ∧ gJD Y 6 (lf + 1) = n := by
  have e := mar1_is Y
  refine ⟨⟨by decide, by decide, by omega, ?_⟩, ?_⟩
  · rw [mlen_6]; omega
  · rw [gJD_off, off_6]; omega
theorem civ_7 {Y n l3 lf : Int} (hn : n = mar1 Y + l3) (h0 : 0 ≤ lf) (hs : l3 = lf + 122) (hl : lf < 31) : okD Y 7 (lf + 1) ∧ gJD Y 7 (lf + 1) = n := by
  have e := mar1_is Y
  refine ⟨⟨by decide, by decide, by omega, ?_⟩, ?_⟩
  · rw [mlen_7]; omega
  · rw [gJD_off, off_7]; omega
theorem civ_8 {Y n l3 lf : Int} (hn : n = mar1 Y + l3) (h0 : 0 ≤ lf) (hs : l3 = lf + 153) (hl : lf < 31) : okD Y 8 (lf + 1) ∧ gJD Y 8 (lf + 1) = n := by
  have e := mar1_is Y
  refine ⟨⟨by decide, by decide, by omega, ?_⟩, ?_⟩
  · rw [mlen_8]; omega
  · rw [gJD_off, off_8]; omega
theorem civ_9 {Y n l3 lf : Int} (hn : n = mar1 Y + l3) (h0 : 0 ≤ lf) (hs : l3 = lf + 184) (hl : lf < 30) : okD Y 9 (lf + 1) ∧ gJD Y 9 (lf + 1) = n := by
  have e := mar1_is Y
  refine ⟨⟨by decide, by decide, by omega, ?_⟩, ?_⟩
  · rw [mlen_9]; omega
  · rw [gJD_off, off_9]; omega
theorem civ_10 {Y n l3 lf : Int} (hn : n = mar1 Y + l3) (h0 : 0 ≤ lf) (hs : l3 = lf + 214) (hl : lf < 31) : okD Y 10 (lf + 1) ∧ gJD Y 10 (lf + 1) = n := by
  have e := mar1_is Y
  refine ⟨⟨by decide, by decide, by omega, ?_⟩, ?_⟩
  · rw [mlen_10]; omega
  · rw [gJD_off, off_10]; omega
theorem civ_11 {Y n l3 lf : Int} (hn : n = mar1 Y + l3) (h0 : 0 ≤ lf) (hs : l3 = lf + 245) (hl : lf < 30) : okD Y 11 (lf + 1) ∧ gJD Y 11 (lf + 1) = n := by
  have e := mar1_is Y
  refine ⟨⟨by decide, by decide, by omega, ?_⟩, ?_⟩
  · rw [mlen_11]; omega
  · rw [gJD_off, off_11]; omega
theorem civ_12 {Y n l3 lf : Int} (hn : n = mar1 Y + l3) (h0 : 0 ≤ lf) (hs : l3 = lf + 275) (hl : lf < 31) : okD Y 12 (lf + 1) ∧ gJD Y 12 (lf + 1) = n := by
  have e := mar1_is Y
  refine ⟨⟨by decide, by decide, by omega, ?_⟩, ?_⟩
  · rw [mlen_12]; omega
  · rw [gJD_off, off_12]; omega
theorem civ_13 {Y n l3 lf : Int} (hn : n = mar1 Y + l3) (h0 : 0 ≤ lf) (hs : l3 = lf + 306) (hl : lf < 31) : okD (Y + 1) 1 (lf + 1) ∧ gJD (Y + 1) 1 (lf + 1) = n := by
  have e := mar1_next Y
  refine ⟨⟨by decide, by decide, by omega, ?_⟩, ?_⟩
  · rw [mlen_1]; omega
  · rw [gJD_off, off_1]; omega
theorem civ_14 {Y n l3 lf : Int} (hn : n = mar1 Y + l3) (h0 : 0 ≤ lf) (hs : l3 = lf + 337) (hb : l3 ≤ 364 + bi (leapG (Y + 1))) : okD (Y + 1) 2 (lf + 1) ∧ gJD (Y + 1) 2 (lf + 1) = n := by
  have e := mar1_next Y
  refine ⟨⟨by decide, by decide, by omega, ?_⟩, ?_⟩
  · rw [mlen_2]; omega
  · rw [gJD_off, off_2]; omega
section
local macro_rules | `(tactic| walk_at "pad 1 0") => `(tactic| skip)
local macro_rules | `(tactic| walk_at "pad 1 1") => `(tactic| skip)
local macro_rules | `(tactic| walk_at "pad 1 2") => `(tactic| skip)
local macro_rules | `(tactic| walk_at "pad 1 3") => `(tactic| skip)
local macro_rules | `(tactic| walk_at "pad 1 4") => `(tactic| skip)
local macro_rules | `(tactic| walk_at "pad 1 5") => `(tactic| skip)
local macro_rules | `(tactic| walk_at "pad 1 6") => `(tactic| skip)
local macro_rules | `(tactic| walk_at "pad 1 7") => `(tactic| skip)
local macro_rules | `(tactic| walk_at "pad 1 8") => `(tactic| skip)
local macro_rules | `(tactic| walk_at "pad 1 9") => `(tactic| skip)
local macro_rules | `(tactic| walk_at "pad 1 10") => `(tactic| skip)
local macro_rules | `(tactic| walk_at "pad 1 11") => `(tactic| skip)
local macro_rules | `(tactic| walk_at "pad 1 12") => `(tactic| skip)
local macro_rules | `(tactic| walk_at "pad 1 13") => `(tactic| skip)
local macro_rules | `(tactic| walk_at "pad 1 14") => `(tactic| skip)
local macro_rules | `(tactic| walk_at "pad 1 15") => `(tactic| skip)
local macro_rules | `(tactic| walk_at "pad 1 16") => `(tactic| skip)
local macro_rules | `(tactic| walk_at "pad 1 17") => `(tactic| skip)
local macro_rules | `(tactic| walk_at "pad 1 18") => `(tactic| skip)
local macro_rules | `(tactic| walk_at "pad 1 19") => `(tactic| skip)
local macro_rules | `(tactic| walk_at "pad 1 20") => `(tactic| skip)
local macro_rules | `(tactic| walk_at "binaryOp FloorDiv int int") => `(tactic| ((with_reducible refine fdivX (by omega) (by omega) ?_); intro x hx k9))
local macro_rules | `(tactic| walk_at "inplaceOp Sub int int") => `(tactic| ((with_reducible refine isubX ?_); intro x hx k9))
local macro_rules | `(tactic| walk_at "call builtin:min") => `(tactic| (k_here; k_dflt (refine' minX ?k1 ?k2 ?k3 ?_; (case k1 => with_unfolding_all rfl); (case k2 => k_asm); (case k3 => k_asm)); intro x k9 h' tk hx F' N'))
local macro_rules | `(tactic| walk_at "ite") => `(tactic| (k_here; first | (with_reducible refine ite_decT (by decide) ?_) | (with_reducible refine ite_decF (by decide) ?_) | (with_reducible refine split_dec ?_ ?_ <;> intro _)))
theorem law_civil_cl (news : Led) (n : Int) (t : Tok) : Cl 143 1 [.int n t] news (RetT news (fun y m d => okD y m d ∧ gJD y m d = n)) := by
  (try unfold Cl); unfold ClK RetT
  k_fill
  intro w s₀ mg mb dp un gd cn cs a ccd cl outer A₀ base h₀ L M s Q E B F X N T hk hdp hun hret
  refine wpAny_call ?_
  k_dflt cell_enter
  k_steps
  all_goals refine hret _ _ _ _ _ _ _ _ _ _ ?_ (by with_reducible assumption) (by first | with_reducible assumption | exact cb_drop (by with_reducible assumption) (by with_reducible repeat' (first | exact sub_refl _ | refine sub_cons ?_ | refine sub_skip ?_ | refine sub_app ?_))) (by first | with_reducible assumption | exact allLt_of (by with_reducible assumption) | exact allLt_r (by with_reducible assumption) | exact allLt_r2 (by with_reducible assumption) | exact allLt_sub (by with_reducible assumption) (by with_reducible repeat' (first | exact sub_refl _ | refine sub_cons ?_ | refine sub_skip ?_ | refine sub_app ?_)) | exact allLt_sub (allLt_of (by with_reducible assumption)) (by with_reducible repeat' (first | exact sub_refl _ | refine sub_cons ?_ | refine sub_skip ?_ | refine sub_app ?_)))
  all_goals dsimp only
  all_goals (have core := civ_core (n := n) rfl rfl (by with_reducible assumption) (by with_reducible assumption) (by with_reducible assumption) (by with_reducible assumption) (by with_reducible assumption) (by with_reducible assumption) (by with_reducible assumption) (by with_reducible assumption); obtain ⟨c1, c2, c3⟩ := core)
  · exact civ_3 c1 (by omega) (by omega) (by omega)
  · exact civ_4 c1 (by omega) (by omega) (by omega)
  · exact civ_5 c1 (by omega) (by omega) (by omega)
  · exact civ_6 c1 (by omega) (by omega) (by omega)
  · exact civ_7 c1 (by omega) (by omega) (by omega)
  · exact civ_8 c1 (by omega) (by omega) (by omega)
  · exact civ_9 c1 (by omega) (by omega) (by omega)
  · exact civ_10 c1 (by omega) (by omega) (by omega)
  · exact civ_11 c1 (by omega) (by omega) (by omega)
  · exact civ_12 c1 (by omega) (by omega) (by omega)
  · exact civ_13 c1 (by omega) (by omega) (by omega)
  · exact civ_14 c1 (by omega) (by omega) c3
end

end
theorem reset9 : True := by w_top off; trivial

section
local macro_rules | `(tactic| walk_at "pad part 9 0") => `(tactic| skip)
local macro_rules | `(tactic| walk_at "pad part 9 1") => `(tactic| skip)
local macro_rules | `(tactic| walk_at "pad part 9 2") => `(tactic| skip)
local macro_rules | `(tactic| walk_at "pad part 9 3") => `(tactic| skip)
local macro_rules | `(tactic| walk_at "pad part 9 4") => `(tactic| skip)
local macro_rules | `(tactic| walk_at "pad part 9 5") => `(tactic| skip)
local macro_rules | `(tactic| walk_at "pad part 9 6") => `(tactic| skip)
local macro_rules | `(tactic| walk_at "pad part 9 7") => `(tactic| skip)
local macro_rules | `(tactic| walk_at "pad part 9 8") => `(tactic| skip)
local macro_rules | `(tactic| walk_at "pad part 9 9") => `(tactic| skip)
local macro_rules | `(tactic| walk_at "pad part 9 10") => `(tactic| skip)
local macro_rules | `(tactic| walk_at "pad part 9 11") => `(tactic| skip)
local macro_rules | `(tactic| walk_at "pad part 9 12") => `(tactic| skip)
local macro_rules | `(tactic| walk_at "pad part 9 13") => `(tactic| skip)
local macro_rules | `(tactic| walk_at "pad part 9 14") => `(tactic| skip)
local macro_rules | `(tactic| walk_at "pad part 9 15") => `(tactic| skip)
local macro_rules | `(tactic| walk_at "pad part 9 16") => `(tactic| skip)
local macro_rules | `(tactic| walk_at "pad part 9 17") => `(tactic| skip)
local macro_rules | `(tactic| walk_at "pad part 9 18") => `(tactic| skip)
local macro_rules | `(tactic| walk_at "pad part 9 19") => `(tactic| skip)
local macro_rules | `(tactic| walk_at "pad part 9 20") => `(tactic| skip)
local macro_rules | `(tactic| walk_at "pad part 9 21") => `(tactic| skip)
local macro_rules | `(tactic| walk_at "pad part 9 22") => `(tactic| skip)
local macro_rules | `(tactic| walk_at "pad part 9 23") => `(tactic| skip)
local macro_rules | `(tactic| walk_at "pad part 9 24") => `(tactic| skip)
local macro_rules | `(tactic| walk_at "pad part 9 25") => `(tactic| skip)
local macro_rules | `(tactic| walk_at "pad part 9 26") => `(tactic| skip)
local macro_rules | `(tactic| walk_at "pad part 9 27") => `(tactic| skip)
local macro_rules | `(tactic| walk_at "pad part 9 28") => `(tactic| skip)
local macro_rules | `(tactic| walk_at "pad part 9 29") => `(tactic| skip)
local macro_rules | `(tactic| walk_at "pad part 9 30") => `(tactic| skip)
local macro_rules | `(tactic| walk_at "pad part 9 31") => `(tactic| skip)
local macro_rules | `(tactic| walk_at "pad part 9 32") => `(tactic| skip)
local macro_rules | `(tactic| walk_at "pad part 9 33") => `(tactic| skip)
local macro_rules | `(tactic| walk_at "pad part 9 34") => `(tactic| skip)
local macro_rules | `(tactic| walk_at "pad part 9 35") => `(tactic| skip)
local macro_rules | `(tactic| walk_at "pad part 9 36") => `(tactic| skip)
local macro_rules | `(tactic| walk_at "pad part 9 37") => `(tactic| skip)
local macro_rules | `(tactic| walk_at "pad part 9 38") => `(tactic| skip)
local macro_rules | `(tactic| walk_at "pad part 9 39") => `(tactic| skip)
local macro_rules | `(tactic| walk_at "eval Call") => `(tactic| (k_here; (with_reducible show wpAny _ _ (eval (Expr.Call (Expr.Name _ _) _ [] _) _) _ _ _); k_dflt (refine Call_ ?_)))
local macro_rules | `(tactic| walk_at "ite") => `(tactic| (k_here; first | (with_reducible refine ite_beqT (by omega) ?_) | (with_reducible refine ite_beqF (by omega) ?_) | (with_reducible refine ite_bneT (by omega) ?_) | (with_reducible refine ite_bneF (by omega) ?_) | (with_reducible refine ite_decT (by omega) ?_) | (with_reducible refine ite_decF (by omega) ?_)))
local macro_rules | `(tactic| walk_at "binaryOp FloorDiv int int") => `(tactic| (with_reducible refine fdivE (by omega) (by omega) ?_))
local macro_rules | `(tactic| walk_at "binaryOp Mod int int") => `(tactic| (with_reducible refine fmodE (by omega) ?_))
local macro_rules | `(tactic| walk_at "compareOp In int ref") => `(tactic| (k_here; k_dflt (refine' in_K4 ?k1 ?k2 ?k3 ?_ ?_; (case k1 => k_asm); (case k2 => k_asm); (case k3 => with_unfolding_all rfl)); all_goals (intro h9; (try ((exfalso; omega); done)))))
section
open PySem.Spec LCg LCt
def TupAt (h₀ : Heap) (ax : Addr) (its : Array Value) (news : Led) : Prop := h₀.IsTuple ax its ∨ ∃ o, (ax, o) ∈ news ∧ o.cls = .type "tuple" ∧ ∃ n, o.data = .seq its n
variable {prog : Program} {w : World} {A : Around} {E : Value → Shared → Prop} {s : Shared} {h₀ : Heap} {L : Addr} {m : Str → Option Value} {env : Env}
theorem TupAt.tup {h : Heap} {ax : Addr} {its : Array Value} {news : Led} (x : TupAt h₀ ax its news) (k : ∀ b o, h₀.get? b = some o → h.get? b = some o) (N : News h₀ L h news) : h.IsTuple ax its := by
  rcases x with ⟨o, e, r⟩ | ⟨o, hm, hc, n, hd⟩
  · exact ⟨o, k _ _ e, r⟩
  · exact ⟨o, (N _ hm).1, hc, n, hd⟩
theorem tup_st {ax I : Addr} {its : Array Value} : ∀ i (h h' : Heap) (o : Obj) (nw : Led), (h.IsTupleIter I ax i ∧ h.IsTuple ax its) → h.get? I = some o → h'.get? I = some o → (∀ b o, h₀.get? b = some o → h'.get? b = some o) → News h₀ L h' nw → TupAt h₀ ax its nw → (h'.IsTupleIter I ax i ∧ h'.IsTuple ax its) :=
  fun i h h' o nw st e e' k N S => ⟨st.1.at fun o' q => by rw [e] at q; cases q; exact e', S.tup k N⟩
def TSrc (prog : Program) (w : World) (A : Around) (h₀ : Heap) (L : Addr) (m : Str → Option Value) (env : Env) (ct elt : Expr) (x : Str) (scope : Scope) (cl : List (Str × Addr)) (Fin : Shared → List Value → Led → Prop) (xv : Value) (s₁ : Shared) : Prop :=
  ∃ ax its news, xv = .ref ax ∧ A.handled = none ∧ Fr h₀ L s₁.heap m ∧ News h₀ L s₁.heap news ∧ TupAt h₀ ax its news ∧ its.size ≤ sizeLine ∧
    ∀ g, CompRestT prog w A h₀ L m env ct elt x scope cl { s₁ with heap := g } (TupAt h₀ ax its) (fun i v => its[i]? = some v) (Fin { s₁ with heap := g }) its.size 0 [] news
theorem TSrc.ledger {ct elt : Expr} {x : Str} {scope : Scope} {cl : List (Str × Addr)} {Fin : Shared → List Value → Led → Prop} {ax : Addr} {its : Array Value} {k : Nat} {news : Led} {s₁ : Shared}
    (hh : A.handled = none) (F : Fr h₀ L s₁.heap m) (N : News h₀ L s₁.heap news) (hm : (ax, ({ cls := .type "tuple", data := .seq its k } : Obj)) ∈ news) (hsz : its.size ≤ sizeLine)
    (h : ∀ g, CompRestT prog w A h₀ L m env ct elt x scope cl { s₁ with heap := g } (TupAt h₀ ax its) (fun i v => its[i]? = some v) (Fin { s₁ with heap := g }) its.size 0 [] news) :
    TSrc prog w A h₀ L m env ct elt x scope cl Fin (.ref ax) s₁ := ⟨ax, its, news, rfl, hh, F, N, .inr ⟨_, hm, rfl, _, rfl⟩, hsz, h⟩
structure TupOn (h₀ g : Heap) (L : Addr) (m : Str → Option Value) (ax I : Addr) (its : Array Value) (news : Led) : Prop where
  stand : g.IsTupleIter I ax 0 ∧ g.IsTuple ax its
  room : ∀ b ∈ [I, ax], b < g.objs.size
  apart : ax ≠ I
  fr : Fr h₀ L g m
  ns : News h₀ L g news
  notL : L ≠ I
  fresh : h₀.get? I = none
  off : ∀ p ∈ news, p.1 ≠ I
theorem tup_on {h : Heap} {ax : Addr} {its : Array Value} {news : Led} (F : Fr h₀ L h m) (N : News h₀ L h news) (S : TupAt h₀ ax its news) :
    TupOn h₀ (h.push { cls := .type "tuple_iterator", data := .fields #[.ref ax, .int 0 0] }) L m ax h.objs.size its news := by
  have grow : ∀ b o, h.get? b = some o → (h.push { cls := .type "tuple_iterator", data := .fields #[.ref ax, .int 0 0] }).get? b = some o := fun _ _ e => Heap.get?_push_of_some _ e
  have below : ax < h.objs.size := (S.tup F.keep N).elim fun _ q => Heap.lt_size q.1
  exact {
    stand := ⟨⟨_, Heap.get?_push_size _ rfl, rfl, rfl⟩, S.tup (fun b o e => grow b o (F.keep b o e)) (N.grown grow)⟩
    room := by
      intro b hb
      have hs : (h.push { cls := .type "tuple_iterator", data := .fields #[.ref ax, .int 0 0] }).objs.size = h.objs.size + 1 := Heap.size_push ..
      have hb' : b = h.objs.size ∨ b = ax := by simpa using hb
      exact hs ▸ hb'.elim (fun e => e ▸ Nat.lt_succ_self _) (fun e => e ▸ Nat.lt_succ_of_lt below)
    apart := Nat.ne_of_lt below
    fr := F.keeps grow
    ns := N.grown grow
    notL := Nat.ne_of_lt F.ns.lt
    fresh := next_is_new F
    off := fun p hp => Nat.ne_of_lt (Heap.lt_size (N p hp).1) }
theorem comp_out {Q : Value → Shared → Prop} {s₂ : Shared} {D C : Addr} {h h' : Heap} {tk : Nat} {ys : List Value} {news : Led} (F : Fr h₀ L h m) (N : News h₀ L h ((D, lst ys) :: news)) (o : Off1 D news)
    (hC : h₀.get? C = none) (hL : C ≠ L) (hD : C ≠ D) (off : ∀ p ∈ news, p.1 ≠ C) (fin : FinE h₀ L m s₂ Q ys news) (hs : Heap.SameBut C h h') : Q (.ref D) { s₂ with heap := h', toks := tk } := by
  have away : ∀ p ∈ (D, lst ys) :: news, p.1 ≠ C := fun p hp => (List.mem_cons.mp hp).elim (fun e => e ▸ hD.symm) (off p)
  exact fin D h' tk (F.change hs hL hC) (fun p hp => ⟨(hs.2 p.1 (away p hp)).trans (N p hp).1, (N p hp).2⟩) o
theorem tup_iter {I ax : Addr} {its : Array Value} : ∀ (i : Nat) (h : Heap), (h.IsTupleIter I ax i ∧ h.IsTuple ax its) → ∃ o, h.get? I = some o := fun _ _ st => st.1.elim fun o q => ⟨o, q.1⟩
theorem comp_tupT {ct elt iter : Expr} {x : Str} {px : Pos} {scope : Scope} {cl : List (Str × Addr)} {pos : Pos} {Q : Value → Shared → Prop} (F₀ : Fr h₀ L s.heap m)
    (hclos : closureFor scope env = pure cl) (hcell : ∀ y ∈ scope.names, y.2 ≠ .cell) (hkind : scope.kind = .function)
    (hnames : ∀ y ∈ scope.names, y.2 = .local → scope.names.lookup y.1 = some .local) (hx : scope.names.lookup x = some .local)
    (h : wpAny (model prog w) A (eval iter env) (TSrc prog w A h₀ L m env ct elt x scope cl (fun s₂ => FinE h₀ L m s₂ Q)) E s)
    (hs : ∀ x, foldedSetIterable iter env x = pure x := by intro _; rfl) :
    wpAny (model prog w) A (eval (.ListComp elt [⟨.Name x px, iter, [ct], 0⟩] scope pos) env) Q E s := by
  rw [eval_ListComp]
  refine wpAny_comprehension_free (use := none) rfl hs hclos hkind hnames (wpAny_mono h ?_ fun _ _ e => e)
  rintro _ s₁ ⟨ax, its, news, rfl, hh, F, N, S, hsz, R⟩
  have o := tup_on F N S
  exact wpAny_pyIter_tuple (S.tup F.keep N) (block_T (Walks.tuple hh _ ax o.apart its) hsz tup_iter tup_st hcell hkind hx o.stand o.room o.fr o.ns o.notL o.fresh o.off S (R _)
    fun _ _ _ _ m' _ _ F' N' o1 hn hC₀ _ hCL _ hCD offC fin => ⟨m', hn, fun _ hs' => comp_out F' N' o1 hC₀ hCL hCD offC fin hs'⟩)
end
local macro_rules | `(tactic| walk_at "eval ListComp") => `(tactic| (k_here; lct_look; k_dflt (refine comp_tupT (F₀ := by k_asm) (by with_unfolding_all rfl) (by decide) (by rfl) (by decide) (by rfl) ?_)))
local macro_rules | `(tactic| walk_at "TSrc") => `(tactic| (k_here; k_dflt (refine TSrc.ledger (by rfl) (by k_asm) (by k_asm) (by k_mem) (by first | size_fits | exact Nat.le_of_ble_eq_true rfl) ?_; intro g'; lct_lit)))
local macro_rules | `(tactic| walk_at "CompEnd") => `(tactic| (k_here; k_dflt (refine LCg.CompEnd.intro (by with_reducible assumption) (by with_reducible assumption) _ (sub_refl _) (by with_reducible assumption) (Or.inr ⟨_, by k_mem, rfl, _, rfl⟩) ?_)))
theorem law_plain_cl (news : Led) (D : Addr) (y m d : Int) (t t' t'' : Tok) (c : Nat) (hD : (D, ({ cls := .type "tuple", data := .seq #[.int y t, .int m t', .int d t''] c } : Obj)) ∈ news) : Cl 148 1 [.ref D] news (RetB news (fun x => x = true)) := by
  (try unfold Cl); unfold ClK RetB
  k_fill
  intro w s₀ mg mb dp un gd cn cs a ccd cl outer A₀ base h₀ L M s Q E B F X N T hk hdp hun hret
  refine wpAny_call ?_
  k_dflt cell_enter
  k_steps
  all_goals exact hret _ _ _ rfl (by with_reducible assumption) (by first | with_reducible assumption | exact cb_drop (by with_reducible assumption) (by with_reducible repeat' (first | exact sub_refl _ | refine sub_cons ?_ | refine sub_skip ?_ | refine sub_app ?_)))
local macro_rules | `(tactic| walk_at "call ref") => `(tactic| (k_here; k_dflt (refine' use_cl (law_plain_cl _ _ _ _ _ _ _ _ _ ?p0) ?k1 ?k2 ?k3 ?k4 ?k5 ?kK ?kd ?ku ?_; (case k1 => k_asm); (case k2 => k_asm); (case k3 => k_asm); (case k4 => k_asm); (case k5 => k_asm); (case kK => first | exact rfl | assumption); (case kd => ktr_room); (case ku => ktr_units); (case p0 => (first | with_reducible assumption | with_reducible exact List.mem_cons_self | with_reducible exact List.mem_cons_of_mem _ (by with_reducible assumption) | with_reducible exact List.mem_cons_of_mem _ (List.mem_cons_self) | with_reducible exact List.mem_cons_of_mem _ (List.mem_cons_of_mem _ (by with_reducible assumption)) | with_reducible exact List.mem_cons_of_mem _ (List.mem_cons_of_mem _ (List.mem_cons_self)) | with_reducible exact List.mem_cons_of_mem _ (List.mem_cons_of_mem _ (List.mem_cons_of_mem _ (by with_reducible assumption))) | with_reducible exact List.mem_cons_of_mem _ (List.mem_cons_of_mem _ (List.mem_cons_of_mem _ (List.mem_cons_self))) | with_reducible exact List.mem_cons_of_mem _ (List.mem_cons_of_mem _ (List.mem_cons_of_mem _ (List.mem_cons_of_mem _ (by with_reducible assumption)))) | with_reducible exact List.mem_cons_of_mem _ (List.mem_cons_of_mem _ (List.mem_cons_of_mem _ (List.mem_cons_of_mem _ (List.mem_cons_self)))) | with_reducible exact List.mem_cons_of_mem _ (List.mem_cons_of_mem _ (List.mem_cons_of_mem _ (List.mem_cons_of_mem _ (List.mem_cons_of_mem _ (by with_reducible assumption))))) | with_reducible exact List.mem_cons_of_mem _ (List.mem_cons_of_mem _ (List.mem_cons_of_mem _ (List.mem_cons_of_mem _ (List.mem_cons_of_mem _ (List.mem_cons_self))))) | with_reducible exact List.mem_cons_of_mem _ (List.mem_cons_of_mem _ (List.mem_cons_of_mem _ (List.mem_cons_of_mem _ (List.mem_cons_of_mem _ (List.mem_cons_of_mem _ (by with_reducible assumption)))))) | with_reducible exact List.mem_cons_of_mem _ (List.mem_cons_of_mem _ (List.mem_cons_of_mem _ (List.mem_cons_of_mem _ (List.mem_cons_of_mem _ (List.mem_cons_of_mem _ (List.mem_cons_self)))))))); (unfold RetB; intro x h' tk' hx F9 N9; (try dsimp only at hx); subst hx; (try dsimp only); (try k_fold)))))
local macro_rules | `(tactic| walk_at "call ref") => `(tactic| (k_here; k_dflt (refine' use_cl (to_jd_g_cl _ _ _ _ _ _ _ ?p1 ?p2) ?k1 ?k2 ?k3 ?k4 ?k5 ?kK ?kd ?ku ?_; (case k1 => k_asm); (case k2 => k_asm); (case k3 => k_asm); (case k4 => k_asm); (case k5 => k_asm); (case kK => first | exact rfl | assumption); (case kd => ktr_room); (case ku => ktr_units); (case p1 => first | assumption | omega); (case p2 => first | assumption | exact mlen_one _ _); (unfold RetI; intro x t h' tk' hx F9 N9; (try dsimp only at hx); subst hx; (try dsimp only); (try k_fold)))))
theorem law_day_cl (news : Led) (D : Addr) (y m d : Int) (t t' t'' : Tok) (c : Nat) (hD : (D, ({ cls := .type "tuple", data := .seq #[.int y t, .int m t', .int d t''] c } : Obj)) ∈ news) (hd : okD y m d) : Cl 155 4 [.ref D] news (RetI news (fun x => x = gJD y m d)) := by
  obtain ⟨m1, m2, d0, d1⟩ := hd
  (try unfold Cl); unfold ClK RetI
  k_fill
  intro w s₀ mg mb dp un gd cn cs a ccd cl outer A₀ base h₀ L M s Q E B F X N T hk hdp hun hret
  refine wpAny_call ?_
  k_dflt cell_enter
  k_steps
  all_goals exact hret _ _ _ _ rfl (by with_reducible assumption) (by with_reducible assumption)
theorem off_step : ∀ (b : Bool) (i j : Fin 12), i < j → off b ((i.val : Nat) + 1 : Int) + mlen b ((i.val : Nat) + 1 : Int) ≤ off b ((j.val : Nat) + 1 : Int) := by decide +kernel
theorem off_lt {b : Bool} {m m' : Int} (h1 : 1 ≤ m) (h2 : m' ≤ 12) (h : m < m') : off b m + mlen b m ≤ off b m' := by
  obtain ⟨i, hi⟩ := Int.eq_ofNat_of_zero_le (show 0 ≤ m - 1 by omega)
  obtain ⟨j, hj⟩ := Int.eq_ofNat_of_zero_le (show 0 ≤ m' - 1 by omega)
  have a1 : i < 12 := by omega
  have a2 : j < 12 := by omega
  have e1 : m = (i : Int) + 1 := by omega
  have e2 : m' = (j : Int) + 1 := by omega
  have := off_step b ⟨i, a1⟩ ⟨j, a2⟩ (by show i < j; omega)
  rw [e1, e2]; exact this
theorem year_len (Y : Int) : gJD (Y + 1) 1 1 = gJD Y 1 1 + 365 + bi (leapG Y) := by
  have a := mar1_next Y; have b := mar1_is Y; omega
theorem year_mono {Y Z : Int} (h : Y < Z) : gJD (Y + 1) 1 1 ≤ gJD Z 1 1 := by
  rw [gJD_11, gJD_11]; omega
theorem off_range {b : Bool} {m d : Int} (h1 : 1 ≤ m) (h2 : m ≤ 12) (h3 : 0 < d) (h4 : d ≤ mlen b m) : 1 ≤ off b m + d ∧ off b m + d ≤ 365 + bi b := by
  have hb := bi_01 b
  rcases mon_cases h1 h2 with h | h | h | h | h | h | h | h | h | h | h | h <;> subst h
  · rw [mlen_1] at h4; rw [off_1]; omega
  · rw [mlen_2] at h4; rw [off_2]; omega
  · rw [mlen_3] at h4; rw [off_3]; omega
  · rw [mlen_4] at h4; rw [off_4]; omega
  · rw [mlen_5] at h4; rw [off_5]; omega
  · rw [mlen_6] at h4; rw [off_6]; omega
  · rw [mlen_7] at h4; rw [off_7]; omega
  · rw [mlen_8] at h4; rw [off_8]; omega
  · rw [mlen_9] at h4; rw [off_9]; omega
  · rw [mlen_10] at h4; rw [off_10]; omega
  · rw [mlen_11] at h4; rw [off_11]; omega
  · rw [mlen_12] at h4; rw [off_12]; omega
theorem gJD_year {y m d y' m' d' : Int} (h : okD y m d) (h' : okD y' m' d') (e : gJD y m d = gJD y' m' d') : ¬ y < y' := by
  intro hlt
  have a := off_range h.1 h.2.1 h.2.2.1 h.2.2.2
  have b := off_range h'.1 h'.2.1 h'.2.2.1 h'.2.2.2
  have c := year_mono hlt
  have c' := year_len y
  rw [gJD_off y m d, gJD_off y' m' d'] at e
  omega
theorem gJD_inj {y m d y' m' d' : Int} (h : okD y m d) (h' : okD y' m' d') (e : gJD y m d = gJD y' m' d') : y = y' ∧ m = m' ∧ d = d' := by
  have hy : y = y' := by
    have a := gJD_year h h' e
    have b := gJD_year h' h e.symm
    omega
  subst hy
  rw [gJD_off y m d, gJD_off y m' d'] at e
  have hm : m = m' := by
    rcases Int.lt_trichotomy m m' with hlt | heq | hgt
    · have a := off_lt (b := leapG y) h.1 h'.2.1 hlt
      have := h.2.2.2; have := h'.2.2.1; omega
    · exact heq
    · have a := off_lt (b := leapG y) h'.1 h.2.1 hgt
      have := h'.2.2.2; have := h.2.2.1; omega
  subst hm
  exact ⟨rfl, rfl, by omega⟩
theorem law_civil_at (news : Led) (n y m d : Int) (t : Tok) (hd : okD y m d) (he : gJD y m d = n) : Cl 143 1 [.int n t] news (RetT news (fun y' m' d' => y' = y ∧ m' = m ∧ d' = d)) := by
  intro w s₀ mg mb dp un gd cn cs a ccd cl outer A₀ base h₀ L M s Q E B F X N T hk hdp hun hret
  exact law_civil_cl news n t w s₀ mg mb dp un gd cn cs a ccd cl outer A₀ base h₀ L M s Q E B F X N T hk hdp hun
    (fun x y' z D t1 t2 t3 c h' tk' hx => hret x y' z D t1 t2 t3 c h' tk' (gJD_inj hx.1 hd (hx.2.trans he.symm)))
local macro_rules | `(tactic| walk_at "call ref") => `(tactic| (k_here; k_dflt (refine' use_cl (law_civil_at _ _ _ _ _ _ ?p0 ?p1) ?k1 ?k2 ?k3 ?k4 ?k5 ?kK ?kd ?ku ?_; (case k1 => k_asm); (case k2 => k_asm); (case k3 => k_asm); (case k4 => k_asm); (case k5 => k_asm); (case kK => first | exact rfl | assumption); (case kd => ktr_room); (case ku => ktr_units); (case p0 => with_reducible assumption); (case p1 => with_reducible assumption); (unfold RetT; intro x y z D t1 t2 t3 c h' tk' hx F9 N9 l9; (try dsimp only at hx); (obtain ⟨e1, e2, e3⟩ := hx); (replace e1 := e1.symm); (replace e2 := e2.symm); (replace e3 := e3.symm); subst e1; subst e2; subst e3; (have m9 := mem_of_news N9); (try k_lt l9); (try k_sweep); (try dsimp only); (try k_fold)))))
theorem eqv3 (x y z : Int) : PyData.eqv (.tuple [.int x, .int y, .int z]) (.tuple [.int x, .int y, .int z]) = true := by simp [PyData.eqv, PyData.eqvAll]
theorem eq3 {prog : Program} {w : World} {A : Around} {E : Value → Shared → Prop} {s : Shared} {h₀ : Heap} {L : Addr} {news : Led} {a b : Addr} {ca cb : Nat} {x y z : Int} {t1 t2 t3 u1 u2 u3 : Tok} {Q : Value → Shared → Prop}
    (N : News h₀ L s.heap news) (ha : (a, ({ cls := .type "tuple", data := .seq #[.int x t1, .int y t2, .int z t3] ca } : Obj)) ∈ news) (hb : (b, ({ cls := .type "tuple", data := .seq #[.int x u1, .int y u2, .int z u3] cb } : Obj)) ∈ news)
    (hu : A.units + 64 < cLine) (h : Q (.bool true) s) : wpAny (model prog w) A (compareOp .Eq (.ref a) (.ref b)) Q E s :=
  eq_dataH (reads_tuple_at (N.get ha) rfl rfl (.cons (.int _ _) (.cons (.int _ _) (.cons (.int _ _) .nil)))) (reads_tuple_at (N.get hb) rfl rfl (.cons (.int _ _) (.cons (.int _ _) (.cons (.int _ _) .nil)))) rfl rfl hu (by rw [eqv3]; exact h)
theorem ne3 {prog : Program} {w : World} {A : Around} {E : Value → Shared → Prop} {s : Shared} {h₀ : Heap} {L : Addr} {news : Led} {a b : Addr} {ca cb : Nat} {x y z : Int} {t1 t2 t3 u1 u2 u3 : Tok} {Q : Value → Shared → Prop}
    (N : News h₀ L s.heap news) (ha : (a, ({ cls := .type "tuple", data := .seq #[.int x t1, .int y t2, .int z t3] ca } : Obj)) ∈ news) (hb : (b, ({ cls := .type "tuple", data := .seq #[.int x u1, .int y u2, .int z u3] cb } : Obj)) ∈ news)
    (hu : A.units + 64 < cLine) (h : Q (.bool false) s) : wpAny (model prog w) A (compareOp .NotEq (.ref a) (.ref b)) Q E s :=
  ne_dataH (reads_tuple_at (N.get ha) rfl rfl (.cons (.int _ _) (.cons (.int _ _) (.cons (.int _ _) .nil)))) (reads_tuple_at (N.get hb) rfl rfl (.cons (.int _ _) (.cons (.int _ _) (.cons (.int _ _) .nil)))) rfl rfl hu (by rw [eqv3]; exact h)
local macro_rules | `(tactic| walk_at "compareOp Eq ref ref") => `(tactic| (k_here; k_dflt (refine' eq3 ?k1 ?k2 ?k3 ?k4 ?_; (case k1 => k_asm); (case k2 => (first | with_reducible assumption | with_reducible exact List.mem_cons_self | with_reducible exact List.mem_cons_of_mem _ (by with_reducible assumption) | with_reducible exact List.mem_cons_of_mem _ (List.mem_cons_self) | with_reducible exact List.mem_cons_of_mem _ (List.mem_cons_of_mem _ (by with_reducible assumption)) | with_reducible exact List.mem_cons_of_mem _ (List.mem_cons_of_mem _ (List.mem_cons_self)) | with_reducible exact List.mem_cons_of_mem _ (List.mem_cons_of_mem _ (List.mem_cons_of_mem _ (by with_reducible assumption))) | with_reducible exact List.mem_cons_of_mem _ (List.mem_cons_of_mem _ (List.mem_cons_of_mem _ (List.mem_cons_self))) | with_reducible exact List.mem_cons_of_mem _ (List.mem_cons_of_mem _ (List.mem_cons_of_mem _ (List.mem_cons_of_mem _ (by with_reducible assumption)))) | with_reducible exact List.mem_cons_of_mem _ (List.mem_cons_of_mem _ (List.mem_cons_of_mem _ (List.mem_cons_of_mem _ (List.mem_cons_self)))) | with_reducible exact List.mem_cons_of_mem _ (List.mem_cons_of_mem _ (List.mem_cons_of_mem _ (List.mem_cons_of_mem _ (List.mem_cons_of_mem _ (by with_reducible assumption))))) | with_reducible exact List.mem_cons_of_mem _ (List.mem_cons_of_mem _ (List.mem_cons_of_mem _ (List.mem_cons_of_mem _ (List.mem_cons_of_mem _ (List.mem_cons_self))))) | with_reducible exact List.mem_cons_of_mem _ (List.mem_cons_of_mem _ (List.mem_cons_of_mem _ (List.mem_cons_of_mem _ (List.mem_cons_of_mem _ (List.mem_cons_of_mem _ (by with_reducible assumption)))))) | with_reducible exact List.mem_cons_of_mem _ (List.mem_cons_of_mem _ (List.mem_cons_of_mem _ (List.mem_cons_of_mem _ (List.mem_cons_of_mem _ (List.mem_cons_of_mem _ (List.mem_cons_self)))))))); (case k3 => (first | with_reducible assumption | with_reducible exact List.mem_cons_self | with_reducible exact List.mem_cons_of_mem _ (by with_reducible assumption) | with_reducible exact List.mem_cons_of_mem _ (List.mem_cons_self) | with_reducible exact List.mem_cons_of_mem _ (List.mem_cons_of_mem _ (by with_reducible assumption)) | with_reducible exact List.mem_cons_of_mem _ (List.mem_cons_of_mem _ (List.mem_cons_self)) | with_reducible exact List.mem_cons_of_mem _ (List.mem_cons_of_mem _ (List.mem_cons_of_mem _ (by with_reducible assumption))) | with_reducible exact List.mem_cons_of_mem _ (List.mem_cons_of_mem _ (List.mem_cons_of_mem _ (List.mem_cons_self))) | with_reducible exact List.mem_cons_of_mem _ (List.mem_cons_of_mem _ (List.mem_cons_of_mem _ (List.mem_cons_of_mem _ (by with_reducible assumption)))) | with_reducible exact List.mem_cons_of_mem _ (List.mem_cons_of_mem _ (List.mem_cons_of_mem _ (List.mem_cons_of_mem _ (List.mem_cons_self)))) | with_reducible exact List.mem_cons_of_mem _ (List.mem_cons_of_mem _ (List.mem_cons_of_mem _ (List.mem_cons_of_mem _ (List.mem_cons_of_mem _ (by with_reducible assumption))))) | with_reducible exact List.mem_cons_of_mem _ (List.mem_cons_of_mem _ (List.mem_cons_of_mem _ (List.mem_cons_of_mem _ (List.mem_cons_of_mem _ (List.mem_cons_self))))) | with_reducible exact List.mem_cons_of_mem _ (List.mem_cons_of_mem _ (List.mem_cons_of_mem _ (List.mem_cons_of_mem _ (List.mem_cons_of_mem _ (List.mem_cons_of_mem _ (by with_reducible assumption)))))) | with_reducible exact List.mem_cons_of_mem _ (List.mem_cons_of_mem _ (List.mem_cons_of_mem _ (List.mem_cons_of_mem _ (List.mem_cons_of_mem _ (List.mem_cons_of_mem _ (List.mem_cons_self)))))))); (case k4 => ktr_units))))
local macro_rules | `(tactic| walk_at "compareOp NotEq ref ref") => `(tactic| (k_here; k_dflt (refine' ne3 ?k1 ?k2 ?k3 ?k4 ?_; (case k1 => k_asm); (case k2 => (first | with_reducible assumption | with_reducible exact List.mem_cons_self | with_reducible exact List.mem_cons_of_mem _ (by with_reducible assumption) | with_reducible exact List.mem_cons_of_mem _ (List.mem_cons_self) | with_reducible exact List.mem_cons_of_mem _ (List.mem_cons_of_mem _ (by with_reducible assumption)) | with_reducible exact List.mem_cons_of_mem _ (List.mem_cons_of_mem _ (List.mem_cons_self)) | with_reducible exact List.mem_cons_of_mem _ (List.mem_cons_of_mem _ (List.mem_cons_of_mem _ (by with_reducible assumption))) | with_reducible exact List.mem_cons_of_mem _ (List.mem_cons_of_mem _ (List.mem_cons_of_mem _ (List.mem_cons_self))) | with_reducible exact List.mem_cons_of_mem _ (List.mem_cons_of_mem _ (List.mem_cons_of_mem _ (List.mem_cons_of_mem _ (by with_reducible assumption)))) | with_reducible exact List.mem_cons_of_mem _ (List.mem_cons_of_mem _ (List.mem_cons_of_mem _ (List.mem_cons_of_mem _ (List.mem_cons_self)))) | with_reducible exact List.mem_cons_of_mem _ (List.mem_cons_of_mem _ (List.mem_cons_of_mem _ (List.mem_cons_of_mem _ (List.mem_cons_of_mem _ (by with_reducible assumption))))) | with_reducible exact List.mem_cons_of_mem _ (List.mem_cons_of_mem _ (List.mem_cons_of_mem _ (List.mem_cons_of_mem _ (List.mem_cons_of_mem _ (List.mem_cons_self))))) | with_reducible exact List.mem_cons_of_mem _ (List.mem_cons_of_mem _ (List.mem_cons_of_mem _ (List.mem_cons_of_mem _ (List.mem_cons_of_mem _ (List.mem_cons_of_mem _ (by with_reducible assumption)))))) | with_reducible exact List.mem_cons_of_mem _ (List.mem_cons_of_mem _ (List.mem_cons_of_mem _ (List.mem_cons_of_mem _ (List.mem_cons_of_mem _ (List.mem_cons_of_mem _ (List.mem_cons_self)))))))); (case k3 => (first | with_reducible assumption | with_reducible exact List.mem_cons_self | with_reducible exact List.mem_cons_of_mem _ (by with_reducible assumption) | with_reducible exact List.mem_cons_of_mem _ (List.mem_cons_self) | with_reducible exact List.mem_cons_of_mem _ (List.mem_cons_of_mem _ (by with_reducible assumption)) | with_reducible exact List.mem_cons_of_mem _ (List.mem_cons_of_mem _ (List.mem_cons_self)) | with_reducible exact List.mem_cons_of_mem _ (List.mem_cons_of_mem _ (List.mem_cons_of_mem _ (by with_reducible assumption))) | with_reducible exact List.mem_cons_of_mem _ (List.mem_cons_of_mem _ (List.mem_cons_of_mem _ (List.mem_cons_self))) | with_reducible exact List.mem_cons_of_mem _ (List.mem_cons_of_mem _ (List.mem_cons_of_mem _ (List.mem_cons_of_mem _ (by with_reducible assumption)))) | with_reducible exact List.mem_cons_of_mem _ (List.mem_cons_of_mem _ (List.mem_cons_of_mem _ (List.mem_cons_of_mem _ (List.mem_cons_self)))) | with_reducible exact List.mem_cons_of_mem _ (List.mem_cons_of_mem _ (List.mem_cons_of_mem _ (List.mem_cons_of_mem _ (List.mem_cons_of_mem _ (by with_reducible assumption))))) | with_reducible exact List.mem_cons_of_mem _ (List.mem_cons_of_mem _ (List.mem_cons_of_mem _ (List.mem_cons_of_mem _ (List.mem_cons_of_mem _ (List.mem_cons_self))))) | with_reducible exact List.mem_cons_of_mem _ (List.mem_cons_of_mem _ (List.mem_cons_of_mem _ (List.mem_cons_of_mem _ (List.mem_cons_of_mem _ (List.mem_cons_of_mem _ (by with_reducible assumption)))))) | with_reducible exact List.mem_cons_of_mem _ (List.mem_cons_of_mem _ (List.mem_cons_of_mem _ (List.mem_cons_of_mem _ (List.mem_cons_of_mem _ (List.mem_cons_of_mem _ (List.mem_cons_self)))))))); (case k4 => ktr_units))))
theorem law_so_cl (news : Led) (D : Addr) (y m d day n : Int) (t t' t'' u u' : Tok) (c : Nat) (hD : (D, ({ cls := .type "tuple", data := .seq #[.int y t, .int m t', .int d t''] c } : Obj)) ∈ news) (hd : okD y m d) (he : gJD y m d = n) (hn : day = n) :
    Cl 162 16 [.ref D, .int day u, .int n u'] news (RetB news (fun x => x = true)) := by
  (try unfold Cl); unfold ClK RetB
  k_fill
  intro w s₀ mg mb dp un gd cn cs a ccd cl outer A₀ base h₀ L M s Q E B F X N T hk hdp hun hret
  refine wpAny_call ?_
  k_dflt cell_enter
  k_steps
  all_goals exact hret _ _ _ rfl (by with_reducible assumption) (by first | with_reducible assumption | exact cb_drop (by with_reducible assumption) (by with_reducible repeat' (first | exact sub_refl _ | refine sub_cons ?_ | refine sub_skip ?_ | refine sub_app ?_)))

end
theorem reset10 : True := by w_top off; trivial

section

def loN (w : Nat) : Nat := bif Nat.beq w 0 then 1583 else (bif Nat.beq w 1 then 1586 else (bif Nat.beq w 2 then 2725 else (bif Nat.beq w 3 then 4995 else (bif Nat.beq w 4 then 1584 else (bif Nat.beq w 5 then 1595 else (bif Nat.beq w 6 then 2437 else (bif Nat.beq w 7 then 4609 else (bif Nat.beq w 8 then 6808 else (bif Nat.beq w 9 then 8601 else 0)))))))))
def hiN (w : Nat) : Nat := bif Nat.beq w 0 then 2698 else (bif Nat.beq w 1 then 4860 else (bif Nat.beq w 2 then 6483 else (bif Nat.beq w 3 then 6893 else (bif Nat.beq w 4 then 2092 else (bif Nat.beq w 5 then 4294 else (bif Nat.beq w 6 then 6395 else (bif Nat.beq w 7 then 8594 else (bif Nat.beq w 8 then 10793 else (bif Nat.beq w 9 then 12840 else 0)))))))))
def nchk (y : Nat) : Bool :=
  let g := y % 19
  let h := y / 100
  let q := h / 4
  let ej := (19 * g + 15) % 30
  let ew := (19 * g + 15 + h - (13 + 8 * h) / 25 - q) % 30
  let s := (y + y / 4) % 7
  let wj := (48 - s - ej) % 7
  let wk := 6 - (s + ew + 2 + 6 * h + q) % 7
  let mar := bif Nat.beq wk 6 && (Nat.beq ew 29 || (Nat.beq ew 28 && Nat.ble 11 g)) then 15 + ew + wk else 22 + ew + wk
  let up := 20 + ej + wj + h - q
  let w := (up - mar) / 7
  Nat.ble mar up && (bif Nat.ble 10 w then Nat.ble 7303 y else Nat.ble (loN w) y && Nat.ble y (hiN w))
noncomputable def allUp (n y : Nat) : Bool := Nat.rec (motive := fun _ => Nat → Bool) (fun _ => true) (fun _ ih y => nchk y && ih (y + 1)) n y
theorem allUp_get (n : Nat) : ∀ y, allUp n y = true → ∀ k, y ≤ k → k < y + n → nchk k = true := by
  induction n with
  | zero => intro y _ k h1 h2; omega
  | succ n ih =>
    intro y h k h1 h2
    have h' : (nchk y && allUp n (y + 1)) = true := h
    rw [Bool.and_eq_true] at h'
    by_cases e : k = y
    · rw [e]; exact h'.1
    · exact ih (y + 1) h'.2 k (by omega) (by omega)
theorem up_1583 : allUp 500 1583 = true := by decide +kernel
theorem up_2083 : allUp 500 2083 = true := by decide +kernel
theorem up_2583 : allUp 500 2583 = true := by decide +kernel
theorem up_3083 : allUp 500 3083 = true := by decide +kernel
theorem up_3583 : allUp 500 3583 = true := by decide +kernel
theorem up_4083 : allUp 500 4083 = true := by decide +kernel
theorem up_4583 : allUp 500 4583 = true := by decide +kernel
theorem up_5083 : allUp 500 5083 = true := by decide +kernel
theorem up_5583 : allUp 500 5583 = true := by decide +kernel
theorem up_6083 : allUp 500 6083 = true := by decide +kernel
theorem up_6583 : allUp 500 6583 = true := by decide +kernel
theorem up_7083 : allUp 500 7083 = true := by decide +kernel
theorem up_7583 : allUp 500 7583 = true := by decide +kernel
theorem up_8083 : allUp 500 8083 = true := by decide +kernel
theorem up_8583 : allUp 500 8583 = true := by decide +kernel
theorem up_9083 : allUp 500 9083 = true := by decide +kernel
theorem up_9583 : allUp 500 9583 = true := by decide +kernel
theorem up_10083 : allUp 500 10083 = true := by decide +kernel
theorem up_10583 : allUp 500 10583 = true := by decide +kernel
theorem up_11083 : allUp 500 11083 = true := by decide +kernel
theorem up_11583 : allUp 500 11583 = true := by decide +kernel
theorem up_12083 : allUp 500 12083 = true := by decide +kernel
theorem up_12583 : allUp 500 12583 = true := by decide +kernel
theorem up_13083 : allUp 500 13083 = true := by decide +kernel
theorem up_13583 : allUp 500 13583 = true := by decide +kernel
theorem up_14083 : allUp 17 14083 = true := by decide +kernel
theorem nchk_all {k : Nat} (h1 : 1583 ≤ k) (h2 : k < 14100) : nchk k = true := by
  by_cases c0 : k < 2083
  · exact allUp_get 500 1583 up_1583 k (by omega) (by omega)
  by_cases c1 : k < 2583
  · exact allUp_get 500 2083 up_2083 k (by omega) (by omega)
  by_cases c2 : k < 3083
  · exact allUp_get 500 2583 up_2583 k (by omega) (by omega)
  by_cases c3 : k < 3583
  · exact allUp_get 500 3083 up_3083 k (by omega) (by omega)
  by_cases c4 : k < 4083
  · exact allUp_get 500 3583 up_3583 k (by omega) (by omega)
  by_cases c5 : k < 4583
  · exact allUp_get 500 4083 up_4083 k (by omega) (by omega)
  by_cases c6 : k < 5083
  · exact allUp_get 500 4583 up_4583 k (by omega) (by omega)
  by_cases c7 : k < 5583
  · exact allUp_get 500 5083 up_5083 k (by omega) (by omega)
  by_cases c8 : k < 6083
  · exact allUp_get 500 5583 up_5583 k (by omega) (by omega)
  by_cases c9 : k < 6583
  · exact allUp_get 500 6083 up_6083 k (by omega) (by omega)
  by_cases c10 : k < 7083
  · exact allUp_get 500 6583 up_6583 k (by omega) (by omega)
  by_cases c11 : k < 7583
  · exact allUp_get 500 7083 up_7083 k (by omega) (by omega)
  by_cases c12 : k < 8083
  · exact allUp_get 500 7583 up_7583 k (by omega) (by omega)
  by_cases c13 : k < 8583
  · exact allUp_get 500 8083 up_8083 k (by omega) (by omega)
  by_cases c14 : k < 9083
  · exact allUp_get 500 8583 up_8583 k (by omega) (by omega)
  by_cases c15 : k < 9583
  · exact allUp_get 500 9083 up_9083 k (by omega) (by omega)
  by_cases c16 : k < 10083
  · exact allUp_get 500 9583 up_9583 k (by omega) (by omega)
  by_cases c17 : k < 10583
  · exact allUp_get 500 10083 up_10083 k (by omega) (by omega)
  by_cases c18 : k < 11083
  · exact allUp_get 500 10583 up_10583 k (by omega) (by omega)
  by_cases c19 : k < 11583
  · exact allUp_get 500 11083 up_11083 k (by omega) (by omega)
  by_cases c20 : k < 12083
  · exact allUp_get 500 11583 up_11583 k (by omega) (by omega)
  by_cases c21 : k < 12583
  · exact allUp_get 500 12083 up_12083 k (by omega) (by omega)
  by_cases c22 : k < 13083
  · exact allUp_get 500 12583 up_12583 k (by omega) (by omega)
  by_cases c23 : k < 13583
  · exact allUp_get 500 13083 up_13083 k (by omega) (by omega)
  by_cases c24 : k < 14083
  · exact allUp_get 500 13583 up_13583 k (by omega) (by omega)
  exact allUp_get 17 14083 up_14083 k (by omega) (by omega)
def ejN (y : Nat) : Nat := (19 * (y % 19) + 15) % 30
def ewN (y : Nat) : Nat := (19 * (y % 19) + 15 + y / 100 - (13 + 8 * (y / 100)) / 25 - y / 100 / 4) % 30
def sN (y : Nat) : Nat := (y + y / 4) % 7
def wjN (y : Nat) : Nat := (48 - sN y - ejN y) % 7
def wkN (y : Nat) : Nat := 6 - (sN y + ewN y + 2 + 6 * (y / 100) + y / 100 / 4) % 7
def marN (y : Nat) : Nat := bif Nat.beq (wkN y) 6 && (Nat.beq (ewN y) 29 || (Nat.beq (ewN y) 28 && Nat.ble 11 (y % 19))) then 15 + ewN y + wkN y else 22 + ewN y + wkN y
def upN (y : Nat) : Nat := 20 + ejN y + wjN y + y / 100 - y / 100 / 4
theorem nchk_is (y : Nat) : nchk y = (Nat.ble (marN y) (upN y) && (bif Nat.ble 10 ((upN y - marN y) / 7) then Nat.ble 7303 y else Nat.ble (loN ((upN y - marN y) / 7)) y && Nat.ble y (hiN ((upN y - marN y) / 7)))) := rfl
theorem ej_cast (n : Nat) : epJ (n : Int) = (ejN n : Nat) := by unfold epJ ejN; omega
theorem ew_cast (n : Nat) : epW (n : Int) = (ewN n : Nat) := by
  unfold epW ewN
  have e1 : (n : Int) % 19 = ((n % 19 : Nat) : Int) := by omega
  have e2 : (n : Int) / 100 = ((n / 100 : Nat) : Int) := by omega
  rw [e1, e2]
  generalize n % 19 = g
  generalize n / 100 = h
  have e3 : (13 + 8 * (h : Int)) / 25 = (((13 + 8 * h) / 25 : Nat) : Int) := by omega
  have e4 : (h : Int) / 4 = ((h / 4 : Nat) : Int) := by omega
  have b1 : 25 * ((13 + 8 * h) / 25) ≤ 13 + 8 * h := by omega
  have b2 : 4 * (h / 4) ≤ h := by omega
  rw [e3, e4]
  generalize (13 + 8 * h) / 25 = a at *
  generalize h / 4 = b at *
  clear e3 e4 e1 e2
  have b3 : a + b ≤ 15 + h := by omega
  omega
theorem wk_cast (n : Nat) : wkW (n : Int) = (wkN n : Nat) := by
  have hw : wkW (n : Int) = 6 - ((n : Int) + (n : Int) / 4 + epW (n : Int) + 2 - ((n : Int) / 100 - (n : Int) / 100 / 4)) % 7 := by
    unfold wkW; rw [← west_wk]; congr 1; omega
  rw [hw, ew_cast]
  unfold wkN
  have hs : (sN n : Int) = ((n : Int) + (n : Int) / 4) % 7 := by unfold sN; omega
  have e2 : (n : Int) / 100 = ((n / 100 : Nat) : Int) := by omega
  rw [e2]
  generalize n / 100 = h
  have e4 : (h : Int) / 4 = ((h / 4 : Nat) : Int) := by omega
  rw [e4]
  generalize h / 4 = b
  generalize sN n = s at *
  generalize ewN n = e at *
  generalize (n : Int) + (n : Int) / 4 = z at *
  clear hw e2 e4
  omega
theorem mar_cast (n : Nat) : marW (n : Int) = (marN n : Nat) := by
  unfold marW marN
  rw [ew_cast, wk_cast]
  have hk : wkN n ≤ 6 := by unfold wkN; omega
  have he : ewN n ≤ 29 := by unfold ewN; omega
  generalize hE : ewN n = e at *
  generalize hK : wkN n = k at *
  have hg : ((n : Int) % 19 > 10) ↔ 11 ≤ n % 19 := by omega
  by_cases h : k = 6 ∧ (e = 29 ∨ (e = 28 ∧ 11 ≤ n % 19))
  · have hb : (Nat.beq k 6 && (Nat.beq e 29 || (Nat.beq e 28 && Nat.ble 11 (n % 19)))) = true := by
      simp only [Bool.and_eq_true, Bool.or_eq_true, Nat.beq_eq, Nat.ble_eq]; exact h
    rw [hb, if_pos ⟨by omega, by omega⟩]; simp only [cond_true]; omega
  · have hb : (Nat.beq k 6 && (Nat.beq e 29 || (Nat.beq e 28 && Nat.ble 11 (n % 19)))) = false := by
      rw [Bool.eq_false_iff]; intro q
      simp only [Bool.and_eq_true, Bool.or_eq_true, Nat.beq_eq, Nat.ble_eq] at q; exact h q
    rw [hb, if_neg (by omega)]; simp only [cond_false]; omega
theorem lawE_0 (y : Int) : lawE y 0 = 1721117 + 365 * y + y / 4 + (21 + epJ y) + 1 + (5 - (1721117 + 365 * y + y / 4 + (21 + epJ y))) % 7 := by
  unfold lawE lawFull
  rw [show (if y % 19 = 0 then (0 : Int) else 0) = 0 from by split <;> rfl, Int.add_zero]
theorem diff_is (y : Int) : lawE y 0 - lawW y = 20 + epJ y + (5 - (1721117 + 365 * y + y / 4 + (21 + epJ y))) % 7 + y / 100 - y / 100 / 4 - marW y := by
  rw [lawE_0]; unfold lawW; omega
theorem diff_cast (n : Nat) : lawE (n : Int) 0 - lawW (n : Int) = (upN n : Nat) - (marN n : Nat) := by
  rw [diff_is, mar_cast, ej_cast]
  have hj : ejN n ≤ 29 := by unfold ejN; omega
  have hw : (5 - (1721117 + 365 * (n : Int) + (n : Int) / 4 + (21 + (ejN n : Nat)))) % 7 = (wjN n : Nat) := by unfold wjN sN; omega
  rw [hw]; unfold upN; omega
def loW (k : Int) : Int := (loN k.toNat : Nat)
def hiW (k : Int) : Int := (hiN k.toNat : Nat)
theorem marW_range (y : Int) : 22 ≤ marW y ∧ marW y ≤ 56 := by
  have h1 : 0 ≤ epW y ∧ epW y ≤ 29 := by unfold epW; omega
  have h2 : 0 ≤ wkW y ∧ wkW y ≤ 6 := by unfold wkW; omega
  unfold marW
  split <;> omega
theorem west_day (y : Int) : okD y (monW y) (dayW y) ∧ gJD y (monW y) (dayW y) = lawW y := by
  have hr := marW_range y
  have hm := mar1_is y
  unfold mar1 at hm
  unfold okD monW dayW lawW
  by_cases h : marW y ≤ 31
  · simp only [if_pos h]
    rw [mlen_3, gJD_off, off_3]; omega
  · simp only [if_neg h]
    rw [mlen_4, gJD_off, off_4]; omega
theorem diff_seven (y : Int) : (lawE y 0 - lawW y) % 7 = 0 := by
  have hw : wkW y = 6 - (y + y / 4 + epW y + 2 - (y / 100 - y / 100 / 4)) % 7 := by
    unfold wkW; rw [← west_wk]; congr 1; omega
  rw [lawE_0]; unfold lawW marW
  split <;> omega
theorem weeks_all {y : Int} (h : 1583 ≤ y) : 0 ≤ lawE y 0 - lawW y ∧ (9 < (lawE y 0 - lawW y) / 7 → 7303 ≤ y) ∧ ((lawE y 0 - lawW y) / 7 < 10 → loW ((lawE y 0 - lawW y) / 7) ≤ y ∧ y ≤ hiW ((lawE y 0 - lawW y) / 7)) := by
  obtain ⟨n, rfl⟩ := Int.eq_ofNat_of_zero_le (show 0 ≤ y by omega)
  by_cases hb : n < 14100
  · have hc := nchk_all (by omega) hb
    rw [nchk_is, Bool.and_eq_true] at hc
    obtain ⟨c1, c2⟩ := hc
    rw [Nat.ble_eq] at c1
    have hd := diff_cast n
    rw [hd]
    have hw : ((upN n : Nat) - (marN n : Nat) : Int) / 7 = (((upN n - marN n) / 7 : Nat) : Int) := by omega
    rw [hw]
    generalize (upN n - marN n) / 7 = w at *
    refine ⟨by omega, fun q => ?_, fun q => ?_⟩
    · have : Nat.ble 10 w = true := Nat.ble_eq ▸ (by omega : 10 ≤ w)
      rw [this, cond_true, Nat.ble_eq] at c2; omega
    · have : Nat.ble 10 w = false := by rw [Bool.eq_false_iff]; intro r; rw [Nat.ble_eq] at r; omega
      rw [this, cond_false, Bool.and_eq_true, Nat.ble_eq, Nat.ble_eq] at c2
      unfold loW hiW; rw [Int.toNat_natCast]; omega
  · have hm := marW_range (n : Int)
    have hj : 0 ≤ epJ (n : Int) := by unfold epJ; omega
    have hd := diff_is (n : Int)
    have h70 : 70 ≤ lawE (n : Int) 0 - lawW (n : Int) := by rw [hd]; omega
    generalize lawE (n : Int) 0 - lawW (n : Int) = d at *
    clear hd
    omega
theorem weeks_law {y : Int} (h : 1583 ≤ y) : (lawE y 0 - lawW y).fmod 7 = 0 ∧ 0 ≤ (lawE y 0 - lawW y).fdiv 7 ∧ (9 < (lawE y 0 - lawW y).fdiv 7 → 7303 ≤ y) ∧ ((lawE y 0 - lawW y).fdiv 7 < 10 → loW ((lawE y 0 - lawW y).fdiv 7) ≤ y ∧ y ≤ hiW ((lawE y 0 - lawW y).fdiv 7)) := by
  rw [Int.fmod_eq_emod_of_nonneg _ (by decide), Int.fdiv_eq_ediv_of_nonneg _ (by decide)]
  obtain ⟨a, b, c⟩ := weeks_all h
  exact ⟨diff_seven y, by omega, b, c⟩

end
theorem reset11 : True := by w_top off; trivial

section

local macro_rules | `(tactic| walk_at "eval Call") => `(tactic| (k_here; (with_reducible show wpAny _ _ (eval (Expr.Call (Expr.Name _ _) _ [] _) _) _ _ _); k_dflt (refine Call_ ?_)))
local macro_rules | `(tactic| walk_at "ite") => `(tactic| (k_here; first | (with_reducible refine ite_beqT (by omega) ?_) | (with_reducible refine ite_beqF (by omega) ?_) | (with_reducible refine ite_bneT (by omega) ?_) | (with_reducible refine ite_bneF (by omega) ?_) | (with_reducible refine ite_decT (by omega) ?_) | (with_reducible refine ite_decF (by omega) ?_)))
local macro_rules | `(tactic| walk_at "binaryOp FloorDiv int int") => `(tactic| (with_reducible refine fdivE (by omega) (by omega) ?_))
local macro_rules | `(tactic| walk_at "binaryOp Mod int int") => `(tactic| (with_reducible refine fmodE (by omega) ?_))
local macro_rules | `(tactic| walk_at "compareOp In int ref") => `(tactic| (k_here; k_dflt (refine' in_K4 ?k1 ?k2 ?k3 ?_ ?_; (case k1 => k_asm); (case k2 => k_asm); (case k3 => with_unfolding_all rfl)); all_goals (intro h9; (try ((exfalso; omega); done)))))
local macro_rules | `(tactic| walk_at "compareOp Eq ref ref") => `(tactic| (k_here; k_dflt (refine' eq3 ?k1 ?k2 ?k3 ?k4 ?_; (case k1 => k_asm); (case k2 => (first | with_reducible assumption | with_reducible exact List.mem_cons_self | with_reducible exact List.mem_cons_of_mem _ (by with_reducible assumption) | with_reducible exact List.mem_cons_of_mem _ (List.mem_cons_self) | with_reducible exact List.mem_cons_of_mem _ (List.mem_cons_of_mem _ (by with_reducible assumption)) | with_reducible exact List.mem_cons_of_mem _ (List.mem_cons_of_mem _ (List.mem_cons_self)) | with_reducible exact List.mem_cons_of_mem _ (List.mem_cons_of_mem _ (List.mem_cons_of_mem _ (by with_reducible assumption))) | with_reducible exact List.mem_cons_of_mem _ (List.mem_cons_of_mem _ (List.mem_cons_of_mem _ (List.mem_cons_self))) | with_reducible exact List.mem_cons_of_mem _ (List.mem_cons_of_mem _ (List.mem_cons_of_mem _ (List.mem_cons_of_mem _ (by with_reducible assumption)))) | with_reducible exact List.mem_cons_of_mem _ (List.mem_cons_of_mem _ (List.mem_cons_of_mem _ (List.mem_cons_of_mem _ (List.mem_cons_self)))) | with_reducible exact List.mem_cons_of_mem _ (List.mem_cons_of_mem _ (List.mem_cons_of_mem _ (List.mem_cons_of_mem _ (List.mem_cons_of_mem _ (by with_reducible assumption))))) | with_reducible exact List.mem_cons_of_mem _ (List.mem_cons_of_mem _ (List.mem_cons_of_mem _ (List.mem_cons_of_mem _ (List.mem_cons_of_mem _ (List.mem_cons_self))))) | with_reducible exact List.mem_cons_of_mem _ (List.mem_cons_of_mem _ (List.mem_cons_of_mem _ (List.mem_cons_of_mem _ (List.mem_cons_of_mem _ (List.mem_cons_of_mem _ (by with_reducible assumption)))))) | with_reducible exact List.mem_cons_of_mem _ (List.mem_cons_of_mem _ (List.mem_cons_of_mem _ (List.mem_cons_of_mem _ (List.mem_cons_of_mem _ (List.mem_cons_of_mem _ (List.mem_cons_self)))))))); (case k3 => (first | with_reducible assumption | with_reducible exact List.mem_cons_self | with_reducible exact List.mem_cons_of_mem _ (by with_reducible assumption) | with_reducible exact List.mem_cons_of_mem _ (List.mem_cons_self) | with_reducible exact List.mem_cons_of_mem _ (List.mem_cons_of_mem _ (by with_reducible assumption)) | with_reducible exact List.mem_cons_of_mem _ (List.mem_cons_of_mem _ (List.mem_cons_self)) | with_reducible exact List.mem_cons_of_mem _ (List.mem_cons_of_mem _ (List.mem_cons_of_mem _ (by with_reducible assumption))) | with_reducible exact List.mem_cons_of_mem _ (List.mem_cons_of_mem _ (List.mem_cons_of_mem _ (List.mem_cons_self))) | with_reducible exact List.mem_cons_of_mem _ (List.mem_cons_of_mem _ (List.mem_cons_of_mem _ (List.mem_cons_of_mem _ (by with_reducible assumption)))) | with_reducible exact List.mem_cons_of_mem _ (List.mem_cons_of_mem _ (List.mem_cons_of_mem _ (List.mem_cons_of_mem _ (List.mem_cons_self)))) | with_reducible exact List.mem_cons_of_mem _ (List.mem_cons_of_mem _ (List.mem_cons_of_mem _ (List.mem_cons_of_mem _ (List.mem_cons_of_mem _ (by with_reducible assumption))))) | with_reducible exact List.mem_cons_of_mem _ (List.mem_cons_of_mem _ (List.mem_cons_of_mem _ (List.mem_cons_of_mem _ (List.mem_cons_of_mem _ (List.mem_cons_self))))) | with_reducible exact List.mem_cons_of_mem _ (List.mem_cons_of_mem _ (List.mem_cons_of_mem _ (List.mem_cons_of_mem _ (List.mem_cons_of_mem _ (List.mem_cons_of_mem _ (by with_reducible assumption)))))) | with_reducible exact List.mem_cons_of_mem _ (List.mem_cons_of_mem _ (List.mem_cons_of_mem _ (List.mem_cons_of_mem _ (List.mem_cons_of_mem _ (List.mem_cons_of_mem _ (List.mem_cons_self)))))))); (case k4 => ktr_units))))
local macro_rules | `(tactic| walk_at "compareOp NotEq ref ref") => `(tactic| (k_here; k_dflt (refine' ne3 ?k1 ?k2 ?k3 ?k4 ?_; (case k1 => k_asm); (case k2 => (first | with_reducible assumption | with_reducible exact List.mem_cons_self | with_reducible exact List.mem_cons_of_mem _ (by with_reducible assumption) | with_reducible exact List.mem_cons_of_mem _ (List.mem_cons_self) | with_reducible exact List.mem_cons_of_mem _ (List.mem_cons_of_mem _ (by with_reducible assumption)) | with_reducible exact List.mem_cons_of_mem _ (List.mem_cons_of_mem _ (List.mem_cons_self)) | with_reducible exact List.mem_cons_of_mem _ (List.mem_cons_of_mem _ (List.mem_cons_of_mem _ (by with_reducible assumption))) | with_reducible exact List.mem_cons_of_mem _ (List.mem_cons_of_mem _ (List.mem_cons_of_mem _ (List.mem_cons_self))) | with_reducible exact List.mem_cons_of_mem _ (List.mem_cons_of_mem _ (List.mem_cons_of_mem _ (List.mem_cons_of_mem _ (by with_reducible assumption)))) | with_reducible exact List.mem_cons_of_mem _ (List.mem_cons_of_mem _ (List.mem_cons_of_mem _ (List.mem_cons_of_mem _ (List.mem_cons_self)))) | with_reducible exact List.mem_cons_of_mem _ (List.mem_cons_of_mem _ (List.mem_cons_of_mem _ (List.mem_cons_of_mem _ (List.mem_cons_of_mem _ (by with_reducible assumption))))) | with_reducible exact List.mem_cons_of_mem _ (List.mem_cons_of_mem _ (List.mem_cons_of_mem _ (List.mem_cons_of_mem _ (List.mem_cons_of_mem _ (List.mem_cons_self))))) | with_reducible exact List.mem_cons_of_mem _ (List.mem_cons_of_mem _ (List.mem_cons_of_mem _ (List.mem_cons_of_mem _ (List.mem_cons_of_mem _ (List.mem_cons_of_mem _ (by with_reducible assumption)))))) | with_reducible exact List.mem_cons_of_mem _ (List.mem_cons_of_mem _ (List.mem_cons_of_mem _ (List.mem_cons_of_mem _ (List.mem_cons_of_mem _ (List.mem_cons_of_mem _ (List.mem_cons_self)))))))); (case k3 => (first | with_reducible assumption | with_reducible exact List.mem_cons_self | with_reducible exact List.mem_cons_of_mem _ (by with_reducible assumption) | with_reducible exact List.mem_cons_of_mem _ (List.mem_cons_self) | with_reducible exact List.mem_cons_of_mem _ (List.mem_cons_of_mem _ (by with_reducible assumption)) | with_reducible exact List.mem_cons_of_mem _ (List.mem_cons_of_mem _ (List.mem_cons_self)) | with_reducible exact List.mem_cons_of_mem _ (List.mem_cons_of_mem _ (List.mem_cons_of_mem _ (by with_reducible assumption))) | with_reducible exact List.mem_cons_of_mem _ (List.mem_cons_of_mem _ (List.mem_cons_of_mem _ (List.mem_cons_self))) | with_reducible exact List.mem_cons_of_mem _ (List.mem_cons_of_mem _ (List.mem_cons_of_mem _ (List.mem_cons_of_mem _ (by with_reducible assumption)))) | with_reducible exact List.mem_cons_of_mem _ (List.mem_cons_of_mem _ (List.mem_cons_of_mem _ (List.mem_cons_of_mem _ (List.mem_cons_self)))) | with_reducible exact List.mem_cons_of_mem _ (List.mem_cons_of_mem _ (List.mem_cons_of_mem _ (List.mem_cons_of_mem _ (List.mem_cons_of_mem _ (by with_reducible assumption))))) | with_reducible exact List.mem_cons_of_mem _ (List.mem_cons_of_mem _ (List.mem_cons_of_mem _ (List.mem_cons_of_mem _ (List.mem_cons_of_mem _ (List.mem_cons_self))))) | with_reducible exact List.mem_cons_of_mem _ (List.mem_cons_of_mem _ (List.mem_cons_of_mem _ (List.mem_cons_of_mem _ (List.mem_cons_of_mem _ (List.mem_cons_of_mem _ (by with_reducible assumption)))))) | with_reducible exact List.mem_cons_of_mem _ (List.mem_cons_of_mem _ (List.mem_cons_of_mem _ (List.mem_cons_of_mem _ (List.mem_cons_of_mem _ (List.mem_cons_of_mem _ (List.mem_cons_self)))))))); (case k4 => ktr_units))))
theorem law_day_at (news : Led) (D : Addr) (y m d n : Int) (t t' t'' : Tok) (c : Nat) (hD : (D, ({ cls := .type "tuple", data := .seq #[.int y t, .int m t', .int d t''] c } : Obj)) ∈ news) (hd : okD y m d) (he : gJD y m d = n) : Cl 155 4 [.ref D] news (RetI news (fun x => x = n)) := by
  rw [← he]; exact law_day_cl news D y m d t t' t'' c hD hd
theorem table_K {w : World} {h₀ : Heap} {L : Addr} {m : Str → Option Value} {s : Shared} {A : Around} {E : Value → Shared → Prop} {value slice : PySem.Expr} {k : Int} {u : Tok} {Q : Value → Shared → Prop}
    (F : Fr h₀ L s.heap m) (X : (hd.heap_39 w.params).In h₀) (h0 : 0 ≤ k) (h1 : k < 10)
    (h : ∀ (a : Nat) (t1 t2 : Tok), (hd.heap_39 w.params).lookup a = some { cls := Value.type "tuple", data := Data.seq #[Value.int (loW k) t1, Value.int (hiW k) t2] } → Q (.ref a) s)
    (hs : subscripted slice false (.ref 120) (.int k u) = operate [.ref 120, .int k u] (getItem (.ref 120) (.int k u)) := by with_unfolding_all rfl) :
    wpAny (model PySem.Challenge.rw_vp0004_01.row.prog w) A (subscriptTail value slice (.ref 120) (.int k u)) Q E s := by
  have hc : k = 0 ∨ k = 1 ∨ k = 2 ∨ k = 3 ∨ k = 4 ∨ k = 5 ∨ k = 6 ∨ k = 7 ∨ k = 8 ∨ k = 9 := by omega
  rcases hc with e | e | e | e | e | e | e | e | e | e <;> subst e
  · exact topTup_K (a := 120) F X (by with_unfolding_all rfl) (by decide) (by decide) rfl rfl (h 110 _ _ (by with_unfolding_all rfl)) hs
  · exact topTup_K (a := 120) F X (by with_unfolding_all rfl) (by decide) (by decide) rfl rfl (h 111 _ _ (by with_unfolding_all rfl)) hs
  · exact topTup_K (a := 120) F X (by with_unfolding_all rfl) (by decide) (by decide) rfl rfl (h 112 _ _ (by with_unfolding_all rfl)) hs
  · exact topTup_K (a := 120) F X (by with_unfolding_all rfl) (by decide) (by decide) rfl rfl (h 113 _ _ (by with_unfolding_all rfl)) hs
  · exact topTup_K (a := 120) F X (by with_unfolding_all rfl) (by decide) (by decide) rfl rfl (h 114 _ _ (by with_unfolding_all rfl)) hs
  · exact topTup_K (a := 120) F X (by with_unfolding_all rfl) (by decide) (by decide) rfl rfl (h 115 _ _ (by with_unfolding_all rfl)) hs
  · exact topTup_K (a := 120) F X (by with_unfolding_all rfl) (by decide) (by decide) rfl rfl (h 116 _ _ (by with_unfolding_all rfl)) hs
  · exact topTup_K (a := 120) F X (by with_unfolding_all rfl) (by decide) (by decide) rfl rfl (h 117 _ _ (by with_unfolding_all rfl)) hs
  · exact topTup_K (a := 120) F X (by with_unfolding_all rfl) (by decide) (by decide) rfl rfl (h 118 _ _ (by with_unfolding_all rfl)) hs
  · exact topTup_K (a := 120) F X (by with_unfolding_all rfl) (by decide) (by decide) rfl rfl (h 119 _ _ (by with_unfolding_all rfl)) hs
theorem pair_0 {w : World} {h₀ : Heap} {L : Addr} {m : Str → Option Value} {s : Shared} {A : Around} {E : Value → Shared → Prop} {value slice : PySem.Expr} {u t1 t2 : Tok} {a : Nat} {x y : Int} {Q : Value → Shared → Prop}
    (F : Fr h₀ L s.heap m) (X : (hd.heap_39 w.params).In h₀) (hK : (hd.heap_39 w.params).lookup a = some { cls := Value.type "tuple", data := Data.seq #[Value.int x t1, Value.int y t2] }) (h : Q (.int x t1) s)
    (hs : subscripted slice false (.ref a) (.int 0 u) = operate [.ref a, .int 0 u] (getItem (.ref a) (.int 0 u)) := by with_unfolding_all rfl) :
    wpAny (model PySem.Challenge.rw_vp0004_01.row.prog w) A (subscriptTail value slice (.ref a) (.int 0 u)) Q E s :=
  topTup_K (l := [Value.int x t1, Value.int y t2]) F X hK (by decide) (by decide) rfl rfl h hs
theorem pair_1 {w : World} {h₀ : Heap} {L : Addr} {m : Str → Option Value} {s : Shared} {A : Around} {E : Value → Shared → Prop} {value slice : PySem.Expr} {u t1 t2 : Tok} {a : Nat} {x y : Int} {Q : Value → Shared → Prop}
    (F : Fr h₀ L s.heap m) (X : (hd.heap_39 w.params).In h₀) (hK : (hd.heap_39 w.params).lookup a = some { cls := Value.type "tuple", data := Data.seq #[Value.int x t1, Value.int y t2] }) (h : Q (.int y t2) s)
    (hs : subscripted slice false (.ref a) (.int 1 u) = operate [.ref a, .int 1 u] (getItem (.ref a) (.int 1 u)) := by with_unfolding_all rfl) :
    wpAny (model PySem.Challenge.rw_vp0004_01.row.prog w) A (subscriptTail value slice (.ref a) (.int 1 u)) Q E s :=
  topTup_K (l := [Value.int x t1, Value.int y t2]) F X hK (by decide) (by decide) rfl rfl h hs
local macro_rules | `(tactic| walk_at "subscriptTail") => `(tactic| (k_here; (with_reducible show wpAny _ _ (subscriptTail _ _ (Value.ref 120) (Value.int _ _)) _ _ _); k_dflt (refine' table_K ?k1 ?k2 ?k3 ?k4 ?_ ?k6; (case k1 => k_asm); (case k2 => k_asm); (case k3 => omega); (case k4 => omega); (case k6 => with_unfolding_all rfl)); intro a9 t8 t9 hK9))
local macro_rules | `(tactic| walk_at "subscriptTail") => `(tactic| (k_here; (with_reducible show wpAny _ _ (subscriptTail _ _ (Value.ref _) (Value.int 0 _)) _ _ _); k_dflt (refine' pair_0 ?k1 ?k2 ?k3 ?_ ?k6; (case k1 => k_asm); (case k2 => k_asm); (case k3 => with_reducible assumption); (case k6 => with_unfolding_all rfl))))
local macro_rules | `(tactic| walk_at "subscriptTail") => `(tactic| (k_here; (with_reducible show wpAny _ _ (subscriptTail _ _ (Value.ref _) (Value.int 1 _)) _ _ _); k_dflt (refine' pair_1 ?k1 ?k2 ?k3 ?_ ?k6; (case k1 => k_asm); (case k2 => k_asm); (case k3 => with_reducible assumption); (case k6 => with_unfolding_all rfl))))
local macro_rules | `(tactic| walk_at "call ref") => `(tactic| (k_here; k_dflt (refine' use_cl (law_day_at _ _ _ _ _ _ _ _ _ _ ?p0 ?p1 ?p2) ?k1 ?k2 ?k3 ?k4 ?k5 ?kK ?kd ?ku ?_; (case k1 => k_asm); (case k2 => k_asm); (case k3 => k_asm); (case k4 => k_asm); (case k5 => k_asm); (case kK => first | exact rfl | assumption); (case kd => ktr_room); (case ku => ktr_units); (case p0 => (first | with_reducible assumption | with_reducible exact List.mem_cons_self | with_reducible exact List.mem_cons_of_mem _ (by with_reducible assumption) | with_reducible exact List.mem_cons_of_mem _ (List.mem_cons_self) | with_reducible exact List.mem_cons_of_mem _ (List.mem_cons_of_mem _ (by with_reducible assumption)) | with_reducible exact List.mem_cons_of_mem _ (List.mem_cons_of_mem _ (List.mem_cons_self)) | with_reducible exact List.mem_cons_of_mem _ (List.mem_cons_of_mem _ (List.mem_cons_of_mem _ (by with_reducible assumption))) | with_reducible exact List.mem_cons_of_mem _ (List.mem_cons_of_mem _ (List.mem_cons_of_mem _ (List.mem_cons_self))) | with_reducible exact List.mem_cons_of_mem _ (List.mem_cons_of_mem _ (List.mem_cons_of_mem _ (List.mem_cons_of_mem _ (by with_reducible assumption)))) | with_reducible exact List.mem_cons_of_mem _ (List.mem_cons_of_mem _ (List.mem_cons_of_mem _ (List.mem_cons_of_mem _ (List.mem_cons_self)))) | with_reducible exact List.mem_cons_of_mem _ (List.mem_cons_of_mem _ (List.mem_cons_of_mem _ (List.mem_cons_of_mem _ (List.mem_cons_of_mem _ (by with_reducible assumption))))) | with_reducible exact List.mem_cons_of_mem _ (List.mem_cons_of_mem _ (List.mem_cons_of_mem _ (List.mem_cons_of_mem _ (List.mem_cons_of_mem _ (List.mem_cons_self))))) | with_reducible exact List.mem_cons_of_mem _ (List.mem_cons_of_mem _ (List.mem_cons_of_mem _ (List.mem_cons_of_mem _ (List.mem_cons_of_mem _ (List.mem_cons_of_mem _ (by with_reducible assumption)))))) | with_reducible exact List.mem_cons_of_mem _ (List.mem_cons_of_mem _ (List.mem_cons_of_mem _ (List.mem_cons_of_mem _ (List.mem_cons_of_mem _ (List.mem_cons_of_mem _ (List.mem_cons_self)))))))); (case p1 => with_reducible assumption); (case p2 => with_reducible assumption); (unfold RetI; intro x t h' tk' hx F9 N9; (try dsimp only at hx); subst hx; (try dsimp only); (try k_fold)))))
local macro_rules | `(tactic| walk_at "call ref") => `(tactic| (k_here; k_dflt (refine' use_cl (western_cl _ _ _ _ ?p0) ?k1 ?k2 ?k3 ?k4 ?k5 ?kK ?kd ?ku ?_; (case k1 => k_asm); (case k2 => k_asm); (case k3 => k_asm); (case k4 => k_asm); (case k5 => k_asm); (case kK => first | exact rfl | assumption); (case kd => ktr_room); (case ku => ktr_units); (case p0 => with_reducible assumption); (unfold RetT; intro x y z D t1 t2 t3 c h' tk' hx F9 N9 l9; (try dsimp only at hx); (obtain ⟨e1, e2, e3⟩ := hx); (replace e1 := e1.symm); (replace e2 := e2.symm); (replace e3 := e3.symm); subst e1; subst e2; subst e3; (have m9 := mem_of_news N9); (try k_lt l9); (try k_sweep); (try dsimp only); (try k_fold)))))
local macro_rules | `(tactic| walk_at "call ref") => `(tactic| (k_here; k_dflt (refine' use_cl (law_west_cl _ _ _) ?k1 ?k2 ?k3 ?k4 ?k5 ?kK ?kd ?ku ?_; (case k1 => k_asm); (case k2 => k_asm); (case k3 => k_asm); (case k4 => k_asm); (case k5 => k_asm); (case kK => first | exact rfl | assumption); (case kd => ktr_room); (case ku => ktr_units); (unfold RetI; intro x t h' tk' hx F9 N9; (try dsimp only at hx); subst hx; (try dsimp only); (try k_fold)))))
local macro_rules | `(tactic| walk_at "call ref") => `(tactic| (k_here; k_dflt (refine' use_cl (law_east_cl _ _ _ _ _) ?k1 ?k2 ?k3 ?k4 ?k5 ?kK ?kd ?ku ?_; (case k1 => k_asm); (case k2 => k_asm); (case k3 => k_asm); (case k4 => k_asm); (case k5 => k_asm); (case kK => first | exact rfl | assumption); (case kd => ktr_room); (case ku => ktr_units); (unfold RetI; intro x t h' tk' hx F9 N9; (try dsimp only at hx); subst hx; (try dsimp only); (try k_fold)))))
local macro_rules | `(tactic| walk_at "call ref") => `(tactic| (k_here; k_dflt (refine' use_cl (law_so_cl _ _ _ _ _ _ _ _ _ _ _ _ _ ?p0 ?p1 ?p2 ?p3) ?k1 ?k2 ?k3 ?k4 ?k5 ?kK ?kd ?ku ?_; (case k1 => k_asm); (case k2 => k_asm); (case k3 => k_asm); (case k4 => k_asm); (case k5 => k_asm); (case kK => first | exact rfl | assumption); (case kd => ktr_room); (case ku => ktr_units); (case p0 => (first | with_reducible assumption | with_reducible exact List.mem_cons_self | with_reducible exact List.mem_cons_of_mem _ (by with_reducible assumption) | with_reducible exact List.mem_cons_of_mem _ (List.mem_cons_self) | with_reducible exact List.mem_cons_of_mem _ (List.mem_cons_of_mem _ (by with_reducible assumption)) | with_reducible exact List.mem_cons_of_mem _ (List.mem_cons_of_mem _ (List.mem_cons_self)) | with_reducible exact List.mem_cons_of_mem _ (List.mem_cons_of_mem _ (List.mem_cons_of_mem _ (by with_reducible assumption))) | with_reducible exact List.mem_cons_of_mem _ (List.mem_cons_of_mem _ (List.mem_cons_of_mem _ (List.mem_cons_self))) | with_reducible exact List.mem_cons_of_mem _ (List.mem_cons_of_mem _ (List.mem_cons_of_mem _ (List.mem_cons_of_mem _ (by with_reducible assumption)))) | with_reducible exact List.mem_cons_of_mem _ (List.mem_cons_of_mem _ (List.mem_cons_of_mem _ (List.mem_cons_of_mem _ (List.mem_cons_self)))) | with_reducible exact List.mem_cons_of_mem _ (List.mem_cons_of_mem _ (List.mem_cons_of_mem _ (List.mem_cons_of_mem _ (List.mem_cons_of_mem _ (by with_reducible assumption))))) | with_reducible exact List.mem_cons_of_mem _ (List.mem_cons_of_mem _ (List.mem_cons_of_mem _ (List.mem_cons_of_mem _ (List.mem_cons_of_mem _ (List.mem_cons_self))))) | with_reducible exact List.mem_cons_of_mem _ (List.mem_cons_of_mem _ (List.mem_cons_of_mem _ (List.mem_cons_of_mem _ (List.mem_cons_of_mem _ (List.mem_cons_of_mem _ (by with_reducible assumption)))))) | with_reducible exact List.mem_cons_of_mem _ (List.mem_cons_of_mem _ (List.mem_cons_of_mem _ (List.mem_cons_of_mem _ (List.mem_cons_of_mem _ (List.mem_cons_of_mem _ (List.mem_cons_self)))))))); (case p1 => with_reducible assumption); (case p2 => with_reducible assumption); (case p3 => rfl); (unfold RetB; intro x h' tk' hx F9 N9; (try dsimp only at hx); subst hx; (try dsimp only); (try k_fold)))))
theorem law_between_cl (news : Led) (D1 D2 : Addr) (y y2 m2 d2 : Int) (t u1 u2 u3 v1 v2 v3 : Tok) (c1 c2 : Nat) (hy : 1583 ≤ y)
    (h1 : (D1, ({ cls := .type "tuple", data := .seq #[.int y u1, .int (monW y) u2, .int (dayW y) u3] c1 } : Obj)) ∈ news) (h2 : (D2, ({ cls := .type "tuple", data := .seq #[.int y2 v1, .int m2 v2, .int d2 v3] c2 } : Obj)) ∈ news)
    (ok2 : okD y2 m2 d2) (e2 : gJD y2 m2 d2 = lawE y 0) :
    Cl 169 24 [.int y t, .ref D1, .ref D2] news (RetI news (fun x => x = (lawE y 0 - lawW y).fdiv 7)) := by
  obtain ⟨ok1, e1⟩ := west_day y
  obtain ⟨w1, w2, w3, w4⟩ := weeks_law hy
  (try unfold Cl); unfold ClK RetI
  k_fill
  intro w s₀ mg mb dp un gd cn cs a ccd cl outer A₀ base h₀ L M s Q E B F X N T hk hdp hun hret
  refine wpAny_call ?_
  k_dflt cell_enter
  k_steps
  all_goals exact hret _ _ _ _ rfl (by with_reducible assumption) (by first | with_reducible assumption | exact cb_drop (by with_reducible assumption) (by with_reducible repeat' (first | exact sub_refl _ | refine sub_cons ?_ | refine sub_skip ?_ | refine sub_app ?_)))

end
theorem reset12 : True := by w_top off; trivial

section
local macro_rules | `(tactic| walk_at "pad part 11 0") => `(tactic| skip)
local macro_rules | `(tactic| walk_at "pad part 11 1") => `(tactic| skip)
local macro_rules | `(tactic| walk_at "pad part 11 2") => `(tactic| skip)
local macro_rules | `(tactic| walk_at "pad part 11 3") => `(tactic| skip)
local macro_rules | `(tactic| walk_at "pad part 11 4") => `(tactic| skip)
local macro_rules | `(tactic| walk_at "pad part 11 5") => `(tactic| skip)
local macro_rules | `(tactic| walk_at "pad part 11 6") => `(tactic| skip)
local macro_rules | `(tactic| walk_at "pad part 11 7") => `(tactic| skip)
local macro_rules | `(tactic| walk_at "pad part 11 8") => `(tactic| skip)
local macro_rules | `(tactic| walk_at "pad part 11 9") => `(tactic| skip)
local macro_rules | `(tactic| walk_at "pad part 11 10") => `(tactic| skip)
local macro_rules | `(tactic| walk_at "pad part 11 11") => `(tactic| skip)
local macro_rules | `(tactic| walk_at "pad part 11 12") => `(tactic| skip)
local macro_rules | `(tactic| walk_at "pad part 11 13") => `(tactic| skip)
local macro_rules | `(tactic| walk_at "pad part 11 14") => `(tactic| skip)
local macro_rules | `(tactic| walk_at "pad part 11 15") => `(tactic| skip)
local macro_rules | `(tactic| walk_at "pad part 11 16") => `(tactic| skip)
local macro_rules | `(tactic| walk_at "pad part 11 17") => `(tactic| skip)
local macro_rules | `(tactic| walk_at "pad part 11 18") => `(tactic| skip)
local macro_rules | `(tactic| walk_at "pad part 11 19") => `(tactic| skip)
local macro_rules | `(tactic| walk_at "pad part 11 20") => `(tactic| skip)
local macro_rules | `(tactic| walk_at "pad part 11 21") => `(tactic| skip)
local macro_rules | `(tactic| walk_at "pad part 11 22") => `(tactic| skip)
local macro_rules | `(tactic| walk_at "pad part 11 23") => `(tactic| skip)
local macro_rules | `(tactic| walk_at "pad part 11 24") => `(tactic| skip)
local macro_rules | `(tactic| walk_at "pad part 11 25") => `(tactic| skip)
local macro_rules | `(tactic| walk_at "pad part 11 26") => `(tactic| skip)
local macro_rules | `(tactic| walk_at "pad part 11 27") => `(tactic| skip)
local macro_rules | `(tactic| walk_at "pad part 11 28") => `(tactic| skip)
local macro_rules | `(tactic| walk_at "pad part 11 29") => `(tactic| skip)
local macro_rules | `(tactic| walk_at "pad part 11 30") => `(tactic| skip)
local macro_rules | `(tactic| walk_at "pad part 11 31") => `(tactic| skip)
local macro_rules | `(tactic| walk_at "pad part 11 32") => `(tactic| skip)
local macro_rules | `(tactic| walk_at "pad part 11 33") => `(tactic| skip)
local macro_rules | `(tactic| walk_at "pad part 11 34") => `(tactic| skip)
local macro_rules | `(tactic| walk_at "pad part 11 35") => `(tactic| skip)
local macro_rules | `(tactic| walk_at "pad part 11 36") => `(tactic| skip)
local macro_rules | `(tactic| walk_at "pad part 11 37") => `(tactic| skip)
local macro_rules | `(tactic| walk_at "pad part 11 38") => `(tactic| skip)
local macro_rules | `(tactic| walk_at "pad part 11 39") => `(tactic| skip)
local macro_rules | `(tactic| walk_at "eval Call") => `(tactic| (k_here; (with_reducible show wpAny _ _ (eval (Expr.Call (Expr.Name _ _) _ [] _) _) _ _ _); k_dflt (refine Call_ ?_)))
local macro_rules | `(tactic| walk_at "ite") => `(tactic| (k_here; first | (with_reducible refine ite_beqT (by omega) ?_) | (with_reducible refine ite_beqF (by omega) ?_) | (with_reducible refine ite_bneT (by omega) ?_) | (with_reducible refine ite_bneF (by omega) ?_) | (with_reducible refine ite_decT (by omega) ?_) | (with_reducible refine ite_decF (by omega) ?_)))
local macro_rules | `(tactic| walk_at "binaryOp FloorDiv int int") => `(tactic| (with_reducible refine fdivE (by omega) (by omega) ?_))
local macro_rules | `(tactic| walk_at "binaryOp Mod int int") => `(tactic| (with_reducible refine fmodE (by omega) ?_))
local macro_rules | `(tactic| walk_at "compareOp In int ref") => `(tactic| (k_here; k_dflt (refine' in_K4 ?k1 ?k2 ?k3 ?_ ?_; (case k1 => k_asm); (case k2 => k_asm); (case k3 => with_unfolding_all rfl)); all_goals (intro h9; (try ((exfalso; omega); done)))))
local macro_rules | `(tactic| walk_at "compareOp Eq ref ref") => `(tactic| (k_here; k_dflt (refine' eq3 ?k1 ?k2 ?k3 ?k4 ?_; (case k1 => k_asm); (case k2 => (first | with_reducible assumption | with_reducible exact List.mem_cons_self | with_reducible exact List.mem_cons_of_mem _ (by with_reducible assumption) | with_reducible exact List.mem_cons_of_mem _ (List.mem_cons_self) | with_reducible exact List.mem_cons_of_mem _ (List.mem_cons_of_mem _ (by with_reducible assumption)) | with_reducible exact List.mem_cons_of_mem _ (List.mem_cons_of_mem _ (List.mem_cons_self)) | with_reducible exact List.mem_cons_of_mem _ (List.mem_cons_of_mem _ (List.mem_cons_of_mem _ (by with_reducible assumption))) | with_reducible exact List.mem_cons_of_mem _ (List.mem_cons_of_mem _ (List.mem_cons_of_mem _ (List.mem_cons_self))) | with_reducible exact List.mem_cons_of_mem _ (List.mem_cons_of_mem _ (List.mem_cons_of_mem _ (List.mem_cons_of_mem _ (by with_reducible assumption)))) | with_reducible exact List.mem_cons_of_mem _ (List.mem_cons_of_mem _ (List.mem_cons_of_mem _ (List.mem_cons_of_mem _ (List.mem_cons_self)))) | with_reducible exact List.mem_cons_of_mem _ (List.mem_cons_of_mem _ (List.mem_cons_of_mem _ (List.mem_cons_of_mem _ (List.mem_cons_of_mem _ (by with_reducible assumption))))) | with_reducible exact List.mem_cons_of_mem _ (List.mem_cons_of_mem _ (List.mem_cons_of_mem _ (List.mem_cons_of_mem _ (List.mem_cons_of_mem _ (List.mem_cons_self))))) | with_reducible exact List.mem_cons_of_mem _ (List.mem_cons_of_mem _ (List.mem_cons_of_mem _ (List.mem_cons_of_mem _ (List.mem_cons_of_mem _ (List.mem_cons_of_mem _ (by with_reducible assumption)))))) | with_reducible exact List.mem_cons_of_mem _ (List.mem_cons_of_mem _ (List.mem_cons_of_mem _ (List.mem_cons_of_mem _ (List.mem_cons_of_mem _ (List.mem_cons_of_mem _ (List.mem_cons_self)))))))); (case k3 => (first | with_reducible assumption | with_reducible exact List.mem_cons_self | with_reducible exact List.mem_cons_of_mem _ (by with_reducible assumption) | with_reducible exact List.mem_cons_of_mem _ (List.mem_cons_self) | with_reducible exact List.mem_cons_of_mem _ (List.mem_cons_of_mem _ (by with_reducible assumption)) | with_reducible exact List.mem_cons_of_mem _ (List.mem_cons_of_mem _ (List.mem_cons_self)) | with_reducible exact List.mem_cons_of_mem _ (List.mem_cons_of_mem _ (List.mem_cons_of_mem _ (by with_reducible assumption))) | with_reducible exact List.mem_cons_of_mem _ (List.mem_cons_of_mem _ (List.mem_cons_of_mem _ (List.mem_cons_self))) | with_reducible exact List.mem_cons_of_mem _ (List.mem_cons_of_mem _ (List.mem_cons_of_mem _ (List.mem_cons_of_mem _ (by with_reducible assumption)))) | with_reducible exact List.mem_cons_of_mem _ (List.mem_cons_of_mem _ (List.mem_cons_of_mem _ (List.mem_cons_of_mem _ (List.mem_cons_self)))) | with_reducible exact List.mem_cons_of_mem _ (List.mem_cons_of_mem _ (List.mem_cons_of_mem _ (List.mem_cons_of_mem _ (List.mem_cons_of_mem _ (by with_reducible assumption))))) | with_reducible exact List.mem_cons_of_mem _ (List.mem_cons_of_mem _ (List.mem_cons_of_mem _ (List.mem_cons_of_mem _ (List.mem_cons_of_mem _ (List.mem_cons_self))))) | with_reducible exact List.mem_cons_of_mem _ (List.mem_cons_of_mem _ (List.mem_cons_of_mem _ (List.mem_cons_of_mem _ (List.mem_cons_of_mem _ (List.mem_cons_of_mem _ (by with_reducible assumption)))))) | with_reducible exact List.mem_cons_of_mem _ (List.mem_cons_of_mem _ (List.mem_cons_of_mem _ (List.mem_cons_of_mem _ (List.mem_cons_of_mem _ (List.mem_cons_of_mem _ (List.mem_cons_self)))))))); (case k4 => ktr_units))))
local macro_rules | `(tactic| walk_at "compareOp NotEq ref ref") => `(tactic| (k_here; k_dflt (refine' ne3 ?k1 ?k2 ?k3 ?k4 ?_; (case k1 => k_asm); (case k2 => (first | with_reducible assumption | with_reducible exact List.mem_cons_self | with_reducible exact List.mem_cons_of_mem _ (by with_reducible assumption) | with_reducible exact List.mem_cons_of_mem _ (List.mem_cons_self) | with_reducible exact List.mem_cons_of_mem _ (List.mem_cons_of_mem _ (by with_reducible assumption)) | with_reducible exact List.mem_cons_of_mem _ (List.mem_cons_of_mem _ (List.mem_cons_self)) | with_reducible exact List.mem_cons_of_mem _ (List.mem_cons_of_mem _ (List.mem_cons_of_mem _ (by with_reducible assumption))) | with_reducible exact List.mem_cons_of_mem _ (List.mem_cons_of_mem _ (List.mem_cons_of_mem _ (List.mem_cons_self))) | with_reducible exact List.mem_cons_of_mem _ (List.mem_cons_of_mem _ (List.mem_cons_of_mem _ (List.mem_cons_of_mem _ (by with_reducible assumption)))) | with_reducible exact List.mem_cons_of_mem _ (List.mem_cons_of_mem _ (List.mem_cons_of_mem _ (List.mem_cons_of_mem _ (List.mem_cons_self)))) | with_reducible exact List.mem_cons_of_mem _ (List.mem_cons_of_mem _ (List.mem_cons_of_mem _ (List.mem_cons_of_mem _ (List.mem_cons_of_mem _ (by with_reducible assumption))))) | with_reducible exact List.mem_cons_of_mem _ (List.mem_cons_of_mem _ (List.mem_cons_of_mem _ (List.mem_cons_of_mem _ (List.mem_cons_of_mem _ (List.mem_cons_self))))) | with_reducible exact List.mem_cons_of_mem _ (List.mem_cons_of_mem _ (List.mem_cons_of_mem _ (List.mem_cons_of_mem _ (List.mem_cons_of_mem _ (List.mem_cons_of_mem _ (by with_reducible assumption)))))) | with_reducible exact List.mem_cons_of_mem _ (List.mem_cons_of_mem _ (List.mem_cons_of_mem _ (List.mem_cons_of_mem _ (List.mem_cons_of_mem _ (List.mem_cons_of_mem _ (List.mem_cons_self)))))))); (case k3 => (first | with_reducible assumption | with_reducible exact List.mem_cons_self | with_reducible exact List.mem_cons_of_mem _ (by with_reducible assumption) | with_reducible exact List.mem_cons_of_mem _ (List.mem_cons_self) | with_reducible exact List.mem_cons_of_mem _ (List.mem_cons_of_mem _ (by with_reducible assumption)) | with_reducible exact List.mem_cons_of_mem _ (List.mem_cons_of_mem _ (List.mem_cons_self)) | with_reducible exact List.mem_cons_of_mem _ (List.mem_cons_of_mem _ (List.mem_cons_of_mem _ (by with_reducible assumption))) | with_reducible exact List.mem_cons_of_mem _ (List.mem_cons_of_mem _ (List.mem_cons_of_mem _ (List.mem_cons_self))) | with_reducible exact List.mem_cons_of_mem _ (List.mem_cons_of_mem _ (List.mem_cons_of_mem _ (List.mem_cons_of_mem _ (by with_reducible assumption)))) | with_reducible exact List.mem_cons_of_mem _ (List.mem_cons_of_mem _ (List.mem_cons_of_mem _ (List.mem_cons_of_mem _ (List.mem_cons_self)))) | with_reducible exact List.mem_cons_of_mem _ (List.mem_cons_of_mem _ (List.mem_cons_of_mem _ (List.mem_cons_of_mem _ (List.mem_cons_of_mem _ (by with_reducible assumption))))) | with_reducible exact List.mem_cons_of_mem _ (List.mem_cons_of_mem _ (List.mem_cons_of_mem _ (List.mem_cons_of_mem _ (List.mem_cons_of_mem _ (List.mem_cons_self))))) | with_reducible exact List.mem_cons_of_mem _ (List.mem_cons_of_mem _ (List.mem_cons_of_mem _ (List.mem_cons_of_mem _ (List.mem_cons_of_mem _ (List.mem_cons_of_mem _ (by with_reducible assumption)))))) | with_reducible exact List.mem_cons_of_mem _ (List.mem_cons_of_mem _ (List.mem_cons_of_mem _ (List.mem_cons_of_mem _ (List.mem_cons_of_mem _ (List.mem_cons_of_mem _ (List.mem_cons_self)))))))); (case k4 => ktr_units))))
local macro_rules | `(tactic| walk_at "call ref") => `(tactic| (k_here; k_dflt (refine' use_cl (law_day_at _ _ _ _ _ _ _ _ _ _ ?p0 ?p1 ?p2) ?k1 ?k2 ?k3 ?k4 ?k5 ?kK ?kd ?ku ?_; (case k1 => k_asm); (case k2 => k_asm); (case k3 => k_asm); (case k4 => k_asm); (case k5 => k_asm); (case kK => first | exact rfl | assumption); (case kd => ktr_room); (case ku => ktr_units); (case p0 => (first | with_reducible assumption | with_reducible exact List.mem_cons_self | with_reducible exact List.mem_cons_of_mem _ (by with_reducible assumption) | with_reducible exact List.mem_cons_of_mem _ (List.mem_cons_self) | with_reducible exact List.mem_cons_of_mem _ (List.mem_cons_of_mem _ (by with_reducible assumption)) | with_reducible exact List.mem_cons_of_mem _ (List.mem_cons_of_mem _ (List.mem_cons_self)) | with_reducible exact List.mem_cons_of_mem _ (List.mem_cons_of_mem _ (List.mem_cons_of_mem _ (by with_reducible assumption))) | with_reducible exact List.mem_cons_of_mem _ (List.mem_cons_of_mem _ (List.mem_cons_of_mem _ (List.mem_cons_self))) | with_reducible exact List.mem_cons_of_mem _ (List.mem_cons_of_mem _ (List.mem_cons_of_mem _ (List.mem_cons_of_mem _ (by with_reducible assumption)))) | with_reducible exact List.mem_cons_of_mem _ (List.mem_cons_of_mem _ (List.mem_cons_of_mem _ (List.mem_cons_of_mem _ (List.mem_cons_self)))) | with_reducible exact List.mem_cons_of_mem _ (List.mem_cons_of_mem _ (List.mem_cons_of_mem _ (List.mem_cons_of_mem _ (List.mem_cons_of_mem _ (by with_reducible assumption))))) | with_reducible exact List.mem_cons_of_mem _ (List.mem_cons_of_mem _ (List.mem_cons_of_mem _ (List.mem_cons_of_mem _ (List.mem_cons_of_mem _ (List.mem_cons_self))))) | with_reducible exact List.mem_cons_of_mem _ (List.mem_cons_of_mem _ (List.mem_cons_of_mem _ (List.mem_cons_of_mem _ (List.mem_cons_of_mem _ (List.mem_cons_of_mem _ (by with_reducible assumption)))))) | with_reducible exact List.mem_cons_of_mem _ (List.mem_cons_of_mem _ (List.mem_cons_of_mem _ (List.mem_cons_of_mem _ (List.mem_cons_of_mem _ (List.mem_cons_of_mem _ (List.mem_cons_self)))))))); (case p1 => with_reducible assumption); (case p2 => with_reducible assumption); (unfold RetI; intro x t h' tk' hx F9 N9; (try dsimp only at hx); subst hx; (try dsimp only); (try k_fold)))))
local macro_rules | `(tactic| walk_at "call ref") => `(tactic| (k_here; k_dflt (refine' use_cl (law_east_cl _ _ _ _ _) ?k1 ?k2 ?k3 ?k4 ?k5 ?kK ?kd ?ku ?_; (case k1 => k_asm); (case k2 => k_asm); (case k3 => k_asm); (case k4 => k_asm); (case k5 => k_asm); (case kK => first | exact rfl | assumption); (case kd => ktr_room); (case ku => ktr_units); (unfold RetI; intro x t h' tk' hx F9 N9; (try dsimp only at hx); subst hx; (try dsimp only); (try k_fold)))))
local macro_rules | `(tactic| walk_at "call ref") => `(tactic| (k_here; k_dflt (refine' use_cl (law_so_cl _ _ _ _ _ _ _ _ _ _ _ _ _ ?p0 ?p1 ?p2 ?p3) ?k1 ?k2 ?k3 ?k4 ?k5 ?kK ?kd ?ku ?_; (case k1 => k_asm); (case k2 => k_asm); (case k3 => k_asm); (case k4 => k_asm); (case k5 => k_asm); (case kK => first | exact rfl | assumption); (case kd => ktr_room); (case ku => ktr_units); (case p0 => (first | with_reducible assumption | with_reducible exact List.mem_cons_self | with_reducible exact List.mem_cons_of_mem _ (by with_reducible assumption) | with_reducible exact List.mem_cons_of_mem _ (List.mem_cons_self) | with_reducible exact List.mem_cons_of_mem _ (List.mem_cons_of_mem _ (by with_reducible assumption)) | with_reducible exact List.mem_cons_of_mem _ (List.mem_cons_of_mem _ (List.mem_cons_self)) | with_reducible exact List.mem_cons_of_mem _ (List.mem_cons_of_mem _ (List.mem_cons_of_mem _ (by with_reducible assumption))) | with_reducible exact List.mem_cons_of_mem _ (List.mem_cons_of_mem _ (List.mem_cons_of_mem _ (List.mem_cons_self))) | with_reducible exact List.mem_cons_of_mem _ (List.mem_cons_of_mem _ (List.mem_cons_of_mem _ (List.mem_cons_of_mem _ (by with_reducible assumption)))) | with_reducible exact List.mem_cons_of_mem _ (List.mem_cons_of_mem _ (List.mem_cons_of_mem _ (List.mem_cons_of_mem _ (List.mem_cons_self)))) | with_reducible exact List.mem_cons_of_mem _ (List.mem_cons_of_mem _ (List.mem_cons_of_mem _ (List.mem_cons_of_mem _ (List.mem_cons_of_mem _ (by with_reducible assumption))))) | with_reducible exact List.mem_cons_of_mem _ (List.mem_cons_of_mem _ (List.mem_cons_of_mem _ (List.mem_cons_of_mem _ (List.mem_cons_of_mem _ (List.mem_cons_self))))) | with_reducible exact List.mem_cons_of_mem _ (List.mem_cons_of_mem _ (List.mem_cons_of_mem _ (List.mem_cons_of_mem _ (List.mem_cons_of_mem _ (List.mem_cons_of_mem _ (by with_reducible assumption)))))) | with_reducible exact List.mem_cons_of_mem _ (List.mem_cons_of_mem _ (List.mem_cons_of_mem _ (List.mem_cons_of_mem _ (List.mem_cons_of_mem _ (List.mem_cons_of_mem _ (List.mem_cons_self)))))))); (case p1 => with_reducible assumption); (case p2 => with_reducible assumption); (case p3 => rfl); (unfold RetB; intro x h' tk' hx F9 N9; (try dsimp only at hx); subst hx; (try dsimp only); (try k_fold)))))
theorem east_core : ∀ k : Fin 28, (5 - (1721117 + 365 * (19 * ((k.val : Nat) : Int)) + (19 * ((k.val : Nat) : Int)) / 4 + 36)) % 7 = 0 ↔ (19 * ((k.val : Nat) : Int) = 38 ∨ 19 * ((k.val : Nat) : Int) = 133 ∨ 19 * ((k.val : Nat) : Int) = 228 ∨ 19 * ((k.val : Nat) : Int) = 475) := by decide +kernel
def inS (r : Int) : Prop := r = 38 ∨ r = 133 ∨ r = 228 ∨ r = 475
theorem east_zero {y : Int} (h : y % 19 = 0) : lawE y 0 = 1721117 + 365 * y + y / 4 + 36 + 1 + (5 - (1721117 + 365 * y + y / 4 + 36)) % 7 ∧ lawE y 1 = 1721117 + 365 * y + y / 4 + 36 + 1 + 1 + (5 - (1721117 + 365 * y + y / 4 + 36 + 1)) % 7 := by
  have e : epJ y = 15 := by unfold epJ; rw [h]; rfl
  unfold lawE lawFull
  rw [if_pos h, if_pos h, e]
  constructor <;> omega
theorem east_full {y : Int} (h : y % 19 = 0) : (5 - (1721117 + 365 * y + y / 4 + 36)) % 7 = 0 ↔ inS (y % 532) := by
  obtain ⟨r, hr⟩ := Int.eq_ofNat_of_zero_le (show 0 ≤ y % 532 by omega)
  obtain ⟨k, hk⟩ : ∃ k : Nat, r = 19 * k := ⟨r / 19, by omega⟩
  have hk' : k < 28 := by omega
  have c := east_core ⟨k, hk'⟩
  have hr' : y % 532 = 19 * (k : Int) := by omega
  unfold inS
  rw [hr']
  have q : (5 - (1721117 + 365 * y + y / 4 + 36)) % 7 = (5 - (1721117 + 365 * (19 * (k : Int)) + (19 * (k : Int)) / 4 + 36)) % 7 := by
    generalize hz : y / 532 = z
    have hy : y = 532 * z + 19 * (k : Int) := by omega
    have h4 : y / 4 = 133 * z + (19 * (k : Int)) / 4 := by omega
    rw [h4, hy]; omega
  rw [q]; exact c
theorem east_apart {y : Int} (h : inS (y % 532)) : lawE y 1 - lawE y 0 = 7 ∧ lawE y 0 = 1721117 + 365 * y + y / 4 + 37 := by
  have h19 : y % 19 = 0 := by unfold inS at h; omega
  have hf := (east_full h19).mpr h
  obtain ⟨a, b⟩ := east_zero h19
  rw [a, b]; omega
theorem east_same {y : Int} (h : ¬ inS (y % 532)) : lawE y 1 - lawE y 0 = 0 := by
  by_cases h19 : y % 19 = 0
  · have hf : ¬ (5 - (1721117 + 365 * y + y / 4 + 36)) % 7 = 0 := fun q => h ((east_full h19).mp q)
    obtain ⟨a, b⟩ := east_zero h19
    rw [a, b]; omega
  · unfold lawE lawFull
    rw [if_neg h19, if_neg h19]; omega
local macro_rules | `(tactic| walk_at "call ref") => `(tactic| (k_here; k_dflt (refine' use_cl (orthodox_cl _ _ _ _) ?k1 ?k2 ?k3 ?k4 ?k5 ?kK ?kd ?ku ?_; (case k1 => k_asm); (case k2 => k_asm); (case k3 => k_asm); (case k4 => k_asm); (case k5 => k_asm); (case kK => first | exact rfl | assumption); (case kd => ktr_room); (case ku => ktr_units); (unfold RetT; intro x y z D t1 t2 t3 c h' tk' hx F9 N9 l9; (try dsimp only at hx); (obtain ⟨g1, g2⟩ := hx); (have m9 := mem_of_news N9); (try k_lt l9); (try k_sweep); (try dsimp only); (try k_fold)))))
local macro_rules | `(tactic| walk_at "call ref") => `(tactic| (k_here; k_dflt (refine' use_cl (eastern_cl _ _ _ _) ?k1 ?k2 ?k3 ?k4 ?k5 ?kK ?kd ?ku ?_; (case k1 => k_asm); (case k2 => k_asm); (case k3 => k_asm); (case k4 => k_asm); (case k5 => k_asm); (case kK => first | exact rfl | assumption); (case kd => ktr_room); (case ku => ktr_units); (unfold RetT; intro x y z D t1 t2 t3 c h' tk' hx F9 N9 l9; (try dsimp only at hx); (obtain ⟨g1, g2⟩ := hx); (have m9 := mem_of_news N9); (try k_lt l9); (try k_sweep); (try dsimp only); (try k_fold)))))
theorem law_parted_cl (news : Led) (y days : Int) (t t' : Tok) (h1 : lawE y 1 - lawE y 0 = days) (h2 : (days = 0) ∨ (days = 7 ∧ lawE y 0 = 1721117 + 365 * y + y / 4 + 37)) :
    Cl 176 32 [.int y t, .int days t'] news (RetB news (fun x => x = true)) := by
  (try unfold Cl); unfold ClK RetB
  k_fill
  intro w s₀ mg mb dp un gd cn cs a ccd cl outer A₀ base h₀ L M s Q E B F X N T hk hdp hun hret
  refine wpAny_call ?_
  k_dflt cell_enter
  rcases h2 with h2 | ⟨h2, h3⟩
  · subst h2
    k_steps
    all_goals exact hret _ _ _ rfl (by with_reducible assumption) (by first | with_reducible assumption | exact cb_drop (by with_reducible assumption) (by with_reducible repeat' (first | exact sub_refl _ | refine sub_cons ?_ | refine sub_skip ?_ | refine sub_app ?_)))
  · subst h2
    k_steps
    all_goals exact hret _ _ _ rfl (by with_reducible assumption) (by first | with_reducible assumption | exact cb_drop (by with_reducible assumption) (by with_reducible repeat' (first | exact sub_refl _ | refine sub_cons ?_ | refine sub_skip ?_ | refine sub_app ?_)))

end
theorem reset13 : True := by w_top off; trivial

section

local macro_rules | `(tactic| walk_at "eval Call") => `(tactic| (k_here; (with_reducible show wpAny _ _ (eval (Expr.Call (Expr.Name _ _) _ [] _) _) _ _ _); k_dflt (refine Call_ ?_)))
local macro_rules | `(tactic| walk_at "ite") => `(tactic| (k_here; first | (with_reducible refine ite_beqT (by omega) ?_) | (with_reducible refine ite_beqF (by omega) ?_) | (with_reducible refine ite_bneT (by omega) ?_) | (with_reducible refine ite_bneF (by omega) ?_) | (with_reducible refine ite_decT (by omega) ?_) | (with_reducible refine ite_decF (by omega) ?_)))
local macro_rules | `(tactic| walk_at "binaryOp FloorDiv int int") => `(tactic| (with_reducible refine fdivE (by omega) (by omega) ?_))
local macro_rules | `(tactic| walk_at "binaryOp Mod int int") => `(tactic| (with_reducible refine fmodE (by omega) ?_))
local macro_rules | `(tactic| walk_at "compareOp In int ref") => `(tactic| (k_here; k_dflt (refine' in_K4 ?k1 ?k2 ?k3 ?_ ?_; (case k1 => k_asm); (case k2 => k_asm); (case k3 => with_unfolding_all rfl)); all_goals (intro h9; (try ((exfalso; omega); done)))))
section
open PySem.Spec LCg
variable {prog : Program} {w : World} {A : Around} {E : Value → Shared → Prop} {s : Shared} {h₀ : Heap} {L : Addr} {m : Str → Option Value} {env : Env}
def USrc (prog : Program) (w : World) (A : Around) (h₀ : Heap) (L : Addr) (m : Str → Option Value) (env : Env) (elt : Expr) (x : Str) (scope : Scope) (cl : List (Str × Addr)) (Fin : Shared → List Value → Led → Prop) (xv : Value) (s₁ : Shared) : Prop :=
  ∃ ax its news, xv = .ref ax ∧ A.handled = none ∧ Fr h₀ L s₁.heap m ∧ News h₀ L s₁.heap news ∧ TupAt h₀ ax its news ∧ its.size ≤ sizeLine ∧
    ∀ g, CompRest prog w A h₀ L m env elt x scope cl { s₁ with heap := g } (TupAt h₀ ax its) (fun i v => its[i]? = some v) (Fin { s₁ with heap := g }) its.size 0 [] news
theorem USrc.base {elt : Expr} {x : Str} {scope : Scope} {cl : List (Str × Addr)} {Fin : Shared → List Value → Led → Prop} {ax : Addr} {its : Array Value} {o : Obj} {k : Nat} {news : Led} {s₁ : Shared} {K : Frag}
    (hh : A.handled = none) (F : Fr h₀ L s₁.heap m) (N : News h₀ L s₁.heap news) (X : K.In h₀) (hk : K.lookup ax = some o) (hc : o.cls = .type "tuple") (hd : o.data = .seq its k) (hsz : its.size ≤ sizeLine)
    (h : TupAt h₀ ax its [] → ∀ g, CompRest prog w A h₀ L m env elt x scope cl { s₁ with heap := g } (TupAt h₀ ax its) (fun i v => its[i]? = some v) (Fin { s₁ with heap := g }) its.size 0 [] news) :
    USrc prog w A h₀ L m env elt x scope cl Fin (.ref ax) s₁ := ⟨ax, its, news, rfl, hh, F, N, .inl ⟨o, X _ _ hk, hc, k, hd⟩, hsz, h (.inl ⟨o, X _ _ hk, hc, k, hd⟩)⟩
theorem TupAt.any {h₀ : Heap} {ax : Addr} {its : Array Value} {news : Led} (x : TupAt h₀ ax its []) : TupAt h₀ ax its news := x.elim .inl fun ⟨_, h, _⟩ => nomatch h
theorem comp_tupU {elt iter : Expr} {x : Str} {px : Pos} {scope : Scope} {cl : List (Str × Addr)} {pos : Pos} {Q : Value → Shared → Prop} (F₀ : Fr h₀ L s.heap m)
    (hclos : closureFor scope env = pure cl) (hcell : ∀ y ∈ scope.names, y.2 ≠ .cell) (hkind : scope.kind = .function)
    (hnames : ∀ y ∈ scope.names, y.2 = .local → scope.names.lookup y.1 = some .local) (hx : scope.names.lookup x = some .local)
    (h : wpAny (model prog w) A (eval iter env) (USrc prog w A h₀ L m env elt x scope cl (fun s₂ => FinE h₀ L m s₂ Q)) E s)
    (hs : ∀ x, foldedSetIterable iter env x = pure x := by intro _; rfl) :
    wpAny (model prog w) A (eval (.ListComp elt [⟨.Name x px, iter, [], 0⟩] scope pos) env) Q E s := by
  rw [eval_ListComp]
  refine wpAny_comprehension_free (use := none) rfl hs hclos hkind hnames (wpAny_mono h ?_ fun _ _ e => e)
  rintro _ s₁ ⟨ax, its, news, rfl, hh, F, N, S, hsz, R⟩
  have o := tup_on F N S
  exact wpAny_pyIter_tuple (S.tup F.keep N) (block_U (Walks.tuple hh _ ax o.apart its) hsz tup_iter tup_st hcell hkind hx o.stand o.room o.fr o.ns o.notL o.fresh o.off S (R _)
    fun _ _ _ _ m' _ _ F' N' o1 hn hC₀ _ hCL _ hCD offC fin => ⟨m', hn, fun _ hs' => comp_out F' N' o1 hC₀ hCL hCD offC fin hs'⟩)
end
def goodYear (k y : Int) : Prop := 1583 ≤ y ∧ (lawE y 0 - lawW y).fdiv 7 = k
theorem goodYear.lo {k y : Int} (h : goodYear k y) : 1583 ≤ y := h.1
theorem goodYear_of {n : Nat} (k : Int) (h : 1583 ≤ n) (e : ((upN n : Nat) - (marN n : Nat) : Int).fdiv 7 = k) : goodYear k (n : Int) := ⟨by omega, by rw [diff_cast]; exact e⟩
theorem table_good {k : Int} (h0 : 0 ≤ k) (h1 : k < 10) : goodYear k (loW k) ∧ goodYear k (hiW k) := by
  have hc : k = 0 ∨ k = 1 ∨ k = 2 ∨ k = 3 ∨ k = 4 ∨ k = 5 ∨ k = 6 ∨ k = 7 ∨ k = 8 ∨ k = 9 := by omega
  rcases hc with e | e | e | e | e | e | e | e | e | e <;> subst e
  · exact ⟨goodYear_of (n := 1583) 0 (by decide) (by decide +kernel), goodYear_of (n := 2698) 0 (by decide) (by decide +kernel)⟩
  · exact ⟨goodYear_of (n := 1586) 1 (by decide) (by decide +kernel), goodYear_of (n := 4860) 1 (by decide) (by decide +kernel)⟩
  · exact ⟨goodYear_of (n := 2725) 2 (by decide) (by decide +kernel), goodYear_of (n := 6483) 2 (by decide) (by decide +kernel)⟩
  · exact ⟨goodYear_of (n := 4995) 3 (by decide) (by decide +kernel), goodYear_of (n := 6893) 3 (by decide) (by decide +kernel)⟩
  · exact ⟨goodYear_of (n := 1584) 4 (by decide) (by decide +kernel), goodYear_of (n := 2092) 4 (by decide) (by decide +kernel)⟩
  · exact ⟨goodYear_of (n := 1595) 5 (by decide) (by decide +kernel), goodYear_of (n := 4294) 5 (by decide) (by decide +kernel)⟩
  · exact ⟨goodYear_of (n := 2437) 6 (by decide) (by decide +kernel), goodYear_of (n := 6395) 6 (by decide) (by decide +kernel)⟩
  · exact ⟨goodYear_of (n := 4609) 7 (by decide) (by decide +kernel), goodYear_of (n := 8594) 7 (by decide) (by decide +kernel)⟩
  · exact ⟨goodYear_of (n := 6808) 8 (by decide) (by decide +kernel), goodYear_of (n := 10793) 8 (by decide) (by decide +kernel)⟩
  · exact ⟨goodYear_of (n := 8601) 9 (by decide) (by decide +kernel), goodYear_of (n := 12840) 9 (by decide) (by decide +kernel)⟩
theorem table_K2 {w : World} {h₀ : Heap} {L : Addr} {m : Str → Option Value} {s : Shared} {A : Around} {E : Value → Shared → Prop} {value slice : PySem.Expr} {k : Int} {u : Tok} {Q : Value → Shared → Prop}
    (F : Fr h₀ L s.heap m) (X : (hd.heap_39 w.params).In h₀) (h0 : 0 ≤ k) (h1 : k < 10)
    (h : ∀ (a : Nat) (y z : Int) (t1 t2 : Tok), (hd.heap_39 w.params).lookup a = some { cls := Value.type "tuple", data := Data.seq #[Value.int y t1, Value.int z t2] } → goodYear k y → goodYear k z → Q (.ref a) s)
    (hs : subscripted slice false (.ref 120) (.int k u) = operate [.ref 120, .int k u] (getItem (.ref 120) (.int k u)) := by with_unfolding_all rfl) :
    wpAny (model PySem.Challenge.rw_vp0004_01.row.prog w) A (subscriptTail value slice (.ref 120) (.int k u)) Q E s :=
  table_K F X h0 h1 (fun a t1 t2 hk => h a _ _ t1 t2 hk (table_good h0 h1).1 (table_good h0 h1).2) hs
theorem law_between_at (news : Led) (D1 D2 : Addr) (y y2 m2 d2 : Int) (t u1 u2 u3 v1 v2 v3 : Tok) (c1 c2 : Nat)
    (h1 : (D1, ({ cls := .type "tuple", data := .seq #[.int y u1, .int (monW y) u2, .int (dayW y) u3] c1 } : Obj)) ∈ news) (h2 : (D2, ({ cls := .type "tuple", data := .seq #[.int y2 v1, .int m2 v2, .int d2 v3] c2 } : Obj)) ∈ news)
    (ok2 : okD y2 m2 d2) (e2 : gJD y2 m2 d2 = lawE y 0) (hy : 1583 ≤ y) :
    Cl 169 24 [.int y t, .ref D1, .ref D2] news (RetI news (fun x => 0 ≤ x ∧ ∀ k, goodYear k y → x = k)) := by
  intro w s₀ mg mb dp un gd cn cs a ccd cl outer A₀ base h₀ L M s Q E B F X N T hk hdp hun hret
  exact law_between_cl news D1 D2 y y2 m2 d2 t u1 u2 u3 v1 v2 v3 c1 c2 hy h1 h2 ok2 e2 w s₀ mg mb dp un gd cn cs a ccd cl outer A₀ base h₀ L M s Q E B F X N T hk hdp hun
    (fun x t' h' tk' hx => hret x t' h' tk' ⟨by rw [hx]; exact (weeks_law hy).2.1, fun k hg => by rw [hx]; exact hg.2⟩)
theorem part_out {y k M : Int} (hM : M ≤ (38 - y) % 532 ∧ M ≤ (133 - y) % 532 ∧ M ≤ (228 - y) % 532 ∧ M ≤ (475 - y) % 532) (h0 : 0 ≤ k) (h1 : k < M) : ¬ inS ((y + k) % 532) := by
  obtain ⟨a1, a2, a3, a4⟩ := hM
  unfold inS
  omega
theorem part_same {y d M : Int} (hM : M ≤ (38 - y) % 532 ∧ M ≤ (133 - y) % 532 ∧ M ≤ (228 - y) % 532 ∧ M ≤ (475 - y) % 532) (hpos : 0 < M) : lawE (y + d % M) 1 - lawE (y + d % M) 0 = 0 :=
  east_same (part_out hM (Int.emod_nonneg _ (by omega)) (Int.emod_lt_of_pos _ hpos))
theorem part_in {y M : Int} (hM : M = (38 - y) % 532 ∨ M = (133 - y) % 532 ∨ M = (228 - y) % 532 ∨ M = (475 - y) % 532) : inS ((y + M) % 532) := by
  unfold inS
  omega
theorem part_seven {y M : Int} (hM : M = (38 - y) % 532 ∨ M = (133 - y) % 532 ∨ M = (228 - y) % 532 ∨ M = (475 - y) % 532) : lawE (y + M) 1 - lawE (y + M) 0 = 7 := (east_apart (part_in hM)).1
theorem part_seven' {y M : Int} (hM : M = (38 - y) % 532 ∨ M = (133 - y) % 532 ∨ M = (228 - y) % 532 ∨ M = (475 - y) % 532) : ((7 : Int) = 0) ∨ ((7 : Int) = 7 ∧ lawE (y + M) 0 = 1721117 + 365 * (y + M) + (y + M) / 4 + 37) := .inr ⟨rfl, (east_apart (part_in hM)).2⟩

end
theorem reset14 : True := by w_top off; trivial

section
local macro_rules | `(tactic| walk_at "pad part 13 0") => `(tactic| skip)
local macro_rules | `(tactic| walk_at "pad part 13 1") => `(tactic| skip)
local macro_rules | `(tactic| walk_at "pad part 13 2") => `(tactic| skip)
local macro_rules | `(tactic| walk_at "pad part 13 3") => `(tactic| skip)
local macro_rules | `(tactic| walk_at "pad part 13 4") => `(tactic| skip)
local macro_rules | `(tactic| walk_at "pad part 13 5") => `(tactic| skip)
local macro_rules | `(tactic| walk_at "pad part 13 6") => `(tactic| skip)
local macro_rules | `(tactic| walk_at "pad part 13 7") => `(tactic| skip)
local macro_rules | `(tactic| walk_at "pad part 13 8") => `(tactic| skip)
local macro_rules | `(tactic| walk_at "pad part 13 9") => `(tactic| skip)
local macro_rules | `(tactic| walk_at "pad part 13 10") => `(tactic| skip)
local macro_rules | `(tactic| walk_at "pad part 13 11") => `(tactic| skip)
local macro_rules | `(tactic| walk_at "pad part 13 12") => `(tactic| skip)
local macro_rules | `(tactic| walk_at "pad part 13 13") => `(tactic| skip)
local macro_rules | `(tactic| walk_at "pad part 13 14") => `(tactic| skip)
local macro_rules | `(tactic| walk_at "pad part 13 15") => `(tactic| skip)
local macro_rules | `(tactic| walk_at "pad part 13 16") => `(tactic| skip)
local macro_rules | `(tactic| walk_at "pad part 13 17") => `(tactic| skip)
local macro_rules | `(tactic| walk_at "pad part 13 18") => `(tactic| skip)
local macro_rules | `(tactic| walk_at "pad part 13 19") => `(tactic| skip)
local macro_rules | `(tactic| walk_at "pad part 13 20") => `(tactic| skip)
local macro_rules | `(tactic| walk_at "pad part 13 21") => `(tactic| skip)
local macro_rules | `(tactic| walk_at "pad part 13 22") => `(tactic| skip)
local macro_rules | `(tactic| walk_at "pad part 13 23") => `(tactic| skip)
local macro_rules | `(tactic| walk_at "pad part 13 24") => `(tactic| skip)
local macro_rules | `(tactic| walk_at "pad part 13 25") => `(tactic| skip)
local macro_rules | `(tactic| walk_at "pad part 13 26") => `(tactic| skip)
local macro_rules | `(tactic| walk_at "pad part 13 27") => `(tactic| skip)
local macro_rules | `(tactic| walk_at "pad part 13 28") => `(tactic| skip)
local macro_rules | `(tactic| walk_at "pad part 13 29") => `(tactic| skip)
local macro_rules | `(tactic| walk_at "pad part 13 30") => `(tactic| skip)
local macro_rules | `(tactic| walk_at "pad part 13 31") => `(tactic| skip)
local macro_rules | `(tactic| walk_at "pad part 13 32") => `(tactic| skip)
local macro_rules | `(tactic| walk_at "pad part 13 33") => `(tactic| skip)
local macro_rules | `(tactic| walk_at "pad part 13 34") => `(tactic| skip)
local macro_rules | `(tactic| walk_at "pad part 13 35") => `(tactic| skip)
local macro_rules | `(tactic| walk_at "pad part 13 36") => `(tactic| skip)
local macro_rules | `(tactic| walk_at "pad part 13 37") => `(tactic| skip)
local macro_rules | `(tactic| walk_at "pad part 13 38") => `(tactic| skip)
local macro_rules | `(tactic| walk_at "pad part 13 39") => `(tactic| skip)
local macro_rules | `(tactic| walk_at "eval Call") => `(tactic| (k_here; (with_reducible show wpAny _ _ (eval (Expr.Call (Expr.Name _ _) _ [] _) _) _ _ _); k_dflt (refine Call_ ?_)))
local macro_rules | `(tactic| walk_at "ite") => `(tactic| (k_here; first | (with_reducible refine ite_beqT (by omega) ?_) | (with_reducible refine ite_beqF (by omega) ?_) | (with_reducible refine ite_bneT (by omega) ?_) | (with_reducible refine ite_bneF (by omega) ?_) | (with_reducible refine ite_decT (by omega) ?_) | (with_reducible refine ite_decF (by omega) ?_)))
local macro_rules | `(tactic| walk_at "binaryOp FloorDiv int int") => `(tactic| (with_reducible refine fdivE (by omega) (by omega) ?_))
local macro_rules | `(tactic| walk_at "binaryOp Mod int int") => `(tactic| (with_reducible refine fmodE (by omega) ?_))
local macro_rules | `(tactic| walk_at "compareOp In int ref") => `(tactic| (k_here; k_dflt (refine' in_K4 ?k1 ?k2 ?k3 ?_ ?_; (case k1 => k_asm); (case k2 => k_asm); (case k3 => with_unfolding_all rfl)); all_goals (intro h9; (try ((exfalso; omega); done)))))
local macro_rules | `(tactic| walk_at "eval ListComp") => `(tactic| (k_here; k_dflt (refine comp_tupU (F₀ := by k_asm) (by with_unfolding_all rfl) (by decide) (by rfl) (by decide) (by rfl) ?_)))
local macro_rules | `(tactic| walk_at "USrc") => `(tactic| (k_here; k_dflt (refine USrc.base (by rfl) (by k_asm) (by k_asm) (by k_asm) (by k_is) (by rfl) (by rfl) (by first | size_fits | exact Nat.le_of_ble_eq_true rfl) ?_; intro hS9 g'; lcg_lit)))
local macro_rules | `(tactic| walk_at "CompEnd") => `(tactic| (k_here; k_dflt (refine LCg.CompEnd.intro (by with_reducible assumption) (by with_reducible assumption) _ (sub_refl _) (by first | with_reducible assumption | (simp only [LCg.Off3, and_true]; with_reducible assumption)) (TupAt.any (by with_reducible assumption)) ?_)))
local macro_rules | `(tactic| lcg_src) => `(tactic| exact TupAt.any (by with_reducible assumption))
local macro_rules | `(tactic| walk_at "subscriptTail") => `(tactic| (k_here; (with_reducible show wpAny _ _ (subscriptTail _ _ (Value.ref 120) (Value.int _ _)) _ _ _); k_dflt (refine' table_K2 ?k1 ?k2 ?k3 ?k4 ?_ ?k6; (case k1 => k_asm); (case k2 => k_asm); (case k3 => omega); (case k4 => omega); (case k6 => with_unfolding_all rfl)); intro a9 y9 z9 t8 t9 hK9 hg8 hg9))
local macro_rules | `(tactic| walk_at "exec For") => `(tactic| (k_here; (with_reducible show wpAny _ _ (exec (Stmt.For (Expr.Name _ _) (Expr.Subscript _ _ _) _ _ _) _) _ _ _); (rename Fr _ _ _ _ => lF'); (with_unfolding_all refine' For_turns lF' ?_; k_whole)))
local macro_rules | `(tactic| walk_at "pyIter ref") => `(tactic| (k_here; (with_reducible show wpAny _ _ (pyIter (Value.ref _)) (fun it s₂ => TurnsAt _ _ _ _ _ _ _ _ _ it s₂) _ _); (with_unfolding_all refine' iter_tupK ?h ?F ?N ?X ?k ?c ?d ?z ?_; (case h => with_unfolding_all rfl); (case F => k_asm); (case N => k_asm); (case X => k_asm); (case k => with_reducible assumption); (case c => exact rfl); (case d => exact rfl); (case z => exact Nat.le_of_ble_eq_true rfl); k_whole); intro i' l1; (try k_lt l1)))
local macro_rules | `(tactic| walk_at "call ref") => `(tactic| (k_here; k_dflt (refine' use_cl (easter1_cl _ _ _ ?p0) ?k1 ?k2 ?k3 ?k4 ?k5 ?kK ?kd ?ku ?_; (case k1 => k_asm); (case k2 => k_asm); (case k3 => k_asm); (case k4 => k_asm); (case k5 => k_asm); (case kK => first | exact rfl | assumption); (case kd => ktr_room); (case ku => ktr_units); (case p0 => first | omega | (split <;> omega) | exact (goodYear.lo (by with_reducible assumption))); (unfold RetT; intro x y z D t1 t2 t3 c h' tk' hx F9 N9 l9; (try dsimp only at hx); (obtain ⟨e1, e2, e3⟩ := hx); (replace e1 := e1.symm); (replace e2 := e2.symm); (replace e3 := e3.symm); subst e1; subst e2; subst e3; (have m9 := mem_of_news N9); (try simp only [AllLt, and_true] at l9); (try k_sweep); (try dsimp only); (try k_fold)))))
local macro_rules | `(tactic| walk_at "call ref") => `(tactic| (k_here; k_dflt (refine' use_cl (orthodox_cl _ _ _ _) ?k1 ?k2 ?k3 ?k4 ?k5 ?kK ?kd ?ku ?_; (case k1 => k_asm); (case k2 => k_asm); (case k3 => k_asm); (case k4 => k_asm); (case k5 => k_asm); (case kK => first | exact rfl | assumption); (case kd => ktr_room); (case ku => ktr_units); (unfold RetT; intro x y z D t1 t2 t3 c h' tk' hx F9 N9 l9; (try dsimp only at hx); (obtain ⟨g1, g2⟩ := hx); (have m9 := mem_of_news N9); (try simp only [AllLt, and_true] at l9); (try k_sweep); (try dsimp only); (try k_fold)))))
local macro_rules | `(tactic| walk_at "call ref") => `(tactic| (k_here; k_dflt (refine' use_cl (law_parted_cl _ _ _ _ _ ?p0 ?p1) ?k1 ?k2 ?k3 ?k4 ?k5 ?kK ?kd ?ku ?_; (case k1 => k_asm); (case k2 => k_asm); (case k3 => k_asm); (case k4 => k_asm); (case k5 => k_asm); (case kK => first | exact rfl | assumption); (case kd => ktr_room); (case ku => ktr_units); (case p0 => first | with_reducible exact part_seven (by with_reducible assumption) | with_reducible exact part_same (by with_reducible assumption) (by with_reducible assumption)); (case p1 => first | with_reducible exact part_seven' (by with_reducible assumption) | with_reducible exact Or.inl rfl); (unfold RetB; intro x h' tk' hx F9 N9; (try dsimp only at hx); subst hx; (try dsimp only); (try k_fold)))))
local macro_rules | `(tactic| walk_at "call ref") => `(tactic| (k_here; k_dflt (refine' use_cl (law_between_at _ _ _ _ _ _ _ _ _ _ _ _ _ _ _ _ ?p0 ?p1 ?p2 ?p3 ?p4) ?k1 ?k2 ?k3 ?k4 ?k5 ?kK ?kd ?ku ?_; (case k1 => k_asm); (case k2 => k_asm); (case k3 => k_asm); (case k4 => k_asm); (case k5 => k_asm); (case kK => first | exact rfl | assumption); (case kd => ktr_room); (case ku => ktr_units); (case p0 => (first | with_reducible assumption | with_reducible exact List.mem_cons_self | with_reducible exact List.mem_cons_of_mem _ (by with_reducible assumption) | with_reducible exact List.mem_cons_of_mem _ (List.mem_cons_self) | with_reducible exact List.mem_cons_of_mem _ (List.mem_cons_of_mem _ (by with_reducible assumption)) | with_reducible exact List.mem_cons_of_mem _ (List.mem_cons_of_mem _ (List.mem_cons_self)) | with_reducible exact List.mem_cons_of_mem _ (List.mem_cons_of_mem _ (List.mem_cons_of_mem _ (by with_reducible assumption))) | with_reducible exact List.mem_cons_of_mem _ (List.mem_cons_of_mem _ (List.mem_cons_of_mem _ (List.mem_cons_self))) | with_reducible exact List.mem_cons_of_mem _ (List.mem_cons_of_mem _ (List.mem_cons_of_mem _ (List.mem_cons_of_mem _ (by with_reducible assumption)))) | with_reducible exact List.mem_cons_of_mem _ (List.mem_cons_of_mem _ (List.mem_cons_of_mem _ (List.mem_cons_of_mem _ (List.mem_cons_self)))) | with_reducible exact List.mem_cons_of_mem _ (List.mem_cons_of_mem _ (List.mem_cons_of_mem _ (List.mem_cons_of_mem _ (List.mem_cons_of_mem _ (by with_reducible assumption))))) | with_reducible exact List.mem_cons_of_mem _ (List.mem_cons_of_mem _ (List.mem_cons_of_mem _ (List.mem_cons_of_mem _ (List.mem_cons_of_mem _ (List.mem_cons_self))))) | with_reducible exact List.mem_cons_of_mem _ (List.mem_cons_of_mem _ (List.mem_cons_of_mem _ (List.mem_cons_of_mem _ (List.mem_cons_of_mem _ (List.mem_cons_of_mem _ (by with_reducible assumption)))))) | with_reducible exact List.mem_cons_of_mem _ (List.mem_cons_of_mem _ (List.mem_cons_of_mem _ (List.mem_cons_of_mem _ (List.mem_cons_of_mem _ (List.mem_cons_of_mem _ (List.mem_cons_self)))))))); (case p1 => (first | with_reducible assumption | with_reducible exact List.mem_cons_self | with_reducible exact List.mem_cons_of_mem _ (by with_reducible assumption) | with_reducible exact List.mem_cons_of_mem _ (List.mem_cons_self) | with_reducible exact List.mem_cons_of_mem _ (List.mem_cons_of_mem _ (by with_reducible assumption)) | with_reducible exact List.mem_cons_of_mem _ (List.mem_cons_of_mem _ (List.mem_cons_self)) | with_reducible exact List.mem_cons_of_mem _ (List.mem_cons_of_mem _ (List.mem_cons_of_mem _ (by with_reducible assumption))) | with_reducible exact List.mem_cons_of_mem _ (List.mem_cons_of_mem _ (List.mem_cons_of_mem _ (List.mem_cons_self))) | with_reducible exact List.mem_cons_of_mem _ (List.mem_cons_of_mem _ (List.mem_cons_of_mem _ (List.mem_cons_of_mem _ (by with_reducible assumption)))) | with_reducible exact List.mem_cons_of_mem _ (List.mem_cons_of_mem _ (List.mem_cons_of_mem _ (List.mem_cons_of_mem _ (List.mem_cons_self)))) | with_reducible exact List.mem_cons_of_mem _ (List.mem_cons_of_mem _ (List.mem_cons_of_mem _ (List.mem_cons_of_mem _ (List.mem_cons_of_mem _ (by with_reducible assumption))))) | with_reducible exact List.mem_cons_of_mem _ (List.mem_cons_of_mem _ (List.mem_cons_of_mem _ (List.mem_cons_of_mem _ (List.mem_cons_of_mem _ (List.mem_cons_self))))) | with_reducible exact List.mem_cons_of_mem _ (List.mem_cons_of_mem _ (List.mem_cons_of_mem _ (List.mem_cons_of_mem _ (List.mem_cons_of_mem _ (List.mem_cons_of_mem _ (by with_reducible assumption)))))) | with_reducible exact List.mem_cons_of_mem _ (List.mem_cons_of_mem _ (List.mem_cons_of_mem _ (List.mem_cons_of_mem _ (List.mem_cons_of_mem _ (List.mem_cons_of_mem _ (List.mem_cons_self)))))))); (case p2 => with_reducible assumption); (case p3 => with_reducible assumption); (case p4 => first | omega | (split <;> omega) | exact (goodYear.lo (by with_reducible assumption))); (unfold RetI; intro x t h' tk' hx F9 N9; (try dsimp only at hx); (obtain ⟨hx0, hx1⟩ := hx); (try (replace hx1 := hx1 _ (by with_reducible assumption))); (try dsimp only); (try k_fold)))))
theorem final : PySem.Challenge.rw_vp0004_01.Holds := hd (by
  k_go0
  all_goals (try k_fold)
  k_steps

  done)

end
theorem reset15 : True := by w_top off; trivial

end Mine

theorem PySem.Challenge.cw_vp0004_01_holds : PySem.Challenge.rw_vp0004_01.Holds :=
  Mine.final

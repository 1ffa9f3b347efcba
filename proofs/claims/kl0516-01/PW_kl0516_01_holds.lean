import PyProof.Rows.All
import Wide.All
import OpenK.AllK
import Wide.FinOn
import Lean
import PySem.Challenge.RW_kl0516_01
open PySem PySem.W PyProof.Rows PySem.Calls PySem.Spec
set_option Elab.async false
namespace Mine
section
-- no pieces (a HAppend is not found at this size): the head's run is shown whole, by one kernel run: the compiled file stays small
set_option synthInstance.maxSize 1 in
set_option maxRecDepth 100000 in
set_option maxHeartbeats 400000000 in
open_top hd for PySem.Challenge.rw_kl0516_01
end
section
/-- what a call of the def at `f` gives, for every caller: `Rel` says the arguments, the data `d` what comes back -/
def Con {D : Type} (w : World) (f : Addr) (nd : Nat) (Rel : List (Addr × Obj) → List Value → Prop) (P : D → Prop) (tl : D → List (Addr × Obj)) (val : D → Value) : Prop :=
  ∀ (p : Program) (loose : List Str) (mean : ExcName → Option Value) (mg mb : Str → Option Value) (dp un : Nat) (gd : Option (List Code)) (cn : Str) (cs : Scope) (a : Addr) (ccd : Value) (cl : List (Str × Addr)) (outer : List Env) (A₀ : Around) (base h₀ : Heap) (L : Addr) (m : Str → Option Value) (news : List (Addr × Obj)) (s : Shared) (vs : List Value)
    (Q E : Value → Shared → Prop),
    Below A₀ base outer h₀ → Fr h₀ L s.heap m → (hd.heap_39 w.params).In h₀ → News h₀ L s.heap news → Top p loose mean mg mb h₀ → cs.kind = .function → Rel news vs → dp + nd < recursionLimit → un + 10 * nd < cLine →
    (∀ d h' tk', P d → Fr h₀ L h' m → News h₀ L h' (tl d ++ news) → (∀ q ∈ news, ∀ p ∈ tl d, q.1 < p.1) → Q (val d) { s with heap := h', toks := tk' }) →
    wpAny (model PySem.Challenge.rw_kl0516_01.row.prog w) (ktrTop dp un gd cn cs L a ccd cl outer) (call (.ref f) vs) Q E s
/-- a made tuple -/
abbrev tupOf (vs : Array Value) (n : Nat) : Obj := { cls := .type "tuple", data := .seq vs n }
theorem sub_cons {α : Type} {a : α} {l l' : List α} (h : a ∈ l') (k : ∀ p ∈ l, p ∈ l') : ∀ p ∈ a :: l, p ∈ l' := List.forall_mem_cons.mpr ⟨h, k⟩
theorem ord_cons {news : List (Addr × Obj)} {p : Addr × Obj} {l : List (Addr × Obj)} (h : ∀ q ∈ news, q.1 < p.1) (k : ∀ q ∈ news, ∀ p ∈ l, q.1 < p.1) : ∀ q ∈ news, ∀ p' ∈ p :: l, q.1 < p'.1 := fun q hq p' hp => by
  rcases List.mem_cons.mp hp with rfl | hp
  · exact h q hq
  · exact k q hq p' hp
theorem ord_nil {news : List (Addr × Obj)} : ∀ q ∈ news, ∀ p' ∈ ([] : List (Addr × Obj)), q.1 < p'.1 := fun _ _ _ h => nomatch h
section
variable {D : Type} {w : World} {f : Addr} {nd : Nat} {Rel : List (Addr × Obj) → List Value → Prop} {P : D → Prop} {tl : D → List (Addr × Obj)} {val : D → Value}
  {p : Program} {loose : List Str} {mean : ExcName → Option Value} {mg mb : Str → Option Value} {dp un : Nat} {gd : Option (List Code)} {cn : Str} {cs : Scope} {a : Addr} {ccd : Value} {cl : List (Str × Addr)} {outer : List Env} {A₀ : Around} {base h₀ : Heap} {L : Addr} {m : Str → Option Value} {news : List (Addr × Obj)} {s : Shared} {vs : List Value} {Q E : Value → Shared → Prop}
theorem con_use (C : Con w f nd Rel P tl val) (B : Below A₀ base outer h₀) (F : Fr h₀ L s.heap m) (X : (hd.heap_39 w.params).In h₀) (N : News h₀ L s.heap news) (T : Top p loose mean mg mb h₀) (hk : cs.kind = .function) (hR : Rel news vs) (hd : dp + nd < recursionLimit) (hu : un + 10 * nd < cLine)
    (h : ∀ d h' tk', P d → Fr h₀ L h' m → News h₀ L h' (tl d ++ news) → (∀ q ∈ news, ∀ p ∈ tl d, q.1 < p.1) → Q (val d) { s with heap := h', toks := tk' }) :
    wpAny (model PySem.Challenge.rw_kl0516_01.row.prog w) (ktrTop dp un gd cn cs L a ccd cl outer) (call (.ref f) vs) Q E s := C _ _ _ _ _ _ _ _ _ _ _ _ _ _ _ _ _ _ _ _ _ _ _ _ B F X N T hk hR hd hu h
end
theorem lt1 {news : List (Addr × Obj)} {p : Addr × Obj} {l : List (Addr × Obj)} (h : ∀ q ∈ news, ∀ p' ∈ p :: l, q.1 < p'.1) : ∀ q ∈ news, q.1 < p.1 := fun q hq => h q hq _ (.head _)
/-- what stood ahead of the frame lies below it -/
def NLt (news : List (Addr × Obj)) (d : Addr) : Prop := ∀ p ∈ news, @LT.lt Nat _ p.1 d
theorem NLt.mk {news : List (Addr × Obj)} {d : Addr} (h : ∀ p ∈ news, p.1 < d) : NLt news d := h
theorem mem_of_mem {α : Type} {a : α} {l : List α} (h : a ∈ l) : List.Mem a l := h
end
section
set_option compiler.extract_closed false
-- «tb_start»: what a call made lies above; «tb_rel»: a part of the ledger
local macro_rules | `(tactic| tbn_conj) => `(tactic| first
  | assumption
  | exact ktn_ltOf (by assumption)
  | exact ktn_ltOf (by assumption : _ ∧ AllLt _ _).2
  | exact ktn_ltOf (by assumption : _ ∧ _ ∧ AllLt _ _).2.2
  | exact ktn_ltOf (by assumption : _ ∧ _ ∧ _ ∧ AllLt _ _).2.2.2
  | exact ktn_ltOf (by assumption : _ ∧ _ ∧ _ ∧ _ ∧ AllLt _ _).2.2.2.2
  | exact ktn_ltOf (by assumption : _ ∧ _ ∧ _ ∧ _ ∧ _ ∧ AllLt _ _).2.2.2.2.2
  | exact ktn_ltOf (by assumption : _ ∧ _ ∧ _ ∧ _ ∧ _ ∧ _ ∧ AllLt _ _).2.2.2.2.2.2
  | exact ktn_ltOf (by assumption : _ ∧ _ ∧ _ ∧ _ ∧ _ ∧ _ ∧ _ ∧ AllLt _ _).2.2.2.2.2.2.2
  | exact ktn_ltOf (by assumption : _ ∧ _ ∧ _ ∧ _ ∧ _ ∧ _ ∧ _ ∧ _ ∧ AllLt _ _).2.2.2.2.2.2.2.2
  | exact ktn_ltOf (by assumption : _ ∧ _ ∧ _ ∧ _ ∧ _ ∧ _ ∧ _ ∧ _ ∧ _ ∧ AllLt _ _).2.2.2.2.2.2.2.2.2
  | exact ktn_ltOf (by assumption : _ ∧ _ ∧ _ ∧ _ ∧ _ ∧ _ ∧ _ ∧ _ ∧ _ ∧ _ ∧ AllLt _ _).2.2.2.2.2.2.2.2.2.2
  | exact ktn_ltOf (by assumption : _ ∧ _ ∧ _ ∧ _ ∧ _ ∧ _ ∧ _ ∧ _ ∧ _ ∧ _ ∧ _ ∧ AllLt _ _).2.2.2.2.2.2.2.2.2.2.2
  | exact ktn_ltOf (by assumption : _ ∧ _ ∧ _ ∧ _ ∧ _ ∧ _ ∧ _ ∧ _ ∧ _ ∧ _ ∧ _ ∧ _ ∧ AllLt _ _).2.2.2.2.2.2.2.2.2.2.2.2)
local macro_rules | `(tactic| tb_start) => `(tactic| first | exact ord_nil | (refine ord_cons ?tbA ?tbB; (case tbA => tbn_conj); (case tbB => tb_start)))
local macro_rules | `(tactic| tb_rel) => `(tactic| first | (refine sub_cons ?tbC ?tbD; (case tbC => kst_entry); (case tbD => tb_rel)) | (intro p9 h9; kst_mem))
local macro_rules | `(tactic| news_mem) => `(tactic| k_mem)
-- rows told by k_with come ahead of the kit's own
local macro_rules | `(tactic| walk_at $s:str) => `(tactic| k_extra $s)
local macro_rules | `(tactic| k_all) => `(tactic| (intro p9 h9; (have a9 := (by assumption : NLt _ _) p9 h9); k_ne))
local macro_rules | `(tactic| k_mem) => `(tactic| ((with_reducible refine mem_of_mem ?_); ktr_member))

section
def costN (u v w a b c way : Int) : Int := if way = 9 then u * u * b * c + v * v * a * c + w * w * a * b else
  (8 * a + way - 4) * (8 * a + way - 4) * v * w + (8 * b + way - 4) * (8 * b + way - 4) * u * w + (8 * c + way - 4) * (8 * c + way - 4) * u * v
def costD (u v w a b c way : Int) : Int := if way = 9 then a * b * c else u * v * w
set_option maxRecDepth 100000 in
set_option maxHeartbeats 400000000 in
theorem con_cost {w : World} {u v x a b c way : Int} 
   (hu0 : 0 ≤ u ∧ u < 1073741824) (hv0 : 0 ≤ v ∧ v < 1073741824) (hx0 : 0 ≤ x ∧ x < 1073741824) (ha0 : 0 ≤ a ∧ a < 1024) (hb0 : 0 ≤ b ∧ b < 1024) (hc0 : 0 ≤ c ∧ c < 1024) (hw0 : 0 ≤ way ∧ way ≤ 9) :
  Con w 147 10
   (fun news vs => ∃ vl tu sl t1 t2 t3 t4 t5 t6 n n', vs = [.ref vl, .ref sl, .int way tu] ∧ (vl, listOf #[.int u t1, .int v t2, .int x t3] n) ∈ news ∧ (sl, tupOf #[.int a t4, .int b t5, .int c t6] n') ∈ news)
   (fun _ => True) (fun d : Addr × Tok × Tok => [(d.1, tupOf #[.int (costN u v x a b c way) d.2.1, .int (costD u v x a b c way) d.2.2] 0)]) (fun d => .ref d.1) := by
  unfold Con
  w_top off
  k_fill
  intro p loose mean mg mb dp un gd cn cs ca ccd cl outer A₀ base h₀ L m news s vs Q E B F X N T hk hR hd hu hret
  obtain ⟨vl, tu, sl, t1, t2, t3, t4, t5, t6, n, n', rfl, hv, hs⟩ := hR
  refine wpAny_call ?_
  k_dflt ktr_enter
  k_steps
  · refine' hret ⟨_, _, _⟩ _ _ trivial (by k_asm) (cb_drop (by k_asm) ?x) ?y
    case x => simp only [costN, costD, if_pos ‹way = 9›]; tb_rel
    case y => tb_start
  · refine' hret ⟨_, _, _⟩ _ _ trivial (by k_asm) (cb_drop (by k_asm) ?x) ?y
    case x => simp only [costN, costD, if_neg ‹way ≠ 9›]; tb_rel
    case y => tb_start
end
section
section
variable {prog : Program} {w : World} {A : Around} {E : Value → Shared → Prop} {s : Shared} {h₀ : Heap} {L : Addr} {m : Str → Option Value} {news : List (Addr × Obj)}
theorem max3K {a b c : Int} {t u x : Tok} {Q : Value → Shared → Prop} (hh : A.handled = none) (F : Fr h₀ L s.heap m) (N : News h₀ L s.heap news)
    (h : ∀ h' tk t' (M : Int), a ≤ M → b ≤ M → c ≤ M → (M = a ∨ M = b ∨ M = c) → Fr h₀ L h' m → News h₀ L h' news → Q (.int M t') { s with heap := h', toks := tk }) :
    wpAny (model prog w) A (call (.builtin "max") [.int a t, .int b u, .int c x]) Q E s := by
  refine max_three_ints hh fun h' tk hk => ?_
  have F' := F.keeps hk
  have N' := N.grown hk
  by_cases h1 : b > a
  · rw [if_pos h1]
    by_cases h2 : c > b
    · rw [if_pos h2]; exact h h' tk x c (by omega) (by omega) (by omega) (by omega) F' N'
    · rw [if_neg h2]; exact h h' tk u b (by omega) (by omega) (by omega) (by omega) F' N'
  · rw [if_neg h1]
    by_cases h2 : c > a
    · rw [if_pos h2]; exact h h' tk x c (by omega) (by omega) (by omega) (by omega) F' N'
    · rw [if_neg h2]; exact h h' tk t a (by omega) (by omega) (by omega) (by omega) F' N'
theorem min3K {a b c : Int} {t u x : Tok} {Q : Value → Shared → Prop} (hh : A.handled = none) (F : Fr h₀ L s.heap m) (N : News h₀ L s.heap news)
    (h : ∀ h' tk t' (M : Int), M ≤ a → M ≤ b → M ≤ c → (M = a ∨ M = b ∨ M = c) → Fr h₀ L h' m → News h₀ L h' news → Q (.int M t') { s with heap := h', toks := tk }) :
    wpAny (model prog w) A (call (.builtin "min") [.int a t, .int b u, .int c x]) Q E s := by
  refine min_three_ints hh fun h' tk hk => ?_
  have F' := F.keeps hk
  have N' := N.grown hk
  by_cases h1 : b < a
  · rw [if_pos h1]
    by_cases h2 : c < b
    · rw [if_pos h2]; exact h h' tk x c (by omega) (by omega) (by omega) (by omega) F' N'
    · rw [if_neg h2]; exact h h' tk u b (by omega) (by omega) (by omega) (by omega) F' N'
  · rw [if_neg h1]
    by_cases h2 : c < a
    · rw [if_pos h2]; exact h h' tk x c (by omega) (by omega) (by omega) (by omega) F' N'
    · rw [if_neg h2]; exact h h' tk t a (by omega) (by omega) (by omega) (by omega) F' N'
end
end
section
section

open PySem.Float64
/-- a value (times 2^1074) that a finite double has -/
def Rep (z : Int) : Prop := ∃ neg t, t < infMag ∧ z = sgn neg (V t)
def Fin64 (x : UInt64) : Prop := ∃ a m e, decode x = .fin a m e
def U : Nat := 2 ^ 1000
theorem U_pos : 0 < U := Nat.two_pow_pos _
theorem pow_U (k : Nat) : (2 : Nat) ^ (k + 1000) = 2 ^ k * U := Nat.pow_add _ _ _
theorem rep_mk (k j : Nat) (h : k ≤ 2 ^ 53) (h2 : 2 ^ 52 ≤ k) (hj : j ≤ 2000) : Rep ((k * 2 ^ j : Nat) : Int) :=
  ⟨false, j * 2 ^ 52 + k, by unfold infMag; lia, by rw [V_at h (.inl h2)]; rfl⟩
theorem rep_neg {z : Int} (h : Rep z) : Rep (-z) := by
  obtain ⟨n, t, ht, rfl⟩ := h
  exact ⟨!n, t, ht, by unfold sgn; cases n <;> simp⟩
theorem rep_zero : Rep 0 := ⟨false, 0, by decide, by rw [V_zero]; rfl⟩
theorem V_max {t : Nat} (h : t < infMag) : V t ≤ (2 ^ 53 - 1) * 2 ^ 2045 := by
  have e : V (infMag - 1) = (2 ^ 53 - 1) * 2 ^ 2045 := by
    have e : infMag - 1 = 2045 * 2 ^ 52 + (2 ^ 53 - 1) := by unfold infMag; lia
    rw [e]
    exact V_at (k := 2045) (q := 2 ^ 53 - 1) (by lia) (.inl (by lia))
  rw [← e]
  exact V_mono (by lia)
theorem fin_rep {x : UInt64} (h : Fin64 x) : Rep (val x) := by
  obtain ⟨a, m, e, hd⟩ := h
  have hd' := hd
  rw [val_eq hd]
  unfold decode at hd
  simp only at hd
  split at hd
  · split at hd <;> cases hd
  · rename_i h1
    have h1' : x.toNat / 2 ^ 52 % 2048 ≠ 2047 := by simpa using h1
    split at hd
    · rename_i h2
      have h2' : x.toNat / 2 ^ 52 % 2048 = 0 := by simpa using h2
      cases hd
      refine ⟨(x.toNat / 2 ^ 63 == 1), x.toNat % 2 ^ 52, by unfold infMag; lia, ?_⟩
      have e : V (x.toNat % 2 ^ 52) = x.toNat % 2 ^ 52 := by unfold V; rw [if_pos (by lia)]
      rw [e]
      have e1 : ((-1074 : Int) + 1074).toNat = 0 := by decide
      rw [e1, Nat.pow_zero, Nat.mul_one]
    · rename_i h2
      have h2' : x.toNat / 2 ^ 52 % 2048 ≠ 0 := by simpa using h2
      cases hd
      refine ⟨(x.toNat / 2 ^ 63 == 1), (x.toNat / 2 ^ 52 % 2048 - 1) * 2 ^ 52 + (2 ^ 52 + x.toNat % 2 ^ 52), by unfold infMag; lia, ?_⟩
      rw [V_at (by lia) (.inl (by lia))]
      have e1 : (((x.toNat / 2 ^ 52 % 2048 : Nat) : Int) - 1075 + 1074).toNat = x.toNat / 2 ^ 52 % 2048 - 1 := by lia
      rw [e1]
theorem sgn_t (n : Nat) : sgn true n = -(n : Int) := by simp [sgn]
theorem sgn_f (n : Nat) : sgn false n = (n : Int) := by simp [sgn]
theorem near_up {D W t a : Nat} (hD : 0 < D) (h : dist W (D * t) ≤ dist W (D * a)) (ha : D * a ≤ W) : a ≤ t := by
  rcases Nat.lt_or_ge t a with c | c
  · have := Nat.mul_lt_mul_of_pos_left c hD
    unfold dist at h
    generalize D * t = x at *
    generalize D * a = y at *
    lia
  · exact c
theorem near_dn {D W t a : Nat} (hD : 0 < D) (h : dist W (D * t) ≤ dist W (D * a)) (ha : W ≤ D * a) : t ≤ a := by
  rcases Nat.lt_or_ge a t with c | c
  · have := Nat.mul_lt_mul_of_pos_left c hD
    unfold dist at h
    generalize D * t = x at *
    generalize D * a = y at *
    lia
  · exact c
theorem near_zero {D W a : Nat} (hD : 0 < D) (h : (W : Int) ≤ (D : Int) * -(a : Int)) : W ≤ D * a ∧ a = 0 := by
  rw [Int.mul_neg, ← Int.natCast_mul] at h
  rcases Nat.eq_zero_or_pos a with c | c
  · subst c; exact ⟨by lia, rfl⟩
  · have := Nat.mul_pos hD c
    generalize D * a = y at *
    lia
theorem two54 (Z : Nat) : (2 ^ 54 - 1) * Z = 2 * ((2 ^ 53 - 1) * Z) + Z := by lia
theorem right_lt {t D W : Nat} (hle : t ≤ infMag) (hover : t = infMag ↔ D * ((2 ^ 54 - 1) * 2 ^ 2045) ≤ 2 * W) (hD : 0 < D) {a : Nat} (ha : a < infMag) (h : W ≤ D * V a) : t < infMag := by
  refine Nat.lt_of_le_of_ne hle fun e => ?_
  have ho := hover.mp e
  have ml := V_max ha
  have hZ : (0 : Nat) < 2 ^ 2045 := Nat.two_pow_pos _
  have eZ : (2 ^ 54 - 1) * (2 : Nat) ^ 2045 = 2 * ((2 ^ 53 - 1) * 2 ^ 2045) + 2 ^ 2045 := two54 _
  rw [eZ] at ho
  generalize (2 ^ 53 - 1) * (2 : Nat) ^ 2045 = Mx at *
  generalize (2 : Nat) ^ 2045 = Z at *
  have a1 : D * V a ≤ D * Mx := Nat.mul_le_mul_left D ml
  have a3 : D * (2 * Mx + Z) = 2 * (D * Mx) + D * Z := by rw [Nat.mul_add, Nat.mul_left_comm]
  have a4 : 0 < D * Z := Nat.mul_pos hD hZ
  rw [a3] at ho
  clear eZ a3 hover hle e ml hZ
  lia
theorem cast_le {D a W : Nat} (h : (D : Int) * (a : Int) ≤ (W : Int)) : D * a ≤ W := by rw [← Int.natCast_mul] at h; exact Int.ofNat_le.mp h
theorem cast_ge {D a W : Nat} (h : (W : Int) ≤ (D : Int) * (a : Int)) : W ≤ D * a := by rw [← Int.natCast_mul] at h; exact Int.ofNat_le.mp h
theorem right_between {r : UInt64} {neg : Bool} {W D : Nat} {lo hi : Int} (hR : Right r neg W D) (hD : 0 < D) (hl : Rep lo) (hh : Rep hi) (h1 : D * lo ≤ sgn neg W) (h2 : sgn neg W ≤ D * hi) :
    Fin64 r ∧ lo ≤ val r ∧ val r ≤ hi := by
  obtain ⟨t, rfl, hle, hover, hnear⟩ := hR
  obtain ⟨nl, tl, hl, rfl⟩ := hl
  obtain ⟨nh, th, hh, rfl⟩ := hh
  have key : t < infMag ∧ (t < infMag → sgn nl (V tl) ≤ sgn neg (V t) ∧ sgn neg (V t) ≤ sgn nh (V th)) := by
    have up : ∀ {a : Nat}, t < infMag → D * V a ≤ W → V a ≤ V t := fun ht c => near_up hD (hnear ht _).1 c
    have dn : ∀ {a : Nat}, t < infMag → W ≤ D * V a → V t ≤ V a := fun ht c => near_dn hD (hnear ht _).1 c
    have neg_ : ∀ {x y : Int}, -x ≤ -y → y ≤ x := fun h => by lia
    have pos0 : ∀ {x y : Nat}, -(x : Int) ≤ (y : Int) := fun {x y} => by lia
    cases neg
    · rw [sgn_f] at h1 h2
      have A : W ≤ D * V th ∧ (t < infMag → sgn false (V t) ≤ sgn nh (V th)) := by
        cases nh
        · rw [sgn_f] at h2
          refine ⟨cast_ge h2, fun ht => ?_⟩
          rw [sgn_f, sgn_f]
          exact Int.ofNat_le.mpr (dn ht (cast_ge h2))
        · rw [sgn_t] at h2
          have z := near_zero hD h2
          refine ⟨z.1, fun ht => ?_⟩
          have := dn ht z.1
          rw [sgn_f, sgn_t]
          lia
      refine ⟨right_lt hle hover hD hh A.1, fun ht => ⟨?_, A.2 ht⟩⟩
      cases nl
      · rw [sgn_f] at h1 ⊢
        rw [sgn_f]
        exact Int.ofNat_le.mpr (up ht (cast_le h1))
      · rw [sgn_t, sgn_f]; exact pos0
    · rw [sgn_t] at h1 h2
      have A : W ≤ D * V tl ∧ (t < infMag → sgn nl (V tl) ≤ sgn true (V t)) := by
        cases nl
        · rw [sgn_f] at h1
          have z := near_zero (W := W) (a := V tl) hD (by rw [Int.mul_neg]; lia)
          refine ⟨z.1, fun ht => ?_⟩
          have := dn ht z.1
          rw [sgn_f, sgn_t]
          lia
        · rw [sgn_t, Int.mul_neg] at h1
          refine ⟨cast_ge (neg_ h1), fun ht => ?_⟩
          rw [sgn_t, sgn_t]
          exact Int.neg_le_neg (Int.ofNat_le.mpr (dn ht (cast_ge (neg_ h1))))
      refine ⟨right_lt hle hover hD hl A.1, fun ht => ⟨A.2 ht, ?_⟩⟩
      cases nh
      · rw [sgn_t, sgn_f]; exact pos0
      · rw [sgn_t, Int.mul_neg] at h2
        rw [sgn_t, sgn_t]
        exact Int.neg_le_neg (Int.ofNat_le.mpr (up ht (cast_le (neg_ h2))))
  obtain ⟨m, e, hd, _⟩ := decode_pack neg key.1
  refine ⟨⟨_, m, e, hd⟩, ?_⟩
  rw [val_pack neg key.1]
  exact key.2 key.1

theorem p1074 : (2 : Nat) ^ 1074 = 2 ^ 74 * U := pow_U 74
/-- int / int -/
theorem frac_between {n d : Nat} (hd : 0 < d) {lo hi : Int} (hl : Rep lo) (hh : Rep hi) (h1 : d * lo ≤ n * (2 ^ 74 * U : Nat)) (h2 : (n : Int) * (2 ^ 74 * U : Nat) ≤ d * hi) :
    Fin64 (ofFrac false n d) ∧ lo ≤ val (ofFrac false n d) ∧ val (ofFrac false n d) ≤ hi := by
  have hR := ofFrac_right (neg := false) (n := n) (d := d) (W := n * 2 ^ 1074) (D := d) hd rfl hd
  rw [p1074] at hR
  refine right_between hR hd hl hh ?_ ?_
  · rw [sgn_f, Int.natCast_mul]; exact h1
  · rw [sgn_f, Int.natCast_mul]; exact h2
theorem sgn_int (z : Int) : sgn (decide (z < 0)) z.natAbs = z := by
  by_cases h : z < 0
  · rw [decide_eq_true h, sgn_t]; lia
  · rw [decide_eq_false h, sgn_f]; lia
theorem decZ (b : Bool) : decode (zero b) = .fin b 0 (-1074) := by cases b <;> kernel_rfl
theorem fin_zero (b : Bool) : Fin64 (zero b) ∧ val (zero b) = 0 := by
  cases b
  · exact ⟨⟨_, _, _, decZ _⟩, by rw [val_eq (decZ _)]; simp [sgn]⟩
  · exact ⟨⟨_, _, _, decZ _⟩, by rw [val_eq (decZ _)]; simp [sgn]⟩
theorem add_between {x y : UInt64} (hx : Fin64 x) (hy : Fin64 y) {lo hi : Int} (hl : Rep lo) (hh : Rep hi) (h1 : lo ≤ val x + val y) (h2 : val x + val y ≤ hi) :
    Fin64 (add x y) ∧ lo ≤ val (add x y) ∧ val (add x y) ≤ hi := by
  obtain ⟨a, m, e, hx⟩ := hx
  obtain ⟨b, k, f, hy⟩ := hy
  have hA := add_right hx hy
  by_cases h0 : val x + val y = 0
  · rw [hA.1 h0]
    have := fin_zero (a && b)
    exact ⟨this.1, by rw [this.2]; lia, by rw [this.2]; lia⟩
  · refine right_between (hA.2 h0) (by decide) hl hh ?_ ?_
    · rw [sgn_int]; lia
    · rw [sgn_int]; lia
theorem sub_between {x y : UInt64} (hx : Fin64 x) (hy : Fin64 y) {lo hi : Int} (hl : Rep lo) (hh : Rep hi) (h1 : lo ≤ val x - val y) (h2 : val x - val y ≤ hi) :
    Fin64 (sub x y) ∧ lo ≤ val (sub x y) ∧ val (sub x y) ≤ hi := by
  obtain ⟨a, m, e, hx⟩ := hx
  obtain ⟨b, k, f, hy⟩ := hy
  have hA := sub_right hx hy
  by_cases h0 : val x - val y = 0
  · rw [hA.1 h0]
    have := fin_zero (a && !b)
    exact ⟨this.1, by rw [this.2]; lia, by rw [this.2]; lia⟩
  · refine right_between (hA.2 h0) (by decide) hl hh ?_ ?_
    · rw [sgn_int]; lia
    · rw [sgn_int]; lia
theorem sgn_val {x : UInt64} {a : Bool} {m : Nat} {e : Int} (h : decode x = .fin a m e) : sgn a (val x).natAbs = val x := by
  rw [val_natAbs h, val_eq h]
theorem dec6 : decode 4618441417868443648 = .fin false 6755399441055744 (-50) := by kernel_rfl
theorem val6 : val 4618441417868443648 = 6 * (2 ^ 74 * U : Nat) := by
  rw [val_eq dec6, sgn_f]
  have : ((-50 : Int) + 1074).toNat = 24 + 1000 := by decide
  rw [this, pow_U]
  lia
theorem decI6 : decode (ofInt 6) = .fin false 6755399441055744 (-50) := by kernel_rfl
theorem valI6 : val (ofInt 6) = 6 * (2 ^ 74 * U : Nat) := by
  rw [val_eq decI6, sgn_f]
  have : ((-50 : Int) + 1074).toNat = 24 + 1000 := by decide
  rw [this, pow_U]
  lia
theorem dec1 : decode 4607182418800017408 = .fin false 4503599627370496 (-52) := by kernel_rfl
theorem val1 : val 4607182418800017408 = (2 ^ 74 * U : Nat) := by
  rw [val_eq dec1, sgn_f]
  have : ((-52 : Int) + 1074).toNat = 22 + 1000 := by decide
  rw [this, pow_U]
  lia
theorem dec2 : decode 4611686018427387904 = .fin false 4503599627370496 (-51) := by kernel_rfl
theorem val2 : val 4611686018427387904 = 2 * (2 ^ 74 * U : Nat) := by
  rw [val_eq dec2, sgn_f]
  have : ((-51 : Int) + 1074).toNat = 23 + 1000 := by decide
  rw [this, pow_U]
  lia
theorem dec4 : decode 4616189618054758400 = .fin false 4503599627370496 (-50) := by kernel_rfl
theorem val4 : val 4616189618054758400 = 4 * (2 ^ 74 * U : Nat) := by
  rw [val_eq dec4, sgn_f]
  have : ((-50 : Int) + 1074).toNat = 24 + 1000 := by decide
  rw [this, pow_U]
  lia
/-- x / 6.0 -/
theorem div6_between {x : UInt64} (hx : Fin64 x) {lo hi : Int} (hl : Rep lo) (hh : Rep hi) (h1 : 6 * lo ≤ val x) (h2 : val x ≤ 6 * hi) :
    Fin64 (div x 4618441417868443648) ∧ lo ≤ val (div x 4618441417868443648) ∧ val (div x 4618441417868443648) ≤ hi := by
  obtain ⟨a, m, e, hx⟩ := hx
  have hR := div_right hx dec6 (by decide)
  rw [val6, p1074, Bool.bne_false] at hR
  have e6 : (6 * ((2 ^ 74 * U : Nat) : Int)).natAbs = 6 * (2 ^ 74 * U) := by lia
  rw [e6] at hR
  have hU := U_pos
  have hOp : 0 < 2 ^ 74 * U := Nat.mul_pos (Nat.two_pow_pos _) hU
  generalize 2 ^ 74 * U = O at *
  have es : sgn a ((val x).natAbs * O) = val x * O := by rw [sgn_mul, sgn_val hx]
  have hOz : (0 : Int) ≤ (O : Int) := by lia
  refine right_between hR (by lia) hl hh ?_ ?_
  · rw [es]
    have := Int.mul_le_mul_of_nonneg_right h1 hOz
    rw [show ((6 * O : Nat) : Int) * lo = 6 * lo * O by rw [Int.natCast_mul]; ac_rfl]
    exact this
  · rw [es]
    have := Int.mul_le_mul_of_nonneg_right h2 hOz
    rw [show ((6 * O : Nat) : Int) * hi = 6 * hi * O by rw [Int.natCast_mul]; ac_rfl]
    exact this
/-- 6 * x -/
theorem mul6_between {x : UInt64} (hx : Fin64 x) {lo hi : Int} (hl : Rep lo) (hh : Rep hi) (h1 : lo ≤ 6 * val x) (h2 : 6 * val x ≤ hi) :
    Fin64 (mul (ofInt 6) x) ∧ lo ≤ val (mul (ofInt 6) x) ∧ val (mul (ofInt 6) x) ≤ hi := by
  obtain ⟨a, m, e, hx⟩ := hx
  have hR := mul_right decI6 hx
  rw [valI6, p1074, Bool.false_bne] at hR
  have e6 : (6 * ((2 ^ 74 * U : Nat) : Int)).natAbs = 6 * (2 ^ 74 * U) := by lia
  rw [e6] at hR
  have hU := U_pos
  have hOp : 0 < 2 ^ 74 * U := Nat.mul_pos (Nat.two_pow_pos _) hU
  generalize 2 ^ 74 * U = O at *
  have es : sgn a (6 * O * (val x).natAbs) = 6 * val x * O := by rw [Nat.mul_comm, sgn_mul, sgn_val hx, Int.natCast_mul]; ac_rfl
  have hOz : (0 : Int) ≤ (O : Int) := by lia
  refine right_between hR (by lia) hl hh ?_ ?_
  · rw [es]
    have := Int.mul_le_mul_of_nonneg_right h1 hOz
    rw [Int.mul_comm (O : Int)]
    exact this
  · rw [es]
    have := Int.mul_le_mul_of_nonneg_right h2 hOz
    rw [Int.mul_comm (O : Int)]
    exact this
/-- x % 1.0 for |x| < 1 -/
theorem fmod1 {x : UInt64} (hx : Fin64 x) (h1 : -((2 ^ 74 * U : Nat) : Int) < val x) (h2 : val x < (2 ^ 74 * U : Nat)) : Fin64 (fmod x 4607182418800017408) ∧ val (fmod x 4607182418800017408) = val x := by
  have hrep := fin_rep hx
  obtain ⟨a, m, e, hx⟩ := hx
  have he := decode_ge hx
  have hf : fmod x 4607182418800017408 = ofBin a (m * 2 ^ (e - min e (-52)).toNat) (min e (-52)) := by
    unfold fmod
    rw [hx, dec1]
    simp only [align, sgn_f]
    rw [if_neg (by decide)]
    congr 1
    rw [Int.toNat_natCast, Int.toNat_natCast]
    refine Nat.mod_eq_of_lt ?_
    have hm : m * 2 ^ (e + 1074).toNat < 2 ^ 74 * U := by
      rw [← val_natAbs hx]; lia
    rw [← p1074] at hm
    refine Nat.lt_of_mul_lt_mul_right (a := 2 ^ (min e (-52) + 1074).toNat) ?_
    rw [Nat.mul_assoc, Nat.mul_assoc, ← Nat.pow_add, ← Nat.pow_add]
    have e1 : (e - min e (-52)).toNat + (min e (-52) + 1074).toNat = (e + 1074).toNat := by lia
    have e2 : (-52 - min e (-52)).toNat + (min e (-52) + 1074).toNat = 1022 := by lia
    rw [e1, e2, show (4503599627370496 : Nat) = 2 ^ 52 by decide, ← Nat.pow_add]
    exact hm
  have hR := ofBin_right (neg := a) (M := m * 2 ^ (e - min e (-52)).toNat) (g := min e (-52)) (by lia)
  rw [← hf, Nat.mul_assoc, ← Nat.pow_add] at hR
  have e1 : (e - min e (-52)).toNat + (min e (-52) + 1074).toNat = (e + 1074).toNat := by lia
  rw [e1, ← val_natAbs hx] at hR
  have := right_between hR (by decide) hrep hrep (by rw [sgn_val hx]; lia) (by rw [sgn_val hx]; lia)
  exact ⟨this.1, by lia⟩
theorem isZero_val {x : UInt64} (hx : Fin64 x) : isZero x = true ↔ val x = 0 := by
  obtain ⟨a, m, e, hx⟩ := hx
  unfold isZero
  rw [hx, val_eq hx]
  have hp : 0 < 2 ^ (e + 1074).toNat := Nat.two_pow_pos _
  cases m with
  | zero => simp [sgn]
  | succ k =>
    have h0 : 0 < (k + 1) * 2 ^ (e + 1074).toNat := Nat.mul_pos (Nat.succ_pos _) hp
    constructor
    · intro h; simp at h
    · intro h
      cases a
      · rw [sgn_f] at h; lia
      · rw [sgn_t] at h; lia
theorem mod1_spec {x : UInt64} (hx : Fin64 x) (h1 : -((2 ^ 74 * U : Nat) : Int) < val x) (h2 : val x < (2 ^ 74 * U : Nat)) :
    (0 ≤ val x → Fin64 (divmod x 4607182418800017408).2 ∧ val (divmod x 4607182418800017408).2 = val x) ∧
    (val x < 0 → ∀ lo hi, Rep lo → Rep hi → lo ≤ val x + (2 ^ 74 * U : Nat) → val x + (2 ^ 74 * U : Nat) ≤ hi → Fin64 (divmod x 4607182418800017408).2 ∧ lo ≤ val (divmod x 4607182418800017408).2 ∧ val (divmod x 4607182418800017408).2 ≤ hi) := by
  obtain ⟨fm, ev⟩ := fmod1 hx h1 h2
  have d0 : (divmod x 4607182418800017408).2 = (if isZero (fmod x 4607182418800017408) then copysign (zero false) 4607182418800017408 else if lt 4607182418800017408 (zero false) != lt (fmod x 4607182418800017408) (zero false) then add (fmod x 4607182418800017408) 4607182418800017408 else fmod x 4607182418800017408) := by
    unfold divmod
    simp only
    split
    · rfl
    · split <;> rfl
  have l1 : lt 4607182418800017408 (zero false) = false := by decide +kernel
  rw [d0, l1]
  generalize fmod x 4607182418800017408 = z at *
  have lz : lt z (zero false) = decide (val z < 0) := by
    obtain ⟨a, m, e, hz⟩ := fm
    unfold lt
    rw [cmp_right hz (decZ false), (fin_zero false).2]
    by_cases h : val z < 0
    · rw [Int.compare_eq_lt.mpr h, decide_eq_true h]; rfl
    · rw [decide_eq_false h]
      rcases Int.lt_or_eq_of_le (Int.not_lt.mp h) with h' | h'
      · rw [Int.compare_eq_gt.mpr h']; rfl
      · rw [← h']; rfl
  have f1 : Fin64 4607182418800017408 := ⟨_, _, _, dec1⟩
  rw [lz, ← ev]
  constructor
  · intro h
    by_cases hz : isZero z = true
    · rw [if_pos hz]
      have := (isZero_val fm).mp hz
      have ez : copysign (zero false) 4607182418800017408 = zero false := by decide +kernel
      rw [ez, this]
      exact fin_zero false
    · rw [if_neg hz, decide_eq_false (by lia), if_neg (by decide)]
      exact ⟨fm, rfl⟩
  · intro h lo hi hl hh a1 a2
    have hz : ¬ isZero z = true := fun q => by have := (isZero_val fm).mp q; lia
    rw [if_neg hz, decide_eq_true h, if_pos (by decide)]
    exact add_between fm f1 hl hh (by rw [val1]; exact a1) (by rw [val1]; exact a2)
end
end
section
section
open PySem.Float64
theorem rep_U (k j : Nat) (h2 : 2 ^ 52 ≤ k) (h : k ≤ 2 ^ 53) (hj : j ≤ 1000) : Rep ((k * (2 ^ j * U) : Nat) : Int) := by
  rw [← pow_U]
  exact rep_mk k (j + 1000) h h2 (by omega)
theorem frac_facts {n d : Nat} (hd : 0 < d) (hD : d ≤ 2 ^ 33) (hn : n ≤ d) :
    Fin64 (ofFrac false n d) ∧ 0 ≤ val (ofFrac false n d) ∧ val (ofFrac false n d) ≤ (2 ^ 74 * U : Nat) ∧ (1 ≤ n → ((2 ^ 41 * U : Nat) : Int) ≤ val (ofFrac false n d)) ∧ (n = d → val (ofFrac false n d) = (2 ^ 74 * U : Nat)) ∧ (n = 0 → val (ofFrac false n d) = 0) := by
  have r1 : Rep ((2 ^ 74 * U : Nat) : Int) := by
    have := rep_U (2 ^ 52) 22 (by decide) (by decide) (by decide)
    rw [show 2 ^ 52 * (2 ^ 22 * U) = 2 ^ 74 * U by omega] at this
    exact this
  have r2 : Rep ((2 ^ 41 * U : Nat) : Int) := by
    have := rep_U (2 ^ 52) 0 (by decide) (by decide) (by decide)
    have e := rep_mk (2 ^ 52) 989 (by omega) (by omega) (by omega)
    have e2 : (2 : Nat) ^ 52 * 2 ^ 989 = 2 ^ 41 * U := by rw [← pow_U, ← Nat.pow_add]
    rw [e2] at e
    exact e
  have hU : 0 < U := U_pos
  have hO : (0 : Int) ≤ ((2 ^ 74 * U : Nat) : Int) := by omega
  have hdn : (n : Int) ≤ (d : Int) := by omega
  have up : (n : Int) * (2 ^ 74 * U : Nat) ≤ d * ((2 ^ 74 * U : Nat) : Int) := Int.mul_le_mul_of_nonneg_right hdn hO
  have z := frac_between hd rep_zero r1 (by rw [Int.mul_zero]; exact Int.mul_nonneg (by omega) hO) up
  refine ⟨z.1, z.2.1, z.2.2, fun h1 => ?_, fun h1 => ?_, fun h1 => ?_⟩
  · refine (frac_between hd r2 r1 ?_ up).2.1
    have a1 : (d : Int) * ((2 ^ 41 * U : Nat) : Int) ≤ (2 ^ 33 : Nat) * ((2 ^ 41 * U : Nat) : Int) := Int.mul_le_mul_of_nonneg_right (by omega) (by omega)
    have a2 : (1 : Int) * (2 ^ 74 * U : Nat) ≤ (n : Int) * (2 ^ 74 * U : Nat) := Int.mul_le_mul_of_nonneg_right (by omega) hO
    omega
  · subst h1
    have := frac_between hd r1 r1 (Int.le_refl _) up
    omega
  · subst h1
    have := frac_between (n := 0) hd rep_zero rep_zero (by simp) (by simp)
    omega

/-- what the hue of three claims says -/
def HueOk (r g b : Int) (h : UInt64) : Prop :=
  Fin64 (mul (ofInt 6) h) ∧ (val (mul (ofInt 6) h) ≤ (2 ^ 74 * U : Nat) → g ≤ r ∧ b ≤ r) ∧ ((2 ^ 74 * U : Nat) < val (mul (ofInt 6) h) → val (mul (ofInt 6) h) ≤ 3 * (2 ^ 74 * U : Nat) → r ≤ g ∧ b ≤ g) ∧
  (3 * ((2 ^ 74 * U : Nat) : Int) < val (mul (ofInt 6) h) → val (mul (ofInt 6) h) ≤ 5 * (2 ^ 74 * U : Nat) → r ≤ b ∧ g ≤ b) ∧ (5 * ((2 ^ 74 * U : Nat) : Int) < val (mul (ofInt 6) h) → g ≤ r ∧ b ≤ r)

theorem hue_flat {r g b : Int} (h1 : g ≤ r) (h2 : b ≤ r) : HueOk r g b 0 := by
  have hU : 0 < U := U_pos
  have f0 : Fin64 0 := ⟨_, _, _, decZ false⟩
  have v0 : val 0 = 0 := (fin_zero false).2
  have m := mul6_between f0 rep_zero rep_zero (by omega) (by omega)
  refine ⟨m.1, fun _ => ⟨h1, h2⟩, fun _ => ?_, fun _ => ?_, fun _ => ⟨h1, h2⟩⟩ <;> omega

theorem hue_r {r g b M mi : Int} (hr : r = M) (a1 : g ≤ M) (a2 : b ≤ M) (b1 : mi ≤ g) (b2 : mi ≤ b) (hmi : mi = g ∨ mi = b) (hne : mi < M) (hM : M - mi < 8589934592) :
    HueOk r g b (divmod (div (sub (ofFrac false (M - b).natAbs (M - mi).natAbs) (ofFrac false (M - g).natAbs (M - mi).natAbs)) 4618441417868443648) 4607182418800017408).2 := by
  have hU : 0 < U := U_pos
  have hB := frac_facts (n := (M - b).natAbs) (d := (M - mi).natAbs) (by omega) (by omega) (by omega)
  have hG := frac_facts (n := (M - g).natAbs) (d := (M - mi).natAbs) (by omega) (by omega) (by omega)
  generalize ofFrac false (M - b).natAbs (M - mi).natAbs = bc at *
  generalize ofFrac false (M - g).natAbs (M - mi).natAbs = gc at *
  obtain ⟨fB, B0, B1, B2, B3, B4⟩ := hB
  obtain ⟨fG, G0, G1, G2, G3, G4⟩ := hG
  have cU1 : ((2 ^ 52 * (2 ^ 22 * U) : Nat) : Int) = (2 ^ 74 * U : Nat) := by omega
  have rO : Rep ((2 ^ 74 * U : Nat) : Int) := cU1 ▸ rep_U (2 ^ 52) 22 (by decide) (by decide) (by decide)
  have r6 := rep_U 6755399441055744 24 (by decide) (by decide) (by decide)
  by_cases hb : mi = b
  · have e1 := B3 (by rw [hb])
    by_cases hg : g < M
    · have e2 := G2 (by omega)
      clear B2 B3 B4 G2 G3 G4 hmi
      have rh := rep_U (2 ^ 53 - 2 ^ 20) 21 (by decide) (by decide) (by decide)
      have s := sub_between fB fG rep_zero rh (by omega) (by omega)
      generalize sub bc gc = h at *
      have rx := rep_U (6004799503160661 - 2 ^ 19) 19 (by decide) (by decide) (by decide)
      have x := div6_between s.1 rep_zero rx (by omega) (by omega)
      generalize div h 4618441417868443648 = y at *
      have z := (mod1_spec x.1 (by omega) (by omega)).1 (by omega)
      generalize (divmod y 4607182418800017408).2 = q at *
      have m := mul6_between z.1 rep_zero rO (by omega) (by omega)
      unfold HueOk
      refine ⟨m.1, fun _ => ?_, fun _ _ => ?_, fun _ _ => ?_, fun _ => ?_⟩ <;> omega
    · clear B2 B3 B4 G2 G3 G4 hmi
      have s := sub_between fB fG rep_zero rO (by omega) (by omega)
      generalize sub bc gc = h at *
      have rx := rep_U 6004799503160662 19 (by decide) (by decide) (by decide)
      have x := div6_between s.1 rep_zero rx (by omega) (by omega)
      generalize div h 4618441417868443648 = y at *
      have z := (mod1_spec x.1 (by omega) (by omega)).1 (by omega)
      generalize (divmod y 4607182418800017408).2 = q at *
      have r3 := rep_U 6755399441055744 23 (by decide) (by decide) (by decide)
      have m := mul6_between z.1 rep_zero r3 (by omega) (by omega)
      unfold HueOk
      refine ⟨m.1, fun _ => ?_, fun _ _ => ?_, fun _ _ => ?_, fun _ => ?_⟩ <;> omega
  · have hg : mi = g := hmi.resolve_right hb
    have e1 := G3 (by rw [hg])
    by_cases hbM : b < M
    · have e2 := B2 (by omega)
      clear B2 B3 B4 G2 G3 G4 hmi
      have rh := rep_neg (rep_U (2 ^ 53 - 2 ^ 20) 21 (by decide) (by decide) (by decide))
      have s := sub_between fB fG rh rep_zero (by omega) (by omega)
      generalize sub bc gc = h at *
      have rx := rep_neg (rep_U (6004799503160661 - 2 ^ 19) 19 (by decide) (by decide) (by decide))
      have x := div6_between s.1 rx rep_zero (by omega) (by omega)
      generalize div h 4618441417868443648 = y at *
      have z := mod1_spec x.1 (by omega) (by omega)
      by_cases hz : 0 ≤ val y
      · have z := z.1 hz
        generalize (divmod y 4607182418800017408).2 = q at *
        have m := mul6_between z.1 rep_zero rep_zero (by omega) (by omega)
        unfold HueOk
        refine ⟨m.1, fun _ => ?_, fun _ _ => ?_, fun _ _ => ?_, fun _ => ?_⟩ <;> omega
      · have z := z.2 (by omega) _ _ (rep_U 7505999379081898 21 (by decide) (by decide) (by decide)) rO (by omega) (by omega)
        generalize (divmod y 4607182418800017408).2 = q at *
        have m := mul6_between z.1 (rep_U 5629499534311423 24 (by decide) (by decide) (by decide)) r6 (by omega) (by omega)
        unfold HueOk
        refine ⟨m.1, fun _ => ?_, fun _ _ => ?_, fun _ _ => ?_, fun _ => ?_⟩ <;> omega
    · have e2 := B4 (by omega)
      clear B2 B3 B4 G2 G3 G4 hmi
      have s := sub_between fB fG (rep_neg rO) (rep_neg rO) (by omega) (by omega)
      generalize sub bc gc = h at *
      have rx := rep_neg (rep_U 6004799503160662 19 (by decide) (by decide) (by decide))
      have rx2 := rep_neg (rep_U (6004799503160661 - 2 ^ 19) 19 (by decide) (by decide) (by decide))
      have x := div6_between s.1 rx rx2 (by omega) (by omega)
      generalize div h 4618441417868443648 = y at *
      have z := (mod1_spec x.1 (by omega) (by omega)).2 (by omega) _ _ (rep_U 6755399441055744 21 (by decide) (by decide) (by decide)) rO (by omega) (by omega)
      generalize (divmod y 4607182418800017408).2 = q at *
      have m := mul6_between z.1 (rep_U 5066549580791808 24 (by decide) (by decide) (by decide)) r6 (by omega) (by omega)
      unfold HueOk
      refine ⟨m.1, fun _ => ?_, fun _ _ => ?_, fun _ _ => ?_, fun _ => ?_⟩ <;> omega

theorem hue_g {r g b M mi : Int} (hg : g = M) (a1 : r < M) (a2 : b ≤ M) (b1 : mi ≤ r) (b2 : mi ≤ b) (hM : M - mi < 8589934592) :
    HueOk r g b (divmod (div (sub (add 4611686018427387904 (ofFrac false (M - r).natAbs (M - mi).natAbs)) (ofFrac false (M - b).natAbs (M - mi).natAbs)) 4618441417868443648) 4607182418800017408).2 := by
  have hU : 0 < U := U_pos
  have hB := frac_facts (n := (M - b).natAbs) (d := (M - mi).natAbs) (by omega) (by omega) (by omega)
  have hR := frac_facts (n := (M - r).natAbs) (d := (M - mi).natAbs) (by omega) (by omega) (by omega)
  generalize ofFrac false (M - b).natAbs (M - mi).natAbs = bc at *
  generalize ofFrac false (M - r).natAbs (M - mi).natAbs = rc at *
  obtain ⟨fB, B0, B1, B2, B3, B4⟩ := hB
  obtain ⟨fR, R0, R1, R2, R3, R4⟩ := hR
  have e1 := R2 (by omega)
  clear B2 B3 B4 R2 R3 R4
  have v2 := val2
  have r3 := rep_U 6755399441055744 23 (by decide) (by decide) (by decide)
  have t := add_between ⟨_, _, _, dec2⟩ fR (rep_U (2 ^ 52 + 2 ^ 18) 23 (by decide) (by decide) (by decide)) r3 (by omega) (by omega)
  generalize add 4611686018427387904 rc = t' at *
  have s := sub_between t.1 fB (rep_U (2 ^ 52 + 2 ^ 19) 22 (by decide) (by decide) (by decide)) r3 (by omega) (by omega)
  generalize sub t' bc = h at *
  have x := div6_between s.1 (rep_U (6004799503160661 + 2 ^ 19) 19 (by decide) (by decide) (by decide)) (rep_U (2 ^ 52) 21 (by decide) (by decide) (by decide)) (by omega) (by omega)
  generalize div h 4618441417868443648 = y at *
  have z := (mod1_spec x.1 (by omega) (by omega)).1 (by omega)
  generalize (divmod y 4607182418800017408).2 = q at *
  have m := mul6_between z.1 (rep_U (2 ^ 52 + 2 ^ 18) 22 (by decide) (by decide) (by decide)) r3 (by omega) (by omega)
  unfold HueOk
  refine ⟨m.1, fun _ => ?_, fun _ _ => ?_, fun _ _ => ?_, fun _ => ?_⟩ <;> omega

theorem hue_b {r g b M mi : Int} (hb : b = M) (a1 : r < M) (a2 : g < M) (b1 : mi ≤ r) (b2 : mi ≤ g) (hM : M - mi < 8589934592) :
    HueOk r g b (divmod (div (sub (add 4616189618054758400 (ofFrac false (M - g).natAbs (M - mi).natAbs)) (ofFrac false (M - r).natAbs (M - mi).natAbs)) 4618441417868443648) 4607182418800017408).2 := by
  have hU : 0 < U := U_pos
  have hG := frac_facts (n := (M - g).natAbs) (d := (M - mi).natAbs) (by omega) (by omega) (by omega)
  have hR := frac_facts (n := (M - r).natAbs) (d := (M - mi).natAbs) (by omega) (by omega) (by omega)
  generalize ofFrac false (M - g).natAbs (M - mi).natAbs = gc at *
  generalize ofFrac false (M - r).natAbs (M - mi).natAbs = rc at *
  obtain ⟨fG, G0, G1, G2, G3, G4⟩ := hG
  obtain ⟨fR, R0, R1, R2, R3, R4⟩ := hR
  have e1 := R2 (by omega)
  have e2 := G2 (by omega)
  clear G2 G3 G4 R2 R3 R4
  have v4 := val4
  have r5 := rep_U 5629499534213120 24 (by decide) (by decide) (by decide)
  have t := add_between ⟨_, _, _, dec4⟩ fG (rep_U (2 ^ 52 + 2 ^ 17) 24 (by decide) (by decide) (by decide)) r5 (by omega) (by omega)
  generalize add 4616189618054758400 gc = t' at *
  have s := sub_between t.1 fR (rep_U (6755399441055744 + 2 ^ 18) 23 (by decide) (by decide) (by decide)) (rep_U (5629499534213120 - 2 ^ 17) 24 (by decide) (by decide) (by decide)) (by omega) (by omega)
  generalize sub t' rc = h at *
  have x := div6_between s.1 (rep_U (2 ^ 52 + 2 ^ 17) 21 (by decide) (by decide) (by decide)) (rep_U 7505999378819754 21 (by decide) (by decide) (by decide)) (by omega) (by omega)
  generalize div h 4618441417868443648 = y at *
  have z := (mod1_spec x.1 (by omega) (by omega)).1 (by omega)
  generalize (divmod y 4607182418800017408).2 = q at *
  have m := mul6_between z.1 (rep_U (6755399441055744 + 2 ^ 17) 23 (by decide) (by decide) (by decide)) r5 (by omega) (by omega)
  unfold HueOk
  refine ⟨m.1, fun _ => ?_, fun _ _ => ?_, fun _ _ => ?_, fun _ => ?_⟩ <;> omega

theorem ofInt_between {n : Int} (h0 : 0 ≤ n) (h : n < 2 ^ 34) (h4 : 4 ≤ n ∨ n = n) : Fin64 (ofInt n) ∧ 0 ≤ val (ofInt n) ∧ (4 ≤ n → 4 * ((2 ^ 74 * U : Nat) : Int) ≤ val (ofInt n)) ∧ val (ofInt n) ≤ 2 ^ 34 * ((2 ^ 74 * U : Nat) : Int) := by
  have hU : 0 < U := U_pos
  have hR := ofInt_right n
  rw [p1074, decide_eq_false (by omega)] at hR
  have hi := rep_U (2 ^ 52) 56 (by decide) (by decide) (by decide)
  have en : (n.natAbs : Int) = n := by omega
  have up : (n.natAbs : Int) * ((2 ^ 74 * U : Nat) : Int) ≤ 2 ^ 34 * ((2 ^ 74 * U : Nat) : Int) := Int.mul_le_mul_of_nonneg_right (by omega) (by omega)
  have z := right_between hR (by decide) rep_zero hi (by rw [sgn_f]; omega) (by rw [sgn_f, Int.natCast_mul]; omega)
  refine ⟨z.1, z.2.1, fun h4 => ?_, by omega⟩
  have lo := rep_U (2 ^ 52) 24 (by decide) (by decide) (by decide)
  have dn : 4 * ((2 ^ 74 * U : Nat) : Int) ≤ (n.natAbs : Int) * ((2 ^ 74 * U : Nat) : Int) := Int.mul_le_mul_of_nonneg_right (by omega) (by omega)
  have z2 := right_between hR (by decide) lo hi (by rw [sgn_f, Int.natCast_mul]; omega) (by rw [sgn_f, Int.natCast_mul]; omega)
  omega
theorem no_zero {M mi : Int} (h4 : 4 ≤ M) (hM : M < 8589934592) (h0 : 0 ≤ mi) (h1 : mi ≤ M) : isZero (sub (sub 4611686018427387904 (ofInt M)) (ofInt mi)) = false := by
  have hU : 0 < U := U_pos
  have a := ofInt_between (n := M) (by omega) (by omega) (.inr rfl)
  have b := ofInt_between (n := mi) (by omega) (by omega) (.inr rfl)
  have v2 := val2
  have a4 := a.2.2.1 h4
  have t := sub_between ⟨_, _, _, dec2⟩ a.1 (rep_neg (rep_U (2 ^ 52) 57 (by decide) (by decide) (by decide))) (rep_neg (rep_U (2 ^ 52) 23 (by decide) (by decide) (by decide))) (by omega) (by omega)
  have t2 := sub_between t.1 b.1 (rep_neg (rep_U (2 ^ 52) 58 (by decide) (by decide) (by decide))) (rep_neg (rep_U (2 ^ 52) 23 (by decide) (by decide) (by decide))) (by omega) (by omega)
  cases e : isZero (sub (sub 4611686018427387904 (ofInt M)) (ofInt mi)) with
  | false => rfl
  | true => have := (isZero_val t2.1).mp e; omega

theorem sg_false {a b : Int} (h1 : 0 ≤ a) (h2 : 0 ≤ b) : (decide (a < 0) != decide (b < 0)) = false := by
  rw [decide_eq_false (by omega), decide_eq_false (by omega)]; rfl
theorem hue_r' {r g b M mi : Int} {s1 s2 : Bool} (e1 : s1 = false) (e2 : s2 = false) (hr : r = M) (a1 : g ≤ M) (a2 : b ≤ M) (b1 : mi ≤ g) (b2 : mi ≤ b) (hmi : mi = g ∨ mi = b) (hne : mi < M) (hM : M - mi < 8589934592) :
    HueOk r g b (divmod (div (sub (ofFrac s1 (M - b).natAbs (M - mi).natAbs) (ofFrac s2 (M - g).natAbs (M - mi).natAbs)) 4618441417868443648) 4607182418800017408).2 := by
  subst e1 e2; exact hue_r hr a1 a2 b1 b2 hmi hne hM
theorem hue_g' {r g b M mi : Int} {s1 s2 : Bool} (e1 : s1 = false) (e2 : s2 = false) (hg : g = M) (a1 : r < M) (a2 : b ≤ M) (b1 : mi ≤ r) (b2 : mi ≤ b) (hM : M - mi < 8589934592) :
    HueOk r g b (divmod (div (sub (add 4611686018427387904 (ofFrac s1 (M - r).natAbs (M - mi).natAbs)) (ofFrac s2 (M - b).natAbs (M - mi).natAbs)) 4618441417868443648) 4607182418800017408).2 := by
  subst e1 e2; exact hue_g hg a1 a2 b1 b2 hM
theorem hue_b' {r g b M mi : Int} {s1 s2 : Bool} (e1 : s1 = false) (e2 : s2 = false) (hb : b = M) (a1 : r < M) (a2 : g < M) (b1 : mi ≤ r) (b2 : mi ≤ g) (hM : M - mi < 8589934592) :
    HueOk r g b (divmod (div (sub (add 4616189618054758400 (ofFrac s1 (M - g).natAbs (M - mi).natAbs)) (ofFrac s2 (M - r).natAbs (M - mi).natAbs)) 4618441417868443648) 4607182418800017408).2 := by
  subst e1 e2; exact hue_b hb a1 a2 b1 b2 hM
theorem no_zero' {M mi : Int} (h : isZero (sub (sub 4611686018427387904 (ofInt M)) (ofInt mi)) = true) (h4 : 4 ≤ M) (hM : M < 8589934592) (h0 : 0 ≤ mi) (h1 : mi ≤ M) : False := by
  rw [no_zero h4 hM h0 h1] at h; cases h

theorem one_int : (2 : Int) ^ 1074 = ((2 ^ 74 * U : Nat) : Int) := by rw [← p1074]; exact (Int.natCast_pow 2 1074).symm
theorem cmp_gt_val {x : UInt64} (hx : Fin64 x) (i : Int) : (cmpInt x i == some Ordering.gt) = decide (i * ((2 ^ 74 * U : Nat) : Int) < val x) := by
  obtain ⟨a, m, e, hx⟩ := hx
  rw [cmpInt_right hx, one_int]
  generalize i * ((2 ^ 74 * U : Nat) : Int) = z
  rcases Int.lt_trichotomy (val x) z with h | h | h
  · rw [Int.compare_eq_lt.mpr h, decide_eq_false (by omega)]; rfl
  · rw [Int.compare_eq_eq.mpr h, decide_eq_false (by omega)]; rfl
  · rw [Int.compare_eq_gt.mpr h, decide_eq_true h]; rfl
theorem cmp_le_val {x : UInt64} (hx : Fin64 x) (i : Int) : (cmpInt x i == some Ordering.lt || cmpInt x i == some Ordering.eq) = decide (val x ≤ i * ((2 ^ 74 * U : Nat) : Int)) := by
  obtain ⟨a, m, e, hx⟩ := hx
  rw [cmpInt_right hx, one_int]
  generalize i * ((2 ^ 74 * U : Nat) : Int) = z
  rcases Int.lt_trichotomy (val x) z with h | h | h
  · rw [Int.compare_eq_lt.mpr h, decide_eq_true (by omega)]; rfl
  · rw [Int.compare_eq_eq.mpr h, decide_eq_true (by omega)]; rfl
  · rw [Int.compare_eq_gt.mpr h, decide_eq_false (by omega)]; rfl
theorem party_at {r g b : Int} {h : UInt64} (H : HueOk r g b h) {x : UInt64} (e : x = mul (ofInt 6) h) {c1 c3 c3' c5 : Bool} {p : Int}
    (e1 : (cmpInt x 1 == some Ordering.gt) = c1) (e3 : (cmpInt x 3 == some Ordering.lt || cmpInt x 3 == some Ordering.eq) = c3) (e3' : (cmpInt x 3 == some Ordering.gt) = c3') (e5 : (cmpInt x 5 == some Ordering.lt || cmpInt x 5 == some Ordering.eq) = c5)
    (hp : p = if c1 && c3 then 1 else if c3' && c5 then 2 else 0) : (p = 0 ∧ g ≤ r ∧ b ≤ r) ∨ (p = 1 ∧ r ≤ g ∧ b ≤ g) ∨ (p = 2 ∧ r ≤ b ∧ g ≤ b) := by
  subst e
  obtain ⟨fx, k1, k2, k3, k4⟩ := H
  rw [cmp_gt_val fx] at e1 e3'
  rw [cmp_le_val fx] at e3 e5
  subst e1 e3 e3' e5
  generalize val (mul (ofInt 6) h) = v at *
  generalize ((2 ^ 74 * U : Nat) : Int) = X at *
  by_cases h1 : (decide (1 * X < v) && decide (v ≤ 3 * X)) = true
  · rw [if_pos h1] at hp
    simp only [Bool.and_eq_true, decide_eq_true_eq] at h1
    exact .inr (.inl ⟨hp, k2 (by rw [Int.one_mul] at h1; exact h1.1) h1.2⟩)
  · rw [if_neg h1] at hp
    simp only [Bool.and_eq_true, decide_eq_true_eq, Int.one_mul] at h1
    by_cases h2 : (decide (3 * X < v) && decide (v ≤ 5 * X)) = true
    · rw [if_pos h2] at hp
      simp only [Bool.and_eq_true, decide_eq_true_eq] at h2
      exact .inr (.inr ⟨hp, k3 h2.1 h2.2⟩)
    · rw [if_neg h2] at hp
      simp only [Bool.and_eq_true, decide_eq_true_eq] at h2
      refine .inl ⟨hp, ?_⟩
      rcases Int.lt_or_le X v with c | c
      · exact k4 (Int.lt_of_not_ge fun z => h2 ⟨Int.lt_of_not_ge fun z => h1 ⟨c, z⟩, z⟩)
      · exact k1 c
end
end
section
/-- the reply that tells a name -/
def sentL (l : List Nat) : List Nat := [50, 53, 55, 32, 34] ++ (StrLaws.dbl 34 l ++ [34, 32, 115, 111, 32, 102, 97, 114])
def sentOf (l : List Nat) : Str := ⟨(sentL l).toArray⟩
theorem dbl_len (c : Nat) (l : List Nat) : (StrLaws.dbl c l).length ≤ 2 * l.length := by
  induction l with
  | nil => simp [StrLaws.dbl]
  | cons a r ih =>
    show (if a = c then a :: a :: StrLaws.dbl c r else a :: StrLaws.dbl c r).length ≤ _
    split <;> simp only [List.length_cons] <;> lia
theorem dbl_str_len {x : Str} (hx : x.length ≤ 100) : (Str.mk (StrLaws.dbl 34 x.cps.toList).toArray).length ≤ 200 := by
  have := dbl_len 34 x.cps.toList
  show (StrLaws.dbl 34 x.cps.toList).toArray.size ≤ 200
  have hx' : x.cps.toList.length ≤ 100 := hx
  simp only [List.size_toArray]
  lia
theorem sent_eq (x : Str) : Str.ofString "257 \"" ++ Str.mk (StrLaws.dbl 34 x.cps.toList).toArray ++ Str.ofString "\" so far" = sentOf x.cps.toList := by
  have e1 : Str.ofString "257 \"" = ⟨#[50, 53, 55, 32, 34]⟩ := by decide
  have e2 : Str.ofString "\" so far" = ⟨#[34, 32, 115, 111, 32, 102, 97, 114]⟩ := by decide
  rw [e1, e2]
  show Str.mk ((#[50, 53, 55, 32, 34] ++ (StrLaws.dbl 34 x.cps.toList).toArray) ++ #[34, 32, 115, 111, 32, 102, 97, 114]) = ⟨(sentL x.cps.toList).toArray⟩
  congr 1
  simp [sentL]
set_option maxRecDepth 100000 in
set_option maxHeartbeats 400000000 in
theorem con_sent {w : World} {x : Str} (hx : x.length ≤ 100) :
  Con w 123 10
   (fun _ vs => ∃ t, vs = [.str x t])
   (fun d => d.1 = sentOf x.cps.toList) (fun _ => []) (fun d : Str × Tok => .str d.1 d.2) := by
  unfold Con
  w_top off
  k_fill
  intro p loose mean mg mb dp un gd cn cs ca ccd cl outer A₀ base h₀ L m news s vs Q E B F X N T hk hR hd hu hret
  obtain ⟨t, rfl⟩ := hR
  have hl9 := dbl_str_len hx
  refine wpAny_call ?_
  k_dflt ktr_enter
  k_with_none
  k_with "binaryOp Add str str" => ((with_reducible show wpAny _ _ (binaryOp Operator.Add (Value.str (Str.ofString "257 \"") _) (Value.str (Txt.replace _ _ _) _)) _ _ _); rw [replace_dbl _ (Str.ofString "\"") (Str.ofString "\"\"") 34 (by decide) (by decide)])
  k_steps
  refine' hret ⟨_, _⟩ _ _ (sent_eq x) (by k_asm) (cb_drop (by k_asm) ?x) ?y
  case x => tb_rel
  case y => tb_start
theorem con_sentL {w : World} {l : List Nat} (hx : l.length ≤ 100) :
  Con w 123 10
   (fun _ vs => ∃ t, vs = [.str ⟨l.toArray⟩ t])
   (fun d => d.1 = sentOf l) (fun _ => []) (fun d : Str × Tok => .str d.1 d.2) := con_sent (x := ⟨l.toArray⟩) hx
end
section
def PInv (l : List Nat) (i : Int) (d : Str) : Prop := ∃ pre rest, l = pre ++ rest ∧ i = 5 + ((StrLaws.dbl 34 pre).length : Int) ∧ d = ⟨pre.toArray⟩
theorem pinv_start (l : List Nat) : PInv l 5 (Str.ofString "") := ⟨[], l, rfl, rfl, by decide⟩
theorem sent_drop {l pre rest : List Nat} (h : l = pre ++ rest) : (sentL l).drop (5 + (StrLaws.dbl 34 pre).length) = StrLaws.dbl 34 rest ++ [34, 32, 115, 111, 32, 102, 97, 114] := by
  subst h
  unfold sentL
  rw [StrLaws.dbl_append, List.append_assoc, ← List.append_assoc]
  have e : 5 + (StrLaws.dbl 34 pre).length = ([50, 53, 55, 32, 34] ++ StrLaws.dbl 34 pre).length := by simp; omega
  rw [e, List.drop_left]
theorem sent_at {l pre rest : List Nat} (h : l = pre ++ rest) (k : Nat) : (sentL l)[5 + (StrLaws.dbl 34 pre).length + k]? = (StrLaws.dbl 34 rest ++ [34, 32, 115, 111, 32, 102, 97, 114])[k]? := by
  rw [← sent_drop h, List.getElem?_drop]
theorem sent_length {l pre rest : List Nat} (h : l = pre ++ rest) : (sentOf l).length = 13 + (StrLaws.dbl 34 pre).length + (StrLaws.dbl 34 rest).length := by
  subst h
  show (sentL (pre ++ rest)).toArray.size = _
  simp [sentL, StrLaws.dbl_append]
  omega
theorem qc {c : Nat} (h : c ≠ 34) : (Str.mk #[c] == Str.ofString "\"") = false := by
  rw [show Str.ofString "\"" = ⟨#[34]⟩ by decide]
  cases e : (Str.mk #[c] == Str.mk #[34]) with
  | false => rfl
  | true => have := eq_of_beq e; simp at this; exact absurd this h
/-- what a turn finds -/
inductive PTurn (l : List Nat) (i : Int) (d : Str) : Prop
  | stop : d = ⟨l.toArray⟩ → (sentL l)[i.toNat]? = some 34 → (sentL l)[(i + 1).toNat]? = some 32 → i + 8 = (sentOf l).length → PTurn l i d
  | quote : (sentL l)[i.toNat]? = some 34 → (sentL l)[(i + 1).toNat]? = some 34 → i + 2 < (sentOf l).length → PInv l (i + 1 + 1) (d ++ Str.ofString "\"") → PTurn l i d
  | other (c : Nat) : (Str.mk #[c] == Str.ofString "\"") = false → (Str.mk #[c]).length ≤ 1 → (sentL l)[i.toNat]? = some c → i + 2 < (sentOf l).length → PInv l (i + 1) (d ++ ⟨#[c]⟩) → PTurn l i d
theorem pinv_turn {l : List Nat} {i : Int} {d : Str} (h : PInv l i d) : 5 ≤ i ∧ i < (sentOf l).length ∧ d.length ≤ l.length ∧ PTurn l i d := by
  obtain ⟨pre, rest, hl, hi, hd⟩ := h
  have hdl : d.length ≤ l.length := by
    rw [hd]
    show pre.toArray.size ≤ l.length
    rw [List.size_toArray, hl, List.length_append]; omega
  have hn := sent_length hl
  refine ⟨by omega, by omega, hdl, ?_⟩
  have a0 := sent_at hl 0
  have a1 := sent_at hl 1
  have e0 : i.toNat = 5 + (StrLaws.dbl 34 pre).length + 0 := by omega
  have e1 : (i + 1).toNat = 5 + (StrLaws.dbl 34 pre).length + 1 := by omega
  rw [← e0] at a0
  rw [← e1] at a1
  cases rest with
  | nil =>
    rw [List.append_nil] at hl
    subst hl
    exact .stop hd a0 a1 (by simp only [StrLaws.dbl, List.length_nil] at hn; omega)
  | cons c r =>
    have hl' : l = (pre ++ [c]) ++ r := by rw [hl, List.append_assoc]; rfl
    by_cases hc : c = 34
    · subst hc
      have ed : StrLaws.dbl 34 (34 :: r) = 34 :: 34 :: StrLaws.dbl 34 r := by simp [StrLaws.dbl]
      rw [ed] at a0 a1 hn
      refine .quote a0 a1 (by simp only [List.length_cons] at hn; omega) ⟨pre ++ [34], r, hl', ?_, ?_⟩
      · rw [StrLaws.dbl_append, List.length_append, StrLaws.dbl_one]; simp only [List.length_cons, List.length_nil]; omega
      · rw [hd, show Str.ofString "\"" = ⟨#[34]⟩ by decide]
        show Str.mk (pre.toArray ++ #[34]) = _
        simp
    · have ed : StrLaws.dbl 34 (c :: r) = c :: StrLaws.dbl 34 r := by simp [StrLaws.dbl, hc]
      rw [ed] at a0 hn
      refine .other c (qc hc) (Nat.le_refl _) a0 (by simp only [List.length_cons] at hn; omega) ⟨pre ++ [c], r, hl', ?_, ?_⟩
      · rw [StrLaws.dbl_append, List.length_append]; simp only [StrLaws.dbl, hc, if_false, List.length_cons, List.length_nil]; omega
      · rw [hd]
        show Str.mk (pre.toArray ++ #[c]) = _
        simp
section
variable {prog : Program} {w : World} {A : Around} {E : Value → Shared → Prop} {s : Shared}
theorem item_sent {l : List Nat} {c : Nat} {i : Int} {t u : Tok} {value slice : PySem.Expr} {Q : Value → Shared → Prop} (hc : (sentL l)[i.toNat]? = some c) (h0 : 0 ≤ i) (h1 : i < (sentOf l).length) (h2 : (sentOf l).length < 1000)
    (h : Q (.str ⟨#[c]⟩ s.toks) { s with toks := s.toks + 1 })
    (hs : subscripted slice false (.str (sentOf l) t) (.int i u) = operate [.str (sentOf l) t, .int i u] (getItem (.str (sentOf l) t) (.int i u)))
    (ht : ∀ r, letTemporaryGo value (.str (sentOf l) t) r = pure ()) :
    wpAny (model prog w) A (subscriptTail value slice (.str (sentOf l) t) (.int i u)) Q E s := by
  refine item_str (fitsSsize_of (N := 9223372036854775808) (by omega) (by omega) (Int.le_refl _)) (by omega) h1 (fun _ => ?_) hs ht
  have e : Txt.item (sentOf l) i = ⟨#[c]⟩ := by
    refine item_meets h0 ?_
    show (sentL l).toArray[i.toNat]? = some c
    rw [List.getElem?_toArray]
    exact hc
  rw [e]
  exact h
end

theorem head_ok (l : List Nat) : (Txt.slice (sentOf l) none (some 3) != Str.ofString "257") = false := by
  have hn : (3 : Int) ≤ ((sentOf l).cps.toList.length : Int) := by
    show (3 : Int) ≤ ((sentL l).length : Int)
    simp [sentL]; omega
  have e := eq_of_beq (slice_closes_to (x := sentOf l) (j := 3) ⟨by decide, hn⟩)
  rw [e]
  have e2 : ((sentOf l).cps.toList.drop (0 : Int).toNat).take ((3 : Int) - 0).toNat = [50, 53, 55] := rfl
  rw [e2]
  decide
theorem head_ok2 (l : List Nat) : (Txt.slice (sentOf l) (some 3) (some 5) != Str.ofString " \"") = false := by
  have hn : (5 : Int) ≤ ((sentOf l).cps.toList.length : Int) := by
    show (5 : Int) ≤ ((sentL l).length : Int)
    simp [sentL]; omega
  have e := eq_of_beq (slice_closes (x := sentOf l) (i := 3) (j := 5) ⟨by decide, by decide, hn⟩)
  rw [e]
  have e2 : ((sentOf l).cps.toList.drop (3 : Int).toNat).take ((5 : Int) - 3).toNat = [32, 34] := rfl
  rw [e2]
  decide
set_option maxRecDepth 100000 in
set_option maxHeartbeats 400000000 in
theorem con_p257 {w : World} {l : List Nat} (hx : l.length ≤ 100) :
  Con w 109 10
   (fun _ vs => ∃ t, vs = [.str (sentOf l) t])
   (fun d => d.1 = ⟨l.toArray⟩) (fun _ => []) (fun d : Str × Tok => .str d.1 d.2) := by
  have hlen : (sentOf l).length ≤ 300 := by
    have := sent_length (l := l) (pre := []) (rest := l) rfl
    have := dbl_len 34 l
    simp only [StrLaws.dbl, List.length_nil] at *
    omega
  unfold Con
  w_top off
  k_fill
  intro p loose mean mg mb dp un gd cn cs ca ccd cl outer A₀ base h₀ L m news s vs Q E B F X N T hk hR hd hu hret
  obtain ⟨t, rfl⟩ := hR
  have hh1 := head_ok l
  have hh2 := head_ok2 l
  refine wpAny_call ?_
  k_dflt ktr_enter
  k_with_none
  k_with "subscriptTail Name Name str int" => (k_here; (with_reducible show wpAny _ _ (subscriptTail _ _ (Value.str (sentOf _) _) (Value.int _ _)) _ _ _); k_dflt (refine' item_sent ?kcz0 ?k0z0 ?k1z0 ?k2z0 ?_ ?ksz0 ?ktz0; (case kcz0 => assumption); (case k0z0 => omega); (case k1z0 => omega); (case k2z0 => omega); (case ksz0 => with_unfolding_all rfl); (case ktz0 => intro _; with_unfolding_all rfl); k_whole))
  k_with "exec While Compare cons nil" => k_while (fun (_ : List Int) i dirname => PInv l i dirname) (fun _ i _ => ((sentOf l).length - i).toNat) "i" "dirname"; obtain ⟨i0, i1, i2, it⟩ := pinv_turn kInv; rcases it with it | it | ⟨c9, it⟩
  k_with "state" => first | exact pinv_start _ | assumption
  k_steps
  refine' hret ⟨_, _⟩ _ _ ?hOk9 (by k_asm) (cb_drop (by k_asm) ?x) ?y
  case x => tb_rel
  case y => tb_start
  case hOk9 => assumption

end
section
/-- what parse229 finds in a reply -/
structure Reply (r : Str) (R : Nat) (mid dg : Str) (p : Int) : Prop where
  len : r.length = R + 1
  lo : 16 ≤ R
  hi : R ≤ 17
  head : Txt.slice r none (some 3) = Str.ofString "229"
  left : Txt.find r (Str.ofString "(") = 10
  right : Txt.find3 r (Str.ofString ")") (10 + 1) = (R : Int)
  i1 : Txt.item r (10 + 1) = Str.ofString "!"
  i2 : Txt.item r ((R : Int) - 1) = Str.ofString "!"
  hmid : Txt.slice r (some (10 + 1)) (some (R : Int)) = mid
  midl : mid.length ≤ 10
  parts : Txt.split mid (Str.ofString "!") = [Str.ofString "", Str.ofString "", Str.ofString "", dg, Str.ofString ""]
  num : PySem.intText? dg = some p
  dgl : dg.length ≤ 640
def replyOf (p : Int) : Str := Str.ofString "229 seats (!!!" ++ Str.ofString (toString p) ++ Str.ofString "!)"
theorem reply_ok : ∀ n : Fin 27, Reply (replyOf ((n : Nat) : Int)) (if (n : Nat) < 10 then 16 else 17) (Txt.slice (replyOf ((n : Nat) : Int)) (some (10 + 1)) (some ((if (n : Nat) < 10 then 16 else 17 : Nat) : Int))) (Str.ofString (toString ((n : Nat) : Int))) ((n : Nat) : Int) := by
  have a1 : ∀ n : Fin 27, (replyOf ((n : Nat) : Int)).length = (if (n : Nat) < 10 then 16 else 17) + 1 := by decide +kernel
  have a2 : ∀ n : Fin 27, Txt.slice (replyOf ((n : Nat) : Int)) none (some 3) = Str.ofString "229" := by decide +kernel
  have a3 : ∀ n : Fin 27, Txt.find (replyOf ((n : Nat) : Int)) (Str.ofString "(") = 10 := by decide +kernel
  have a4 : ∀ n : Fin 27, Txt.find3 (replyOf ((n : Nat) : Int)) (Str.ofString ")") (10 + 1) = ((if (n : Nat) < 10 then 16 else 17 : Nat) : Int) := by decide +kernel
  have a5 : ∀ n : Fin 27, Txt.item (replyOf ((n : Nat) : Int)) (10 + 1) = Str.ofString "!" := by decide +kernel
  have a6 : ∀ n : Fin 27, Txt.item (replyOf ((n : Nat) : Int)) (((if (n : Nat) < 10 then 16 else 17 : Nat) : Int) - 1) = Str.ofString "!" := by decide +kernel
  have a7 : ∀ n : Fin 27, (Txt.slice (replyOf ((n : Nat) : Int)) (some (10 + 1)) (some ((if (n : Nat) < 10 then 16 else 17 : Nat) : Int))).length ≤ 10 := by decide +kernel
  have a8 : ∀ n : Fin 27, Txt.split (Txt.slice (replyOf ((n : Nat) : Int)) (some (10 + 1)) (some ((if (n : Nat) < 10 then 16 else 17 : Nat) : Int))) (Str.ofString "!") = [Str.ofString "", Str.ofString "", Str.ofString "", Str.ofString (toString ((n : Nat) : Int)), Str.ofString ""] := by decide +kernel
  have a9 : ∀ n : Fin 27, PySem.intText? (Str.ofString (toString ((n : Nat) : Int))) = some ((n : Nat) : Int) := by decide +kernel
  have aa : ∀ n : Fin 27, (Str.ofString (toString ((n : Nat) : Int))).length ≤ 640 := by decide +kernel
  intro n
  exact ⟨a1 n, by split <;> omega, by split <;> omega, a2 n, a3 n, a4 n, a5 n, a6 n, rfl, a7 n, a8 n, a9 n, aa n⟩
theorem parts_at {l : List (Str × Tok)} {r mid dg : Str} {R : Nat} (h : List.map (fun x => x.fst) l = Txt.split (Txt.slice r (some (10 + 1)) (some (R : Int))) (Txt.item r (10 + 1))) (hmid : Txt.slice r (some (10 + 1)) (some (R : Int)) = mid) (i1 : Txt.item r (10 + 1) = Str.ofString "!")
    (parts : Txt.split mid (Str.ofString "!") = [Str.ofString "", Str.ofString "", Str.ofString "", dg, Str.ofString ""]) : List.map (fun x => x.fst) l = [Str.ofString "", Str.ofString "", Str.ofString "", dg, Str.ofString ""] := by
  rw [h, hmid, i1, parts]
set_option rowWalk.seconds 100 in
set_option maxRecDepth 100000 in
set_option maxHeartbeats 400000000 in
theorem con_reply {w : World} {r mid dg : Str} {R : Nat} {p : Int} (hr : Reply r R mid dg p) :
  Con w 102 20
   (fun news vs => ∃ t q k1 k2 kk, vs = [.str r t, .ref q] ∧ (q, tupOf #[.str (Str.ofString "hall") k1, .int 21 k2] kk) ∈ news)
   (fun _ => True) (fun d : Addr × Tok × Tok => [(d.1, tupOf #[.str (Str.ofString "hall") d.2.1, .int p d.2.2] 0)]) (fun d => .ref d.1) := by
  obtain ⟨len, lo, hi, head, left, right, i1, i2, hmid, midl, parts, num, dgl⟩ := hr
  unfold Con
  w_top off
  k_fill
  intro p9 loose mean mg mb dp un gd cn cs ca ccd cl outer A₀ base h₀ L m news s vs Q E B F X N T hk hR hd hu hret
  obtain ⟨t, q, k1, k2, kk, rfl, hv⟩ := hR
  refine wpAny_call ?_
  k_dflt ktr_enter
  k_with_none
  k_with "call builtin:str.find" => first | (refine SC.find ?_; simp only [left]) | (refine SC.find3 ?_; simp only [right])
  k_steps
  · exact absurd (by assumption : (Txt.slice r none (some 3) != Str.ofString "229") = true) (by rw [head]; decide)
  · exact absurd (by assumption : (Txt.item r (10 + 1) != Txt.item r ((R : Int) - 1)) = true) (by rw [i1, i2]; decide)
  · exfalso
    have e9 := parts_at (by assumption) hmid i1 parts
    have e8 := congrArg List.length e9
    simp at e8
    omega
  · have e9 := parts_at (by assumption) hmid i1 parts
    have hy := (by assumption : (List.map _ _)[Int.toNat 3]? = some _)
    rw [e9] at hy
    cases (show some dg = some _ from hy)
    refine KIN.call_text num dgl ?_
    k_steps
    refine' hret ⟨_, _, _⟩ _ _ trivial (by k_asm) (cb_drop (by k_asm) ?x) ?y
    case x => tb_rel
    case y => tb_start
theorem con_p229 {w : World} {p : Int} (h0 : 0 ≤ p) (h1 : p < 27) :
  Con w 102 20
   (fun news vs => ∃ t q k1 k2 kk, vs = [.str (replyOf p) t, .ref q] ∧ (q, tupOf #[.str (Str.ofString "hall") k1, .int 21 k2] kk) ∈ news)
   (fun _ => True) (fun d : Addr × Tok × Tok => [(d.1, tupOf #[.str (Str.ofString "hall") d.2.1, .int p d.2.2] 0)]) (fun d => .ref d.1) := by
  obtain ⟨n, rfl⟩ := Int.eq_ofNat_of_zero_le h0
  exact con_reply (reply_ok ⟨n, by omega⟩)
end
section
def LIter (o : Obj) (l : Addr) (i : Nat) : Prop := o.cls = .type "list_iterator" ∧ o.data = .fields #[.ref l, .int i 0]
section
variable {prog : Program} {w : World} {A : Around} {E : Value → Shared → Prop} {s : Shared} {h₀ : Heap} {L l it : Addr} {m : Str → Option Value} {news : List (Addr × Obj)} {g : Obj → List (Addr × Obj)} {io : Obj} {items : Array Value} {n i : Nat} {x : Value}
theorem li_iter {Q : Value → Shared → Prop} (F : Fr h₀ L s.heap m) (N : News h₀ L s.heap news) (hp : (l, listOf items n) ∈ news)
    (h : ∀ (I : Addr) h' oI, Fr h₀ L h' m → News h₀ L h' ((I, oI) :: news) → (∀ p ∈ news, p.1 < I) → LIter oI l 0 → Q (.ref I) { s with heap := h' }) :
    wpAny (model prog w) A (call (.builtin "iter") [.ref l]) Q E s := by
  refine call_function_entry (by decide +kernel) (by decide +kernel) kdk_entry_iter (kdk_args_iter _) ?_
  unfold Builtin.«iter»
  refine wpAny_bind (m := someArgs "iter" 1 2 _) (wpAny_of_eq (a := [Value.ref l]) (by first | rfl | kernel_rfl!) ?_)
  show wpAny _ _ (pyIter (.ref l) >>= _) _ _ _
  refine wpAny_bind (wpAny_pyIter_list (items := items) ⟨_, (N _ hp).1, rfl, _, rfl⟩ ?_)
  exact wpAny_pure ⟨_, rfl, h _ _ _ (F.push _) (News.push F N _ rfl) (fun q hq => Heap.lt_size (N q hq).1) ⟨rfl, rfl⟩⟩
theorem li_special {Q : Option Value → Shared → Prop} (hit : s.heap.IsListIter it l i) (hl : s.heap.IsList l items) (hx : items[i]? = some x)
    (hQ : ∀ h', h'.IsListIter it l (i + 1) → Heap.SameBut it s.heap h' → Q (some x) { s with heap := h' }) :
    wpAny (model prog w) A (callSpecial? (.ref it) (Str.ofString "__next__")) Q E s := by
  obtain ⟨o, ho, hc, hd⟩ := id hit
  obtain ⟨ol, hol, _, nl, hdl⟩ := hl
  refine wpAny_callSpecial?_slot (name := Str.ofString "__next__") hit.typeIs slot_listiter_next (wpAny_call_entry slot_listiter_next hit.typeIs entry_listiter_next ?_ (args_listiter_next _))
  show wpAny _ _ (field (.ref it) 0 >>= _) _ _ s
  refine wpAny_bind (wpAny_field ho hd (x := .ref l) rfl ?_)
  show wpAny _ _ (if (Value.ref l == Value.none) = true then _ else _) _ _ s
  rw [if_neg (show ¬ ((Value.ref l == Value.none) = true) from Bool.false_ne_true)]
  show wpAny _ _ (field (.ref it) 1 >>= _) _ _ s
  refine wpAny_bind (wpAny_field ho hd (x := .int i 0) rfl ?_)
  show wpAny _ _ (seqItems? (.ref l) >>= _) _ _ s
  refine wpAny_bind (wpAny_seqItems hol hdl ?_)
  simp only [Int.toNat_natCast, hx]
  refine wpAny_bind (wpAny_setField ho hd (by simp) (wpAny_pure ⟨x, rfl, hQ _ ?_ (Heap.SameBut.update ..)⟩))
  exact ⟨_, Heap.get?_update_self _ ho (Obj.isFreed_of_fields (Obj.data_mapFields hd _)), (Obj.cls_mapFields ..).trans hc, by
    rw [Obj.data_mapFields hd]; simp [rawInt]⟩
theorem li_next {Q : Value → Shared → Prop} (F : Fr h₀ L s.heap m) (N : News h₀ L s.heap news) (U : UpdF it io news g) (hi : LIter io l i) {vs : List Value} (hp : (l, listOf vs.toArray n) ∈ news) (hx : vs[i]? = some x)
    (h : ∀ h' o', Fr h₀ L h' m → News h₀ L h' (g o') → LIter o' l (i + 1) → Q x { s with heap := h' }) :
    wpAny (model prog w) A (call (.builtin "next") [.ref it]) Q E s := by
  obtain ⟨pre, post, hl, hg, a, b⟩ := U.split
  have hmem : (it, io) ∈ news := by rw [hl]; exact List.mem_append_right _ (.head _)
  have hm := N (it, io) hmem
  have hit : s.heap.IsListIter it l i := ⟨io, hm.1, hi.1, hi.2⟩
  refine call_function_entry (by decide +kernel) (by decide +kernel) kdk_entry_next (kdk_args_next _) ?_
  unfold Builtin.«next»
  refine wpAny_bind (m := someArgs "next" 1 2 _) (wpAny_of_eq (a := [Value.ref it]) (by first | rfl | kernel_rfl!) ?_)
  dsimp only
  refine wpAny_bind (wpAny_specialOf (name := Str.ofString "__next__") hit.typeIs slot_listiter_next.lookup ?_)
  refine wpAny_ite_split (fun hab => absurd hab (by decide)) (fun _ => ?_)
  refine wpAny_bind (li_special (items := vs.toArray) hit ⟨_, (N _ hp).1, rfl, _, rfl⟩ (by simpa using hx) fun h' hit' hs => ?_)
  obtain ⟨o', ho', hc', hd'⟩ := hit'
  exact wpAny_pure ⟨_, rfl, h h' o' (F.change hs hm.2.1 hm.2.2) (hg o' ▸ (show News h₀ L s.heap (pre ++ (it, io) :: post) from hl ▸ N).setIn a b hs ho') ⟨hc', hd'⟩⟩
end
end
section
/-- as Con, for a call that changes what stood in the ledger: keep stands behind it -/
def Con2 {D : Type} (w : World) (f : Addr) (nd : Nat) (Rel : List (Addr × Obj) → List (Addr × Obj) → List Value → Prop) (P : D → Prop) (tl : D → List (Addr × Obj)) (val : D → Value) : Prop :=
  ∀ (p : Program) (loose : List Str) (mean : ExcName → Option Value) (mg mb : Str → Option Value) (dp un : Nat) (gd : Option (List Code)) (cn : Str) (cs : Scope) (a : Addr) (ccd : Value) (cl : List (Str × Addr)) (outer : List Env) (A₀ : Around) (base h₀ : Heap) (L : Addr) (m : Str → Option Value) (news keep : List (Addr × Obj)) (s : Shared) (vs : List Value)
    (Q E : Value → Shared → Prop),
    Below A₀ base outer h₀ → Fr h₀ L s.heap m → (hd.heap_39 w.params).In h₀ → News h₀ L s.heap news → Top p loose mean mg mb h₀ → cs.kind = .function → Rel news keep vs → dp + nd < recursionLimit → un + 10 * nd < cLine →
    (∀ d h' tk', P d → Fr h₀ L h' m → News h₀ L h' (tl d ++ keep) → (∀ q ∈ keep, ∀ p ∈ tl d, q.1 < p.1) → Q (val d) { s with heap := h', toks := tk' }) →
    wpAny (model PySem.Challenge.rw_kl0516_01.row.prog w) (ktrTop dp un gd cn cs L a ccd cl outer) (call (.ref f) vs) Q E s
section
variable {D : Type} {w : World} {f : Addr} {nd : Nat} {Rel : List (Addr × Obj) → List (Addr × Obj) → List Value → Prop} {P : D → Prop} {tl : D → List (Addr × Obj)} {val : D → Value}
  {p : Program} {loose : List Str} {mean : ExcName → Option Value} {mg mb : Str → Option Value} {dp un : Nat} {gd : Option (List Code)} {cn : Str} {cs : Scope} {a : Addr} {ccd : Value} {cl : List (Str × Addr)} {outer : List Env} {A₀ : Around} {base h₀ : Heap} {L : Addr} {m : Str → Option Value} {news keep : List (Addr × Obj)} {s : Shared} {vs : List Value} {Q E : Value → Shared → Prop}
theorem con2_use (C : Con2 w f nd Rel P tl val) (B : Below A₀ base outer h₀) (F : Fr h₀ L s.heap m) (X : (hd.heap_39 w.params).In h₀) (N : News h₀ L s.heap news) (T : Top p loose mean mg mb h₀) (hk : cs.kind = .function) (hR : Rel news keep vs) (hd : dp + nd < recursionLimit) (hu : un + 10 * nd < cLine)
    (h : ∀ d h' tk', P d → Fr h₀ L h' m → News h₀ L h' (tl d ++ keep) → (∀ q ∈ keep, ∀ p ∈ tl d, q.1 < p.1) → Q (val d) { s with heap := h', toks := tk' }) :
    wpAny (model PySem.Challenge.rw_kl0516_01.row.prog w) (ktrTop dp un gd cn cs L a ccd cl outer) (call (.ref f) vs) Q E s := C _ _ _ _ _ _ _ _ _ _ _ _ _ _ _ _ _ _ _ _ _ _ _ _ _ B F X N T hk hR hd hu h
end
section
variable {prog : Program} {w : World} {A : Around} {E : Value → Shared → Prop} {Q : Flow → Shared → Prop} {s : Shared} {env : Env} {h₀ : Heap}
def WBody (h₀ : Heap) (L : Addr) (s : Shared) (J : (Str → Option Value) → List (Addr × Obj) → Prop) (f : Flow) (s₃ : Shared) : Prop :=
  f = .next ∧ ∃ h' tk m₂ news₂, s₃ = { s with heap := h', toks := tk } ∧ Fr h₀ L h' m₂ ∧ News h₀ L h' news₂ ∧ J m₂ news₂
theorem WBody.intro {L : Addr} {J : (Str → Option Value) → List (Addr × Obj) → Prop} {h' : Heap} {tk : Nat} {m₂ : Str → Option Value} {news₂ : List (Addr × Obj)} (F : Fr h₀ L h' m₂) (N : News h₀ L h' news₂) (hJ : J m₂ news₂) : WBody h₀ L s J .next { s with heap := h', toks := tk } := ⟨rfl, h', tk, m₂, news₂, rfl, F, N, hJ⟩
/-- a while that turns once -/
theorem while_once {L : Addr} {test : Expr} {body : List Stmt} {pos : Pos} {m : Str → Option Value} {news : List (Addr × Obj)} (J : (Str → Option Value) → List (Addr × Obj) → Prop)
    (F : Fr h₀ L s.heap m) (N : News h₀ L s.heap news)
    (turn : ∀ h₁ tk₁, Fr h₀ L h₁ m → News h₀ L h₁ news → wpAny (model prog w) A (isTrue test env (eval test env)) (fun b s₂ => b = true ∧ wpAny (model prog w) A (execs body env) (WBody h₀ L s J) E s₂) E { s with heap := h₁, toks := tk₁ })
    (stop : ∀ h₁ tk₁ m₁ news₁, Fr h₀ L h₁ m₁ → News h₀ L h₁ news₁ → J m₁ news₁ → wpAny (model prog w) A (isTrue test env (eval test env)) (fun b s₂ => b = false ∧ Q .next s₂) E { s with heap := h₁, toks := tk₁ })
    (hE : PassesOwn (model prog w) A env E := by passes_own) :
    wpAny (model prog w) A (exec (.While test body [] pos) env) Q E s := by
  refine While_inv (n₀ := 1) (fun n m₁ news₁ => (n = 1 ∧ m₁ = m ∧ news₁ = news) ∨ (n = 0 ∧ J m₁ news₁)) F N (.inl ⟨rfl, rfl, rfl⟩) ?_ hE
  rintro n m₁ news₁ h₁ tk₁ F₁ N₁ (⟨rfl, rfl, rfl⟩ | ⟨rfl, hJ⟩)
  · refine wpAny_mono (turn h₁ tk₁ F₁ N₁) (fun b s₂ h₂ => ?_) fun _ _ e => e
    obtain ⟨rfl, h₂⟩ := h₂
    rw [if_pos rfl]
    refine wpAny_mono h₂ (fun f s₃ h₃ => ?_) fun _ _ e => e
    obtain ⟨rfl, h', tk, m₂, news₂, rfl, F₂, N₂, hJ⟩ := h₃
    exact WhileStep.intro F₂ N₂ (n' := 0) (by omega) (.inr ⟨rfl, hJ⟩)
  · refine wpAny_mono (stop h₁ tk₁ m₁ news₁ F₁ N₁ hJ) (fun b s₂ h₂ => ?_) fun _ _ e => e
    obtain ⟨rfl, h₂⟩ := h₂
    rw [if_neg (by simp)]
    exact h₂
/-- a while that does not turn -/
theorem while_none {L : Addr} {test : Expr} {body : List Stmt} {pos : Pos} {m : Str → Option Value} {news : List (Addr × Obj)}
    (F : Fr h₀ L s.heap m) (N : News h₀ L s.heap news)
    (stop : ∀ h₁ tk₁, Fr h₀ L h₁ m → News h₀ L h₁ news → wpAny (model prog w) A (isTrue test env (eval test env)) (fun b s₂ => b = false ∧ Q .next s₂) E { s with heap := h₁, toks := tk₁ })
    (hE : PassesOwn (model prog w) A env E := by passes_own) :
    wpAny (model prog w) A (exec (.While test body [] pos) env) Q E s := by
  refine While_inv (n₀ := 1) (fun n m₁ news₁ => (n = 1 ∧ m₁ = m ∧ news₁ = news)) F N ⟨rfl, rfl, rfl⟩ ?_ hE
  rintro n m₁ news₁ h₁ tk₁ F₁ N₁ ⟨rfl, rfl, rfl⟩
  refine wpAny_mono (stop h₁ tk₁ F₁ N₁) (fun b s₂ h₂ => ?_) fun _ _ e => e
  obtain ⟨rfl, h₂⟩ := h₂
  rw [if_neg (by simp)]
  exact h₂
end
def VJ (it : Addr) (b r : Int) (rest : List (Addr × Obj)) (m : Str → Option Value) (nx : List (Addr × Obj)) : Prop := ∃ (u : Str → Option Value) (t1 t2 : Tok) (o' : Obj), m = (fun y => if y = Str.ofString "val" then some (.int r t2) else if y = Str.ofString "b" then some (.int b t1) else u y) ∧ nx = (it, o') :: rest
theorem bits_a : ∀ n : Fin 64, Builtin.bitAnd (64 + ((n : Nat) : Int)) 63 = ((n : Nat) : Int) ∧ Builtin.bitAnd (64 + ((n : Nat) : Int)) 64 = 64 := by decide +kernel
theorem bits_b : ∀ n : Fin 64, Builtin.bitAnd ((n : Nat) : Int) 63 = ((n : Nat) : Int) ∧ Builtin.bitAnd ((n : Nat) : Int) 64 = 0 := by decide +kernel
theorem bits_or : ∀ n k : Fin 64, Builtin.bitOr (((n : Nat) : Int) * 2 ^ 6) ((k : Nat) : Int) = ((n : Nat) : Int) * 64 + ((k : Nat) : Int) := by decide +kernel
theorem bits_hi {a : Int} (h : 64 ≤ a ∧ a < 128) : Builtin.bitAnd a 63 = a - 64 ∧ Builtin.bitAnd a 64 = 64 := by
  have e := bits_a ⟨(a - 64).toNat, by omega⟩
  rw [show 64 + (((⟨(a - 64).toNat, by omega⟩ : Fin 64) : Nat) : Int) = a by show 64 + ((a - 64).toNat : Int) = a; omega] at e
  exact ⟨e.1.trans (by show ((a - 64).toNat : Int) = _; omega), e.2⟩
theorem bits_lo {b : Int} (h : 0 ≤ b ∧ b < 64) : Builtin.bitAnd b 63 = b ∧ Builtin.bitAnd b 64 = 0 := by
  have e := bits_b ⟨b.toNat, by omega⟩
  rw [show (((⟨b.toNat, by omega⟩ : Fin 64) : Nat) : Int) = b by show (b.toNat : Int) = b; omega] at e
  exact e
theorem bits_join {a b : Int} (ha : 64 ≤ a ∧ a < 128) (hb : 0 ≤ b ∧ b < 64) : Builtin.bitOr (Builtin.bitAnd a 63 * 2 ^ 6) (Builtin.bitAnd b 63) = (a - 64) * 64 + b := by
  rw [(bits_hi ha).1, (bits_lo hb).1]
  have e := bits_or ⟨(a - 64).toNat, by omega⟩ ⟨b.toNat, by omega⟩
  rw [show (((⟨(a - 64).toNat, by omega⟩ : Fin 64) : Nat) : Int) = a - 64 by show ((a - 64).toNat : Int) = a - 64; omega, show (((⟨b.toNat, by omega⟩ : Fin 64) : Nat) : Int) = b by show (b.toNat : Int) = b; omega] at e
  exact e
set_option rowWalk.seconds 100 in
set_option maxRecDepth 100000 in
set_option maxHeartbeats 400000000 in
theorem con_varint2 {w : World} {a b : Int} (ha : 64 ≤ a ∧ a < 128) (hb : 0 ≤ b ∧ b < 64) :
  Con2 w 58 20
   (fun news keep vs => ∃ it io l k t1 t2, vs = [.ref it] ∧ news = (it, io) :: (l, listOf #[.int a t1, .int b t2] k) :: keep ∧ LIter io l 0 ∧ NLt ((l, listOf #[.int a t1, .int b t2] k) :: keep) it)
   (fun _ => True) (fun _ => []) (fun t : Tok => .int ((a - 64) * 64 + b) t) := by
  unfold Con2
  w_top off
  k_fill
  intro p loose mean mg mb dp un gd cn cs ca ccd cl outer A₀ base h₀ L m news keep s vs Q E B F X N T hk hR hd hu hret
  obtain ⟨it, io, l, k, t1, t2, rfl, rfl, hio, hlt⟩ := hR
  refine wpAny_call ?_
  k_dflt ktr_enter
  k_with_none
  k_with "call builtin:next" => (k_here; (with_reducible show wpAny _ _ (call (Value.builtin "next") [Value.ref _]) _ _ _); k_dflt (refine' li_next ?Fz0 ?Nz0 ?Uz0 ?iz0 ?pz0 ?xz0 ?_; (case Fz0 => k_asm); (case Nz0 => k_asm); (case Uz0 => k_updF); (case iz0 => assumption); (case pz0 => k_mem); (case xz0 => rfl)); intro h' o' F' N' hi'; (try dsimp only at N'))
  k_with "inplaceOp LShift int int" => (k_here; (refine ilshift_int_small (by decide) (by decide) ?kq9z1 ?_); (case kq9z1 => (rw [(bits_hi (by assumption)).1]; omega)))
  k_with "exec While BinOp cons nil" => k_dflt (refine' while_once (VJ it b (Builtin.bitOr ((Builtin.bitAnd a 63) * 2 ^ 6) (Builtin.bitAnd b 63)) ((l, listOf #[.int a t1, .int b t2] k) :: keep)) ?wa ?wb ?wc ?wd; (case wa => k_asm); (case wb => k_asm)); rotate_left; (intro h1 tk1 m1 news1 F' N' hJ; obtain ⟨u9, ta9, tb9, o9, rfl, rfl⟩ := hJ); rotate_left; (intro h1 tk1 F' N')
  k_steps
  · rw [(bits_hi ha).2]; decide
  · k_steps
    exact WBody.intro (by k_asm) (by k_asm) ⟨_, _, _, _, rfl, rfl⟩
  · rw [(bits_lo hb).2]; decide
  · rw [bits_join ha hb]
    exact hret _ _ _ trivial (by k_asm) (cb_drop (by k_asm) (by intro p9 h9; kst_mem)) (by intro _ _ _ h; cases h)
set_option rowWalk.seconds 100 in
set_option maxRecDepth 100000 in
set_option maxHeartbeats 400000000 in
theorem con_varint1 {w : World} {a : Int} (ha : 0 ≤ a ∧ a < 64) :
  Con2 w 58 20
   (fun news keep vs => ∃ it io l k t1, vs = [.ref it] ∧ news = (it, io) :: (l, listOf #[.int a t1] k) :: keep ∧ LIter io l 0 ∧ NLt ((l, listOf #[.int a t1] k) :: keep) it)
   (fun _ => True) (fun _ => []) (fun t : Tok => .int a t) := by
  unfold Con2
  w_top off
  k_fill
  intro p loose mean mg mb dp un gd cn cs ca ccd cl outer A₀ base h₀ L m news keep s vs Q E B F X N T hk hR hd hu hret
  obtain ⟨it, io, l, k, t1, rfl, rfl, hio, hlt⟩ := hR
  refine wpAny_call ?_
  k_dflt ktr_enter
  k_with_none
  k_with "call builtin:next" => (k_here; (with_reducible show wpAny _ _ (call (Value.builtin "next") [Value.ref _]) _ _ _); k_dflt (refine' li_next ?Fz0 ?Nz0 ?Uz0 ?iz0 ?pz0 ?xz0 ?_; (case Fz0 => k_asm); (case Nz0 => k_asm); (case Uz0 => k_updF); (case iz0 => assumption); (case pz0 => k_mem); (case xz0 => rfl)); intro h' o' F' N' hi'; (try dsimp only at N'))
  k_with "inplaceOp LShift int int" => (k_here; (refine ilshift_int_small (by decide) (by decide) ?kq9z1 ?_); (case kq9z1 => (rw [(bits_hi (by assumption)).1]; omega)))
  k_with "exec While BinOp cons nil" => k_dflt (refine' while_none ?wa ?wb ?wd; (case wa => k_asm); (case wb => k_asm)); intro h1 tk1 F' N'
  k_steps
  · rw [(bits_lo ha).2]; decide
  · rw [(bits_lo ha).1]
    exact hret _ _ _ trivial (by k_asm) (cb_drop (by k_asm) (by intro p9 h9; kst_mem)) (by intro _ _ _ h; cases h)

end
section
section
variable {prog : Program} {w : World} {A : Around} {E : Value → Shared → Prop} {s : Shared} {env : Env} {h₀ : Heap} {body : List Stmt} {Q : Flow → Shared → Prop}
/-- «for a, b in enumerate(list)» by an own invariant -/
theorem enum_own {elts : List Expr} {k : Nat} {pos : Pos} {l : Addr} {lo : Obj} {vs : List Value} {n : Nat} {m₀ : Str → Option Value} {news : List (Addr × Obj)} (J : Nat → (Str → Option Value) → List (Addr × Obj) → Prop)
    (hh : A.handled = none) (F : Fr h₀ env.locals s.heap m₀) (N : News h₀ env.locals s.heap news) (hm : (l, lo) ∈ news) (hc : lo.cls = .type "list") (hd : lo.data = .seq vs.toArray n) (h0 : J 0 m₀ news)
    (turn : ∀ (I : Addr) (i : Nat) v m₁ news₁ h tk T t oE oI, (∀ p ∈ news, @LT.lt Nat _ p.1 I) → vs[i]? = some v → (l, lo) ∈ news₁ → J i m₁ news₁ → IsTup h T #[.int (i : Int) t, v] → Fr h₀ env.locals h m₁ → News h₀ env.locals h ((I + 1, oE) :: (I, oI) :: news₁) →
      wpAny (model prog w) A (assign (.Tuple elts k pos) env (.ref T)) (fun _ s₂ => wpAny (model prog w) A (execs body env)
        (UnrPostW h₀ env.locals { s with heap := h, toks := tk } [(I + 1, oE), (I, oI)] (fun m' n' => (l, lo) ∈ n' ∧ J (i + 1) m' n') Q) E s₂) E { s with heap := h, toks := tk })
    (done : ∀ m₁ news₁ h tk, J vs.length m₁ news₁ → Fr h₀ env.locals h m₁ → News h₀ env.locals h news₁ → Q .next { s with heap := h, toks := tk }) :
    wpAny (model prog w) A (call (.type "enumerate") [.ref l]) (fun xv s₁ => wpAny (model prog w) A (pyIter xv) (fun it s₂ => TurnsAt prog w A h₀ env (.Tuple elts k pos) body Q E it s₂) E s₁) E s := by
  refine ktu_enum hh F N hm hc hd rfl fun I hI => ?_
  have go : ∀ (r : List Value) (i : Nat) m₁ news₁, vs.drop i = r → i ≤ vs.length → (l, lo) ∈ news₁ → J i m₁ news₁ →
      ItemsRest prog w A E h₀ env (.Tuple elts k pos) body Q s [(I + 1, "enumerate"), (I, "list_iterator")] [(l, lo)] (enumItems i r) m₁ news₁ := by
    intro r
    induction r with
    | nil =>
      intro i m₁ news₁ hr hi hm₁ hJ
      have : i = vs.length := by
        have := congrArg List.length hr
        rw [List.length_drop, List.length_nil] at this; omega
      subst this
      exact ItemsRest.zero fun h tk F₁ N₁ => done m₁ news₁ h tk hJ F₁ N₁
    | cons v r ih =>
      intro i m₁ news₁ hr hi hm₁ hJ
      have hlt : i < vs.length := by
        have := congrArg List.length hr
        rw [List.length_drop, List.length_cons] at this; omega
      have hv : vs[i]? = some v := by
        have := congrArg (fun l : List Value => l[0]?) hr
        simpa using this
      have hr' : vs.drop (i + 1) = r := by
        rw [← List.drop_drop, hr]; rfl
      refine ItemsRest.pair fun T t h tk hT F₁ => AllObj.cons fun oE hE => AllObj.cons fun oI hI' => AllObj.nil fun N₁ => ?_
      refine wpAny_mono (turn I i v m₁ news₁ h tk T t oE oI hI hv hm₁ hJ hT F₁ N₁) (fun _ s₂ h₂ => wpAny_mono h₂ (fun f s₃ p => ?_) fun _ _ e => e) fun _ _ e => e
      have fin : UnrEndW h₀ env.locals { s with heap := h, toks := tk } [(I + 1, oE), (I, oI)] (fun m' n' => (l, lo) ∈ n' ∧ J (i + 1) m' n') s₃ →
          UnrEndW h₀ env.locals { s with heap := h, toks := tk } [(I + 1, oE), (I, oI)] (fun m' n' => SubL [(l, lo)] n' ∧ ItemsRest prog w A E h₀ env (.Tuple elts k pos) body Q s [(I + 1, "enumerate"), (I, "list_iterator")] [(l, lo)] (enumItems (i + 1) r) m' n') s₃ := by
        rintro ⟨h', tk', m', news', e, F', N', ho, hm', hJ'⟩
        exact ⟨h', tk', m', news', e, F', N', ho, And.intro hm' trivial, ih (i + 1) m' news' hr' hlt hm' hJ'⟩
      cases f with
      | ret v => exact p
      | brk => exact p
      | next => exact fin p
      | cont => exact fin p
  exact go vs 0 m₀ news rfl (Nat.zero_le _) hm h0
/-- what a loop's turn may change -/
def IMap (x y z : Str) (m₀ u : Str → Option Value) : Str → Option Value := fun a => if a = x then u a else if a = y then u a else if a = z then u a else m₀ a
def IPost (h₀ : Heap) (L : Addr) (x y z : Str) (m₀ : Str → Option Value) (news own : List (Addr × Obj)) (s : Shared) (Q : Flow → Shared → Prop) (f : Flow) (s₂ : Shared) : Prop :=
  match f with
  | .ret v => Q (.ret v) s₂
  | .brk => Q .next s₂
  | _ => ∃ h' tk m' news', s₂ = { s with heap := h', toks := tk } ∧ Fr h₀ L h' m' ∧ News h₀ L h' news' ∧ (∀ p ∈ news ++ own, p ∈ news') ∧ ∀ a, a ≠ x → a ≠ y → a ≠ z → m' a = m₀ a
/-- «for x in list»: nothing is kept from turn to turn -/
theorem list_own {L : Addr} (hL : env.locals = L) {l : Addr} {vs : List Value} {nn : Nat} {x y z : Str} {m₀ : Str → Option Value} {news : List (Addr × Obj)}
    (hh : A.handled = none) (hl : (l, listOf vs.toArray nn) ∈ news) (F : Fr h₀ L s.heap m₀) (N : News h₀ L s.heap news)
    (turn : ∀ (i : Nat) v u h tk own, vs[i]? = some v → OwnOff own (news.map (·.1)) → Fr h₀ L h (fun a => if a = x then some v else IMap x y z m₀ u a) → News h₀ L h (news ++ own) →
      wpAny (model prog w) A (execs body env) (IPost h₀ L x y z m₀ news own { s with heap := h, toks := tk } Q) E { s with heap := h, toks := tk })
    (done : ∀ u h tk, Fr h₀ L h (IMap x y z m₀ u) → News h₀ L h news → Q .next { s with heap := h, toks := tk }) :
    wpAny (model prog w) A (pyIter (.ref l)) (fun it s₂ => LoopAtV prog w A h₀ env x body Q E it s₂) E s := by
  subst hL
  have self : ∀ m', (∀ a, a ≠ x → a ≠ y → a ≠ z → m' a = m₀ a) → m' = IMap x y z m₀ m' := by
    intro m' h
    funext a
    unfold IMap
    by_cases c1 : a = x
    · rw [if_pos c1]
    · rw [if_neg c1]
      by_cases c2 : a = y
      · rw [if_pos c2]
      · rw [if_neg c2]
        by_cases c3 : a = z
        · rw [if_pos c3]
        · rw [if_neg c3]; exact h a c1 c2 c3
  refine kdl_iter (fun _ m nx => nx = news ∧ ∃ u, m = IMap x y z m₀ u) hh hl F N ⟨rfl, m₀, self m₀ fun _ _ _ _ => rfl⟩ ?_ ?_
  · rintro i v m₁ nx h tk own hv hoff _ ⟨rfl, u, rfl⟩ F₁ N₁
    refine wpAny_mono (turn i v u h tk own hv hoff F₁ N₁) (fun f s₂ p => ?_) fun _ _ e => e
    have fin : IPost h₀ env.locals x y z m₀ nx own { s with heap := h, toks := tk } Q .next s₂ →
        InvEndG h₀ env.locals (fun m' n' => (l, listOf vs.toArray nn) ∈ n' ∧ n' = nx ∧ ∃ u, m' = IMap x y z m₀ u) own { s with heap := h, toks := tk } s₂ := by
      rintro ⟨h', tk', m', news', e, F', N', hs, hm'⟩
      exact ⟨h', tk', m', news', nx, e, F', N', fun p hp => hs p (List.mem_append.mpr (.inl hp)), fun p hp => hs p (List.mem_append.mpr (.inr hp)), hoff, hl, rfl, m', self m' hm'⟩
    cases f with
    | ret v => exact p
    | brk => exact p
    | next => exact fin p
    | cont => exact fin p
  · rintro m₁ nx h tk ⟨rfl, u, rfl⟩ F₁ N₁
    exact done u h tk F₁ N₁
end
end
section
/-- the signs that carry a number -/
def codes (n : Int) : List Nat := if 63 < n then [(64 + n.fdiv 64).toNat, (n.fmod 64).toNat] else [n.toNat]
def carried (n : Int) : Str := sentOf (codes n)
def SPost (h₀ : Heap) (L : Addr) (x y z : Str) (m₀ : Str → Option Value) (S c : Addr) (oc : Obj) (ss : List Value) (n : Int) (T : List (Addr × Obj)) (s : Shared) (Q : Flow → Shared → Prop) (f : Flow) (s₂ : Shared) : Prop :=
  match f with
  | .ret v => Q (.ret v) s₂
  | .brk => Q .next s₂
  | _ => ∃ h' tk m' news' k' t', s₂ = { s with heap := h', toks := tk } ∧ Fr h₀ L h' m' ∧ News h₀ L h' news' ∧ (∀ p ∈ (S, listOf (ss ++ [Value.str (carried n) t']).toArray k') :: (c, oc) :: T, p ∈ news') ∧ ∀ a, a ≠ x → a ≠ y → a ≠ z → m' a = m₀ a
theorem spost_next {h₀ : Heap} {L : Addr} {x y z : Str} {m₀ m' : Str → Option Value} {S c : Addr} {oc : Obj} {ss : List Value} {n : Int} {T news' : List (Addr × Obj)} {s : Shared} {Q : Flow → Shared → Prop} {h' : Heap} {tk k' : Nat} {t' : Tok}
    (F : Fr h₀ L h' m') (N : News h₀ L h' news') (hs : ∀ p ∈ (S, listOf (ss ++ [Value.str (carried n) t']).toArray k') :: (c, oc) :: T, p ∈ news') (hm : ∀ a, a ≠ x → a ≠ y → a ≠ z → m' a = m₀ a) :
    SPost h₀ L x y z m₀ S c oc ss n T s Q .next { s with heap := h', toks := tk } := ⟨h', tk, m', news', k', t', rfl, F, N, hs, hm⟩
theorem carried_hi {n : Int} (h : 63 < n) : sentOf [(64 + n.fdiv 64).toNat, (n.fmod 64).toNat] = carried n := by unfold carried codes; rw [if_pos h]
theorem carried_lo {n : Int} (h : ¬ 63 < n) : sentOf [n.toNat] = carried n := by unfold carried codes; rw [if_neg h]
theorem two_cat (a b : Nat) : (Str.mk #[a] ++ Str.mk #[b]) = Str.mk [a, b].toArray := rfl
theorem spost_push {h₀ : Heap} {L : Addr} {x y z : Str} {m₀ m' : Str → Option Value} {S c : Addr} {oc : Obj} {ss : List Value} {n : Int} {T news' : List (Addr × Obj)} {s : Shared} {Q : Flow → Shared → Prop} {h' : Heap} {tk k' : Nat} {t' : Tok} {X : Str} (hX : X = carried n)
    (F : Fr h₀ L h' m') (N : News h₀ L h' news') (hs : ∀ p ∈ (S, listOf (ss.toArray.push (Value.str X t')) k') :: (c, oc) :: T, p ∈ news') (hm : ∀ a, a ≠ x → a ≠ y → a ≠ z → m' a = m₀ a) :
    SPost h₀ L x y z m₀ S c oc ss n T s Q .next { s with heap := h', toks := tk } := by
  subst hX
  rw [List.push_toArray] at hs
  exact spost_next F N hs hm
def SOff (S : Addr) (T : List (Addr × Obj)) : Prop := ∀ p ∈ T, @Ne Nat p.1 S
theorem SOff.all {S : Addr} {T : List (Addr × Obj)} (h : SOff S T) : ∀ p ∈ T, p.1 ≠ S := h
theorem strs_snoc {ss : List Value} {xs : List Str} {x : Str} {t : Tok} (h : StrsAre ss xs) : StrsAre (ss ++ [Value.str x t]) (xs ++ [x]) := by
  induction h with
  | nil => exact .cons _ _ .nil
  | cons a u _ ih => exact .cons a u ih
theorem imap_self {x y z : Str} {m₀ m' : Str → Option Value} (h : ∀ a, a ≠ x → a ≠ y → a ≠ z → m' a = m₀ a) : m' = IMap x y z m₀ m' := by
  funext a
  unfold IMap
  by_cases c1 : a = x
  · rw [if_pos c1]
  · rw [if_neg c1]
    by_cases c2 : a = y
    · rw [if_pos c2]
    · rw [if_neg c2]
      by_cases c3 : a = z
      · rw [if_pos c3]
      · rw [if_neg c3]; exact h a c1 c2 c3
theorem ints_get {vs : List Value} {ns : List Int} (h : IntsAre vs ns) : ∀ {i : Nat} {v : Value}, vs[i]? = some v → ∃ n t, v = .int n t ∧ ns[i]? = some n := by
  induction h with
  | nil => intro i v hv; simp at hv
  | cons x t _ ih =>
    intro i v hv
    cases i with
    | zero => simp at hv; exact ⟨x, t, hv.symm, by simp⟩
    | succ i => obtain ⟨n, u, e, e2⟩ := ih (by simpa using hv); exact ⟨n, u, e, by simpa using e2⟩
section
variable {prog : Program} {w : World} {A : Around} {E : Value → Shared → Prop} {s : Shared} {env : Env} {h₀ : Heap} {body : List Stmt} {Q : Flow → Shared → Prop}
theorem sent_loop {L : Addr} (hL : env.locals = L) {l S c : Addr} {oc : Obj} {vs : List Value} {ns : List Int} {nn k : Nat} {x y z : Str} {m₀ : Str → Option Value} {tl : List (Addr × Obj)}
    (hh : A.handled = none) (hl : (l, listOf vs.toArray nn) ∈ tl) (hS : ∀ p ∈ (c, oc) :: tl, p.1 < S) (hvs : IntsAre vs ns) (F : Fr h₀ L s.heap m₀) (N : News h₀ L s.heap ((S, listOf ([] : List Value).toArray k) :: (c, oc) :: tl))
    (turn : ∀ (i : Nat) n t u h tk T ss k, ns[i]? = some n → SOff S ((c, oc) :: T) → ss.length = i → i < ns.length → Fr h₀ L h (fun a => if a = x then some (.int n t) else IMap x y z m₀ u a) → News h₀ L h ((S, listOf ss.toArray k) :: (c, oc) :: T) →
      wpAny (model prog w) A (execs body env) (SPost h₀ L x y z m₀ S c oc ss n T { s with heap := h, toks := tk } Q) E { s with heap := h, toks := tk })
    (done : ∀ u ss k h tk, StrsAre ss (ns.map carried) → Fr h₀ L h (IMap x y z m₀ u) → News h₀ L h ((S, listOf ss.toArray k) :: (c, oc) :: tl) → Q .next { s with heap := h, toks := tk }) :
    wpAny (model prog w) A (pyIter (.ref l)) (fun it s₂ => LoopAtV prog w A h₀ env x body Q E it s₂) E s := by
  subst hL
  refine kdl_iter (fun i m nx => ∃ ss k u, StrsAre ss ((ns.take i).map carried) ∧ i ≤ ns.length ∧ nx = (S, listOf ss.toArray k) :: (c, oc) :: tl ∧ m = IMap x y z m₀ u) hh (.tail _ (.tail _ hl)) F N ⟨[], k, m₀, .nil, Nat.zero_le _, rfl, imap_self fun _ _ _ _ => rfl⟩ ?_ ?_
  · rintro i v m₁ nx h tk own hv hoff _ ⟨ss, k, u, hss, hi, rfl, rfl⟩ F₁ N₁
    obtain ⟨n, t, rfl, hn⟩ := ints_get hvs hv
    have hil : i < ns.length := (List.getElem?_eq_some_iff.mp hn).1
    have hsl : ss.length = i := by
      have := hss.length
      rw [List.length_map, List.length_take] at this
      omega
    have hso : SOff S ((c, oc) :: (tl ++ own)) := by
      intro p hp
      rcases List.mem_cons.mp hp with rfl | hp
      · exact Nat.ne_of_lt (hS _ (.head _))
      · rcases List.mem_append.mp hp with hp | hp
        · exact Nat.ne_of_lt (hS _ (.tail _ hp))
        · exact hoff p hp S (.head _)
    refine wpAny_mono (turn i n t u h tk (tl ++ own) ss k hn hso hsl hil F₁ N₁) (fun f s₂ p => ?_) fun _ _ e => e
    have fin : SPost h₀ env.locals x y z m₀ S c oc ss n (tl ++ own) { s with heap := h, toks := tk } Q .next s₂ →
        InvEndG h₀ env.locals (fun m' n' => (l, listOf vs.toArray nn) ∈ n' ∧ ∃ ss k u, StrsAre ss ((ns.take (i + 1)).map carried) ∧ i + 1 ≤ ns.length ∧ n' = (S, listOf ss.toArray k) :: (c, oc) :: tl ∧ m' = IMap x y z m₀ u) own { s with heap := h, toks := tk } s₂ := by
      rintro ⟨h', tk', m', news', k', t', e, F', N', hs, hm'⟩
      refine ⟨h', tk', m', news', (S, listOf (ss ++ [Value.str (carried n) t']).toArray k') :: (c, oc) :: tl, e, F', N', fun p hp => hs p ((List.mem_append (s := (S, listOf (ss ++ [Value.str (carried n) t']).toArray k') :: (c, oc) :: tl) (t := own)).mpr (.inl hp)), fun p hp => hs p (.tail _ (.tail _ (List.mem_append.mpr (.inr hp)))), hoff, .tail _ (.tail _ hl), _, k', m', ?_, hil, rfl, imap_self hm'⟩
      have e1 : ns.take (i + 1) = ns.take i ++ [n] := by rw [List.take_add_one, hn]; rfl
      rw [e1, List.map_append]
      exact strs_snoc hss
    cases f with
    | ret v => exact p
    | brk => exact p
    | next => exact fin p
    | cont => exact fin p
  · rintro m₁ nx h tk ⟨ss, k, u, hss, hi, rfl, rfl⟩ F₁ N₁
    have : vs.length = ns.length := hvs.length
    rw [this, List.take_length] at hss
    exact done u ss k h tk hss F₁ N₁
end
end
section
abbrev kwObj : Obj := { cls := .type "dict", data := .dict #[] }
section
variable {prog : Program} {w : World} {A : Around} {E : Value → Shared → Prop} {s : Shared}
theorem merge_empty {d a : Addr} {od oa : Obj} {ep : Nat} {Q : Unit → Shared → Prop} (hd : s.heap.get? d = some od) (hdd : od.data = .dict #[] 0) (ha : s.heap.get? a = some oa) (hc : oa.cls = .type "dict") (hdat : oa.data = .dict #[] ep) (hne : (a == sysModules) = false) (h : Q () s) :
    wpAny (model prog w) A (mergeMapping d (.ref a) true) Q E s := by
  have hT : s.TypeIs (.ref a) "dict" := ⟨oa, ha, hc⟩
  unfold mergeMapping
  refine wpAny_bind (wpAny_isInstance hT isSubtype_dict_dict ?_)
  rw [if_pos rfl]
  refine wpAny_bind (wpAny_specialOf hT F.slot_dict_iter.lookup ?_)
  refine wpAny_bind (wpAny_pure ?_)
  dsimp only
  rw [show ((some (Value.builtin "dict.__iter__") == some (Value.builtin "dict.__iter__")) = true) by rfl]
  dsimp only
  rw [if_neg (by rw [hne]; decide)]
  refine wpAny_bind (wpAny_dictEntries hd hdd ?_)
  rw [if_pos (by rfl)]
  refine wpAny_bind (wpAny_dictEntries ha hdat ?_)
  refine wpAny_bind ?_
  rw [← Array.forIn_toList]
  show wpAny _ _ (forIn ([] : List DictEntry) _ _) _ _ _
  rw [List.forIn_nil]
  refine wpAny_pure ?_
  refine wpAny_bind (wpAny_dictEntries ha hdat ?_)
  refine wpAny_bind (wpAny_dictEpoch ha hdat ?_)
  refine wpAny_bind ?_
  show wpAny _ _ (forIn ([] : List Nat) _ _) _ _ _
  rw [List.forIn_nil]
  exact wpAny_pure (wpAny_pure h)
theorem merged_one {f : Value} {x : Sem Value} {Q : Addr → Shared → Prop}
    (h : wpAny (model prog w) A x (fun kv s₂ => ∃ D oD ep, kv = .ref D ∧ s₂.heap.get? D = some oD ∧ oD.cls = .type "dict" ∧ oD.data = .dict #[] ep ∧ (D == sysModules) = false ∧ s₂.heap.get? s.heap.objs.size = some kwObj ∧ Q s.heap.objs.size s₂) E { s with heap := s.heap.push kwObj }) :
    wpAny (model prog w) A (mergedKeywords f [(none, x)]) Q E s := by
  unfold mergedKeywords
  refine wpAny_bind (wpAny_alloc ?_)
  refine wpAny_bind (wpAny_holding ?_)
  dsimp only
  refine wpAny_bind ?_
  rw [List.forIn_cons]
  refine wpAny_bind ?_
  dsimp only
  refine wpAny_bind ?_
  rw [if_pos (show ([] : List (Str × Sem Value)).isEmpty = true from rfl)]
  refine wpAny_pure ?_
  refine wpAny_bind (wpAny_mono h (fun kv s₂ h₂ => ?_) (fun _ _ e => e))
  obtain ⟨D, oD, ep, rfl, hD, hc, hd, hne, hd0, hQ⟩ := h₂
  refine wpAny_bind (wpAny_onRaise ?_)
  refine wpAny_holding (wpAny_tryCatch (wpAny_onRaise (merge_empty hd0 rfl hD hc hd hne ?_)))
  refine wpAny_pure ?_
  dsimp only
  rw [List.forIn_nil]
  refine wpAny_pure ?_
  rw [if_pos (show ([] : List (Str × Sem Value)).isEmpty = true from rfl)]
  exact wpAny_pure (wpAny_pure hQ)
theorem kwIn_empty {f : Value} {d : Addr} {od : Obj} {Q : List (Str × Value) → Shared → Prop} (hd : s.heap.get? d = some od) (hdd : od.data = .dict #[] 0) (h : Q [] s) : wpAny (model prog w) A (keywordsIn f d) Q E s := by
  unfold keywordsIn
  refine wpAny_bind (wpAny_dictEntries hd hdd ?_)
  refine wpAny_bind ?_
  rw [← Array.forIn_toList]
  show wpAny _ _ (forIn ([] : List DictEntry) _ _) _ _ _
  rw [List.forIn_nil]
  exact wpAny_pure (wpAny_pure h)
theorem evalArgs_kwd {f : Value} {x y : Sem Value} {pos : Pos} {v : Value} {Q : Args → Shared → Prop} (hx : ∀ {E' : Value → Shared → Prop} {Q' : Value → Shared → Prop}, Q' v s → wpAny (model prog w) A x Q' E' s)
    (h : wpAny (model prog w) A y (fun kv s₂ => ∃ D oD ep, kv = .ref D ∧ s₂.heap.get? D = some oD ∧ oD.cls = .type "dict" ∧ oD.data = .dict #[] ep ∧ (D == sysModules) = false ∧ s₂.heap.get? s.heap.objs.size = some kwObj ∧ Q ⟨[v], []⟩ s₂) E { s with heap := s.heap.push kwObj }) :
    wpAny (model prog w) A (evalArgs f true [(false, x)] [(none, do let v ← y; standAt pos; pure v)]) Q E s := by
  unfold evalArgs
  dsimp only
  refine wpAny_bind ?_
  rw [spliced]
  refine wpAny_bind (hx ?_)
  rw [if_neg (by decide)]
  refine wpAny_bind (wpAny_pure ?_)
  refine wpAny_bind (wpAny_holding ?_)
  rw [spliced]
  refine wpAny_pure (wpAny_pure ?_)
  refine wpAny_bind (wpAny_pure ?_)
  refine wpAny_holding ?_
  dsimp only
  rw [if_neg (by simp)]
  refine wpAny_bind (merged_one (wpAny_bind (wpAny_mono h (fun kv s₂ h₂ => wpAny_bind (wpAny_standAt (wpAny_pure ?_))) fun _ _ e => e)))
  obtain ⟨D, oD, ep, rfl, hD, hc, hd, hne, hd0, hQ⟩ := h₂
  refine ⟨D, oD, ep, rfl, hD, hc, hd, hne, hd0, ?_⟩
  refine wpAny_bind (wpAny_pure ?_)
  refine wpAny_bind (wpAny_holding (kwIn_empty hd0 rfl ?_))
  exact wpAny_pure hQ
theorem kw_call {q D : Addr} {oD : Obj} {v : Value} {env : Env} {pos kp : Pos} {e x : Expr} {h₀ : Heap} {L : Addr} {m : Str → Option Value} {news : List (Addr × Obj)} {K : Type} [DecidableEq K] {knd : KeyKind prog w K} {oc : Value} {od : Option Addr} {fd : FuncData} {sl : Array (Option Value)} {Q : Value → Shared → Prop}
    (F : Fr h₀ L s.heap m) (N : News h₀ L s.heap news) (hD : (D, oD) ∈ news) (hd : oD.IsDictOf knd []) (hs : (D == sysModules) = false) (hq : (q, (⟨oc, od, .func fd, sl⟩ : Obj)) ∈ news)
    (he : ∀ {E' Q' : Value → Shared → Prop}, Q' v s → wpAny (model prog w) A (eval e env) Q' E' s)
    (hx : ∀ (h : Heap) {E' Q' : Value → Shared → Prop}, Fr h₀ L h m → Q' (.ref D) { s with heap := h } → wpAny (model prog w) A (eval x env) Q' E' { s with heap := h })
    (k : ∀ d h' o, Fr h₀ L h' m → News h₀ L h' ((d, o) :: news) → (∀ p ∈ news, p.1 < d) → wpAny (model prog w) A (call (.ref q) [v]) Q E { s with heap := h' })
    (hst : starEach [e] env = [(false, eval e env)] := by rfl) :
    wpAny (model prog w) A (callWith pos (.ref q) [] (backTo pos (starEach [e] env)) (backToKw pos (keywordEach [⟨none, x, kp⟩] env))) Q E s := by
  rw [hst]
  obtain ⟨es, ep, hc, hdat, hk, hp, hn⟩ := hd
  have hes : es = #[] := by
    have := hp.length
    simp only [List.length_nil, Array.length_toList] at this
    exact Array.eq_empty_of_size_eq_zero this
  subst hes
  show wpAny _ _ (callWith pos (.ref q) [] [(false, eval e env)] [(none, do let v ← eval x env; standAt pos; pure v)]) _ _ _
  unfold callWith
  have F₁ : Fr h₀ L (s.heap.push kwObj) m := F.push _
  have N₁ : News h₀ L (s.heap.push kwObj) ((s.heap.objs.size, kwObj) :: news) := News.push F N _ rfl
  refine wpAny_bind (wpAny_holding (evalArgs_kwd (v := v) he (hx _ F₁ ⟨D, oD, ep, rfl, (N₁ _ (.tail _ hD)).1, hc.1, hdat, hs, (N₁ _ (.head _)).1, ?_⟩)))
  refine wpAny_bind (wpAny_standAt ?_)
  obtain ⟨kk, hk', Lk⟩ := keeps_F (M := model prog w) (s.heap.push kwObj) (FnAt.of N₁ (.tail _ hq))
  refine wpAny_bind (Lk.here ?_)
  have hcall := k _ _ _ F₁ N₁ (fun p hp => Heap.lt_size (N p hp).1)
  have tail : ∀ {t : Sem Value} {s₁ : Shared}, wpAny (model prog w) A t Q E s₁ → wpAny (model prog w) A (t >>= fun r => holding [r] point >>= fun _ => pure r) Q E s₁ :=
    fun ht => wpAny_bind (wpAny_mono ht (fun r s₂ hr => wpAny_bind (wpAny_holding (wpAny_point (wpAny_pure hr)))) fun _ _ x => x)
  have hany : (([(false, eval e env)] : List (Bool × Sem Value)).any (fun x => x.1) || ([((none : Option Str), (do let v ← eval x env; standAt pos; pure v))] : List (Option Str × Sem Value)).any (fun x => x.1.isNone)) = true := rfl
  simp only [hany]
  rcases hk' with rfl | rfl | rfl
  · exact tail (by unfold callMarked; exact Calls.wpAny_keep hcall)
  · exact tail (wpAny_operating hcall)
  · exact tail (wpAny_operating hcall)
end
end
section
section
variable {prog : Program} {w : World} {A : Around} {E : Value → Shared → Prop} {s : Shared} {h₀ : Heap} {L : Addr} {m : Str → Option Value} {env : Env}
/-- a comprehension over a made tuple -/
theorem comp_tup {elt iter : Expr} {x : Str} {px : Pos} {scope : Scope} {cl : List (Str × Addr)} {pos : Pos} {Q : Value → Shared → Prop} (F₀ : Fr h₀ L s.heap m)
    (hclos : closureFor scope env = pure cl) (hcell : ∀ y ∈ scope.names, y.2 ≠ .cell) (hkind : scope.kind = .function)
    (hnames : ∀ y ∈ scope.names, y.2 = .local → scope.names.lookup y.1 = some .local) (hx : scope.names.lookup x = some .local)
    (h : wpAny (model prog w) A (eval iter env) (fun xv s₁ => ∃ ax vs n news, xv = .ref ax ∧ A.handled = none ∧ Fr h₀ L s₁.heap m ∧ News h₀ L s₁.heap news ∧ (ax, tupOf vs n) ∈ news ∧ vs.size ≤ sizeLine ∧
      ∀ g, LCg.CompRest prog w A h₀ L m env elt x scope cl { s₁ with heap := g } (fun nw => (ax, tupOf vs n) ∈ nw) (fun i v => vs[i]? = some v) (LCg.FinE h₀ L m { s₁ with heap := g } Q) vs.size 0 [] news) E s)
    (hs : ∀ x, foldedSetIterable iter env x = pure x := by intro _; rfl) :
    wpAny (model prog w) A (eval (.ListComp elt [⟨.Name x px, iter, [], 0⟩] scope pos) env) Q E s := by
  rw [eval_ListComp]
  refine wpAny_comprehension_free (use := none) rfl hs hclos hkind hnames (wpAny_mono h (fun xv s₁ h₁ => ?_) fun _ _ e => e)
  obtain ⟨ax, its, n, news, rfl, hh, F, N, hm, hsz, R⟩ := h₁
  have hl : s₁.heap.IsTuple ax its := ⟨_, (N _ hm).1, rfl, n, rfl⟩
  have hlt : ax < s₁.heap.objs.size := Heap.lt_size (N _ hm).1
  refine wpAny_pyIter_tuple hl ?_
  have up : ∀ b o, s₁.heap.get? b = some o → (s₁.heap.push { cls := .type "tuple_iterator", data := .fields #[.ref ax, .int 0 0] }).get? b = some o := fun b o e => Heap.get?_push_of_some _ e
  refine LCg.block_U (Walks.tuple hh s₁.heap.objs.size ax (Nat.ne_of_lt hlt) its) hsz (fun i h st => by obtain ⟨o, e, _⟩ := st.1; exact ⟨o, e⟩) (fun i h h' o nw st e e' k N' S => ⟨by obtain ⟨o', q, r⟩ := st.1; rw [e] at q; cases q; exact ⟨o, e', r⟩, ⟨_, (N' _ S).1, rfl, n, rfl⟩⟩) hcell hkind hx ⟨⟨_, Heap.get?_push_size _ rfl, rfl, rfl⟩, ⟨_, up _ _ (N _ hm).1, rfl, n, rfl⟩⟩ (fun b hb => ?_)
    (F.keeps up) (N.grown up) (Nat.ne_of_lt F.ns.lt) (next_is_new F) (fun p hp => Nat.ne_of_lt (Heap.lt_size (N p hp).1)) hm (R _) ?_
  · show b < (s₁.heap.push _).objs.size
    rw [Heap.size_push]
    rcases List.mem_cons.mp hb with rfl | hb
    · exact Nat.lt_succ_self _
    · rw [List.mem_singleton.mp hb]; exact Nat.lt_succ_of_lt hlt
  · intro D C h tk m' ys news' F' N' o1 hn hC₀ hD₀ hCL hDL hCD offC fin
    refine ⟨m', hn, fun h'' hs'' => fin D h'' tk (F'.change hs'' hCL hC₀) (fun p hp => ?_) o1⟩
    refine ⟨hs''.extBut _ _ ?_ (N' p hp).1, (N' p hp).2⟩
    rcases List.mem_cons.mp hp with rfl | hp
    · exact Ne.symm hCD
    · exact offC p hp
end

theorem off1_l {a D : Addr} {o : Obj} : ∀ {l : List (Addr × Obj)}, LCg.Off1 D l → (a, o) ∈ l → @Ne Nat a D
  | [], _, h => nomatch h
  | _ :: _, x, h => by
    rcases List.mem_cons.mp h with e | h
    · have := x.1; rw [← e] at this; exact this
    · exact off1_l x.2 h
theorem off1_r {a D : Addr} {o : Obj} {l : List (Addr × Obj)} (x : LCg.Off1 D l) (h : (a, o) ∈ l) : @Ne Nat D a := (off1_l x h).symm
end
section
theorem codes_hi {n : Int} (h : 63 < n) (h2 : n ≤ 640) : codes n = [(64 + n / 64).toNat, (n % 64).toNat] := by
  unfold codes
  rw [if_pos h, Int.fdiv_eq_ediv_of_nonneg n (by decide), Int.fmod_eq_emod_of_nonneg n (by decide)]
theorem codes_ascii {n : Int} (h1 : 1 ≤ n) (h2 : n ≤ 640) : ∀ c ∈ codes n, c < 128 := by
  intro c hc
  by_cases h : 63 < n
  · rw [codes_hi h h2] at hc
    simp only [List.mem_cons, List.not_mem_nil, or_false] at hc
    rcases hc with rfl | rfl <;> lia
  · unfold codes at hc
    rw [if_neg h] at hc
    simp only [List.mem_cons, List.not_mem_nil, or_false] at hc
    lia
theorem codes_few (n : Int) : (codes n).length ≤ 2 := by unfold codes; split <;> simp
theorem con_varint {w : World} {n : Int} (h1 : 1 ≤ n) (h2 : n ≤ 640) :
  Con2 w 58 20
   (fun news keep vs => ∃ it io l k ys, vs = [.ref it] ∧ news = (it, io) :: (l, listOf ys.toArray k) :: keep ∧ IntsAre ys ((codes n).map fun (c : Nat) => (c : Int)) ∧ LIter io l 0 ∧ NLt ((l, listOf ys.toArray k) :: keep) it)
   (fun _ => True) (fun _ => []) (fun t : Tok => .int n t) := by
  intro p loose mean mg mb dp un gd cn cs ca ccd cl outer A₀ base h₀ L m news keep s vs Q E B F X N T hk hR hd hu hret
  obtain ⟨it, io, l, k, ys, rfl, rfl, hys, hio, hlt⟩ := hR
  by_cases h : 63 < n
  · rw [codes_hi h h2] at hys
    simp only [List.map_cons, List.map_nil] at hys
    rw [show (((64 + n / 64).toNat : Nat) : Int) = 64 + n / 64 by lia, show (((n % 64).toNat : Nat) : Int) = n % 64 by lia] at hys
    cases hys with
    | cons _ t1 r1 =>
      cases r1 with
      | cons _ t2 r2 =>
        cases r2
        refine con_varint2 (a := 64 + n / 64) (b := n % 64) (by lia) (by lia) p loose mean mg mb dp un gd cn cs ca ccd cl outer A₀ base h₀ L m _ keep s _ Q E B F X N T hk ⟨it, io, l, k, t1, t2, rfl, rfl, hio, hlt⟩ hd hu ?_
        intro d h' tk' hP F' N' o'
        have := hret d h' tk' hP F' N' o'
        dsimp only at this ⊢
        rw [show (64 + n / 64 - 64) * 64 + n % 64 = n by lia]
        exact this
  · unfold codes at hys
    rw [if_neg h] at hys
    simp only [List.map_cons, List.map_nil] at hys
    rw [show ((n.toNat : Nat) : Int) = n by lia] at hys
    cases hys with
    | cons _ t1 r1 =>
      cases r1
      exact con_varint1 (a := n) (by lia) p loose mean mg mb dp un gd cn cs ca ccd cl outer A₀ base h₀ L m _ keep s _ Q E B F X N T hk ⟨it, io, l, k, t1, rfl, rfl, hio, hlt⟩ hd hu hret
end
section
def hardZ (way a : Int) : Int := if way < 9 then 8 * a + way else a * (a + 1)
def worthZ (way v : Int) : Int := if way < 9 then v else v * v
/-- the seats that a record tells -/
def sA (l : List Nat) : Int := 1 + (l.count 114 : Int)
def sB (l : List Nat) : Int := 1 + (l.count 34 : Int)
def sC (l : List Nat) : Int := 1 + (l.count 98 : Int)
/-- the claims of the three -/
def clR (u way : Int) (l : List Nat) : Int := worthZ way u * hardZ way (sC l) * hardZ way (sB l)
def clG (v way : Int) (l : List Nat) : Int := worthZ way v * hardZ way (sA l) * hardZ way (sC l)
def clB (x way : Int) (l : List Nat) : Int := worthZ way x * hardZ way (sB l) * hardZ way (sA l)
/-- a deal, turn by turn -/
inductive Rec (u v x way : Int) : List Nat → Prop
  | nil : Rec u v x way []
  | red {l : List Nat} : Rec u v x way l → clG v way l ≤ clR u way l → clB x way l ≤ clR u way l → Rec u v x way (l ++ [114])
  | green {l : List Nat} : Rec u v x way l → clR u way l ≤ clG v way l → clB x way l ≤ clG v way l → Rec u v x way (l ++ [34])
  | blue {l : List Nat} : Rec u v x way l → clR u way l ≤ clB x way l → clG v way l ≤ clB x way l → Rec u v x way (l ++ [98])
def seatD (l : List Nat) : Dat := .tuple [.int (sA l), .int (sB l), .int (sC l)]
def stepsD (l : List Nat) : List Dat := (List.range l.length).map fun i => seatD (l.take (i + 1))
def DInv (u v x way : Int) (k : Nat) (seats : Dat) (record : Str) (steps : List Dat) : Prop :=
  ∃ l : List Nat, l.length = k ∧ Rec u v x way l ∧ record = ⟨l.toArray⟩ ∧ seats = seatD l ∧ steps = stepsD l
end
section
/-- the state of a deal between its turns -/
structure DC where
  l : List Nat
  sa : Addr
  rt : Tok
  vs : List Value
  n : Nat
  w1 : Option Value
  w2 : Option Value
  oh : Obj
  ow : Obj
def DMap (sl : Addr) (m₀ : Str → Option Value) (c : DC) : Str → Option Value := fun y =>
  if y = Str.ofString "party" then c.w1 else if y = Str.ofString "seats" then some (.ref c.sa) else if y = Str.ofString "record" then some (.str ⟨c.l.toArray⟩ c.rt) else if y = Str.ofString "steps" then some (.ref sl) else if y = Str.ofString "turn" then c.w2 else m₀ y
abbrev DLed (sl hc wc yc : Addr) (oy : Obj) (c : DC) (T : List (Addr × Obj)) : List (Addr × Obj) := (sl, listOf c.vs.toArray c.n) :: (hc, c.oh) :: (wc, c.ow) :: (yc, oy) :: T
structure DSep (sl hc wc yc : Addr) (T : List (Addr × Obj)) : Prop where
  s : ∀ p ∈ T, p.1 ≠ sl
  h : ∀ p ∈ T, p.1 ≠ hc
  w : ∀ p ∈ T, p.1 ≠ wc
  y : ∀ p ∈ T, p.1 ≠ yc
structure DFact (vl : Addr) (vo : Obj) (T : List (Addr × Obj)) (c : DC) : Prop where
  seat : ∃ ta tb tc k, (c.sa, tupOf #[.int (sA c.l) ta, .int (sB c.l) tb, .int (sC c.l) tc] k) ∈ T
  steps : DatAll T c.vs (stepsD c.l)
  votes : (vl, vo) ∈ T
theorem DFact.mono {vl : Addr} {vo : Obj} {T T' : List (Addr × Obj)} {c : DC} (h : DFact vl vo T c) (hs : ∀ p ∈ T, p ∈ T') : DFact vl vo T' c :=
  ⟨let ⟨a, b, d, k, hm⟩ := h.seat; ⟨a, b, d, k, hs _ hm⟩, h.steps.mono hs, hs _ h.votes⟩
/-- what the deal made, ahead of what stood -/
def DTail (news T : List (Addr × Obj)) (c : DC) : Prop := ∃ tups, T = tups ++ news ∧ (∀ q ∈ news, ∀ p ∈ tups, q.1 < p.1) ∧ DatAll tups c.vs (stepsD c.l)
structure DOk (u v x way : Int) (i : Nat) (c : DC) : Prop where
  len : c.l.length = i
  rc : Rec u v x way c.l
  hc : ∃ v, c.oh.data = .cell v
  wc : ∃ v, c.ow.data = .cell v
section
variable {prog : Program} {w : World} {A : Around} {E : Value → Shared → Prop} {s : Shared} {env : Env} {h₀ : Heap} {body : List Stmt} {Q : Flow → Shared → Prop}
def DEnd (u v x way : Int) (h₀ : Heap) (L : Addr) (sl hc wc yc : Addr) (oy : Obj) (vl : Addr) (vo : Obj) (m₀ : Str → Option Value) (i : Nat) (T T9 : List (Addr × Obj)) (c : DC) (s s₂ : Shared) : Prop :=
  ∃ h' tk c' news' q, s₂ = { s with heap := h', toks := tk } ∧ Fr h₀ L h' (DMap sl m₀ c') ∧ News h₀ L h' news' ∧ (∀ p ∈ DLed sl hc wc yc oy c' (q :: T9), p ∈ news') ∧ (∀ p ∈ T9, p.1 < q.1) ∧ (q.1 ≠ sl ∧ q.1 ≠ hc ∧ q.1 ≠ wc ∧ q.1 ≠ yc) ∧
    DOk u v x way (i + 1) c' ∧ DFact vl vo (q :: T) c' ∧ ∀ tups, DatAll tups c.vs (stepsD c.l) → DatAll (q :: tups) c'.vs (stepsD c'.l)
def DPost (u v x way : Int) (h₀ : Heap) (L : Addr) (sl hc wc yc : Addr) (oy : Obj) (vl : Addr) (vo : Obj) (m₀ : Str → Option Value) (i : Nat) (T T9 : List (Addr × Obj)) (c : DC) (s : Shared) (Q : Flow → Shared → Prop) (f : Flow) (s₂ : Shared) : Prop :=
  match f with
  | .ret v => Q (.ret v) s₂
  | .brk => Q .next s₂
  | _ => DEnd u v x way h₀ L sl hc wc yc oy vl vo m₀ i T T9 c s s₂
theorem deal_loop {news0 : List (Addr × Obj)} {u v x way : Int} {r : Addr} {b₀ : Int} {t₀ u₀ v₀ : Tok} {n : Nat} {m₀ : Str → Option Value} {news : List (Addr × Obj)} (sl hc wc yc : Addr) (oy : Obj) (vl : Addr) (vo : Obj) (c₀ : DC) (T₀ : List (Addr × Obj))
    (hh : A.handled = none) (hr : IsRange s.heap r 0 b₀ 1 t₀ u₀ v₀) (hsmall : Builtin.Range.small 0 b₀ 1 = true) (hsz : Builtin.Range.rangeSize 0 b₀ 1 = (n : Int))
    (F : Fr h₀ env.locals s.heap m₀) (N : News h₀ env.locals s.heap news) (hm : m₀ = DMap sl m₀ c₀) (hn : ∀ p ∈ DLed sl hc wc yc oy c₀ T₀, p ∈ news) (hok : DOk u v x way 0 c₀) (hf : DFact vl vo T₀ c₀) (hsep : DSep sl hc wc yc T₀) (htl : DTail news0 T₀ c₀)
    (turn : ∀ (c : DC) T T9 (i : Nat) t h tk, i < n → DOk u v x way i c → DFact vl vo T c → DFact vl vo T9 c → DSep sl hc wc yc T9 →
      Fr h₀ env.locals h (fun y => if y = Str.ofString "turn" then some (.int (0 + (i : Int) * 1) t) else DMap sl m₀ c y) → News h₀ env.locals h (DLed sl hc wc yc oy c T9) →
      wpAny (model prog w) A (execs body env) (DPost u v x way h₀ env.locals sl hc wc yc oy vl vo m₀ i T T9 c { s with heap := h, toks := tk } Q) E { s with heap := h, toks := tk })
    (done : ∀ (c : DC) T h tk, DOk u v x way n c → DFact vl vo T c → DSep sl hc wc yc T → DTail news0 T c → Fr h₀ env.locals h (DMap sl m₀ c) → News h₀ env.locals h (DLed sl hc wc yc oy c T) → Q .next { s with heap := h, toks := tk }) :
    wpAny (model prog w) A (pyIter (.ref r)) (fun it s₂ => LoopAtV prog w A h₀ env (Str.ofString "turn") body Q E it s₂) E s := by
  refine wpAny_pyIter_range hr hsmall ?_
  have W : Walks prog w A s.heap.objs.size [s.heap.objs.size] [s.heap.objs.size] n (fun i v => i < n ∧ ∃ t, v = .int (0 + i * 1) t)
      (fun i h => IsRangeIter h s.heap.objs.size (0 + (i : Nat) * 1) ((n : Int) - (i : Nat)) 1) := (Walks.range hh _ 0 1 n).bound
  have F0 : Fr h₀ env.locals s.heap (DMap sl m₀ c₀) := hm ▸ F
  refine kdr_loop (fun i m nx => ∃ c T, nx = DLed sl hc wc yc oy c T ∧ m = DMap sl m₀ c ∧ DOk u v x way i c ∧ DFact vl vo T c ∧ DSep sl hc wc yc T ∧ DTail news0 T c) W (fun _ h => h) (fun _ h => h) ?_ ?_ ?_ ?_ (by show IsRangeIter _ _ _ _ _; rw [hsz]; simpa using Heap.get?_push_size _ rfl) (F0.push _) (fun p hp => ⟨Heap.get?_push_of_some _ (N p (hn p hp)).1, (N p (hn p hp)).2⟩) ⟨c₀, T₀, rfl, rfl, hok, hf, hsep, htl⟩ ?_ ?_
  · intro i h hi b hb
    rw [List.mem_singleton.mp hb]
    exact ⟨_, hi⟩
  · intro hm
    exact absurd F.ns.lt ((List.mem_singleton.mp hm) ▸ Nat.lt_irrefl _)
  · intro b hb
    rw [List.mem_singleton.mp hb]
    exact next_is_new F
  · intro p hp hI
    exact absurd (Heap.lt_size (N p (hn p hp)).1) ((List.mem_singleton.mp hI) ▸ Nat.lt_irrefl _)
  · rintro i v' m₁ nx h tk own hi ⟨_, t, rfl⟩ hoff ⟨c, T, rfl, rfl, ok, fa, sep, tups, htu, hord, htd⟩ F₁ N₁
    have hown : ∀ p ∈ own, p.1 ≠ sl ∧ p.1 ≠ hc ∧ p.1 ≠ wc ∧ p.1 ≠ yc := fun p hp => ⟨hoff p hp sl (by simp), hoff p hp hc (by simp), hoff p hp wc (by simp), hoff p hp yc (by simp)⟩
    have sep9 : DSep sl hc wc yc (T ++ own) := ⟨fun p hp => (List.mem_append.mp hp).elim (sep.s p) fun h => (hown p h).1, fun p hp => (List.mem_append.mp hp).elim (sep.h p) fun h => (hown p h).2.1,
      fun p hp => (List.mem_append.mp hp).elim (sep.w p) fun h => (hown p h).2.2.1, fun p hp => (List.mem_append.mp hp).elim (sep.y p) fun h => (hown p h).2.2.2⟩
    refine wpAny_mono (turn c T (T ++ own) i t h tk hi ok fa (fa.mono fun p hp => List.mem_append.mpr (.inl hp)) sep9 F₁ N₁) (fun f s₂ p => ?_) fun _ _ e => e
    have fin : DEnd u v x way h₀ env.locals sl hc wc yc oy vl vo m₀ i T (T ++ own) c { s with heap := h, toks := tk } s₂ →
        InvEndG h₀ env.locals (fun m nx => ∃ c T, nx = DLed sl hc wc yc oy c T ∧ m = DMap sl m₀ c ∧ DOk u v x way (i + 1) c ∧ DFact vl vo T c ∧ DSep sl hc wc yc T ∧ DTail news0 T c) own { s with heap := h, toks := tk } s₂ := by
      rintro ⟨h', tk', c', news', q, e, F', N', hn', hq, ⟨q1, q2, q3, q4⟩, ok', fa', hsn⟩
      refine ⟨h', tk', _, news', DLed sl hc wc yc oy c' (q :: T), e, F', N', fun p hp => hn' p ?_, fun p hp => hn' p ?_, ?_, c', q :: T, rfl, rfl, ok', fa', ?_, q :: tups, by rw [htu]; rfl, fun a ha b hb => ?_, hsn tups htd⟩
      · simp only [DLed, List.mem_cons, List.mem_append] at hp ⊢
        rcases hp with hp | hp | hp | hp | hp | hp <;> simp [hp]
      · simp only [DLed, List.mem_cons, List.mem_append]
        simp [hp]
      · intro z hz b hb
        simp only [DLed, List.map_cons, List.mem_cons] at hb
        rcases hb with rfl | rfl | rfl | rfl | rfl | hb
        · exact (hown z hz).1
        · exact (hown z hz).2.1
        · exact (hown z hz).2.2.1
        · exact (hown z hz).2.2.2
        · exact Nat.ne_of_lt (hq z (List.mem_append.mpr (.inr hz)))
        · exact hoff z hz b (by simp only [DLed, List.map_cons, List.mem_cons]; simp [hb])
      · exact ⟨fun p hp => (List.mem_cons.mp hp).elim (fun e => e ▸ q1) (sep.s p), fun p hp => (List.mem_cons.mp hp).elim (fun e => e ▸ q2) (sep.h p), fun p hp => (List.mem_cons.mp hp).elim (fun e => e ▸ q3) (sep.w p), fun p hp => (List.mem_cons.mp hp).elim (fun e => e ▸ q4) (sep.y p)⟩
      · rcases List.mem_cons.mp hb with rfl | hb
        · exact hq a (List.mem_append.mpr (.inl (by rw [htu]; exact List.mem_append.mpr (.inr ha))))
        · exact hord a ha b hb
    cases f with
    | ret v => exact p
    | brk => exact p
    | next => exact fin p
    | cont => exact fin p
  · rintro m₁ nx h tk ⟨c, T, rfl, rfl, ok, fa, sep, htt⟩ F₁ N₁
    exact done c T h tk ok fa sep htt F₁ N₁
theorem deal_start {u v x way : Int} {r : Addr} {b₀ : Int} {t₀ u₀ v₀ : Tok} {n : Nat} {m₀ : Str → Option Value} {sl hc wc yc sa bb vl : Addr} {oy oh ow vo : Obj} {rt ta tb tc : Tok} {k : Nat} {news : List (Addr × Obj)}
    (hh : A.handled = none) (hr : IsRange s.heap r 0 b₀ 1 t₀ u₀ v₀) (hsmall : Builtin.Range.small 0 b₀ 1 = true ∧ Builtin.Range.rangeSize 0 b₀ 1 = (n : Int))
    (F : Fr h₀ env.locals s.heap m₀) (N : News h₀ env.locals s.heap ((sl, listOf #[] 0) :: (sa, tupOf #[.int 1 ta, .int 1 tb, .int 1 tc] k) :: (wc, ow) :: (hc, oh) :: (yc, oy) :: news))
    (hv : (vl, vo) ∈ news) (hb : NLt news bb) (hlt : (@LE.le Nat _ bb sa ∧ @LE.le Nat _ bb sl ∧ @LE.le Nat _ bb hc ∧ @LE.le Nat _ bb wc ∧ @LE.le Nat _ bb yc) ∧ (@Ne Nat sa sl ∧ @Ne Nat sa hc ∧ @Ne Nat sa wc ∧ @Ne Nat sa yc)) (hoh : ∃ v, oh.data = .cell v) (how : ∃ v, ow.data = .cell v)
    (m1 : m₀ (Str.ofString "seats") = some (.ref sa)) (m2 : m₀ (Str.ofString "record") = some (.str (Str.ofString "") rt)) (m3 : m₀ (Str.ofString "steps") = some (.ref sl))
    (turn : ∀ (c : DC) T T9 (i : Nat) t h tk, i < n → DOk u v x way i c → DFact vl vo T c → DFact vl vo T9 c → DSep sl hc wc yc T9 →
      Fr h₀ env.locals h (fun y => if y = Str.ofString "turn" then some (.int (0 + (i : Int) * 1) t) else DMap sl m₀ c y) → News h₀ env.locals h (DLed sl hc wc yc oy c T9) →
      wpAny (model prog w) A (execs body env) (DPost u v x way h₀ env.locals sl hc wc yc oy vl vo m₀ i T T9 c { s with heap := h, toks := tk } Q) E { s with heap := h, toks := tk })
    (done : ∀ (c : DC) T h tk, DOk u v x way n c → DFact vl vo T c → DSep sl hc wc yc T → DTail news T c → Fr h₀ env.locals h (DMap sl m₀ c) → News h₀ env.locals h (DLed sl hc wc yc oy c T) → Q .next { s with heap := h, toks := tk }) :
    wpAny (model prog w) A (pyIter (.ref r)) (fun it s₂ => LoopAtV prog w A h₀ env (Str.ofString "turn") body Q E it s₂) E s := by
  obtain ⟨⟨l0, l1, l2, l3, l4⟩, n1, n2, n3, n4⟩ := hlt
  have e0 : Str.ofString "" = ⟨([] : List Nat).toArray⟩ := by decide
  refine deal_loop sl hc wc yc oy vl vo ⟨[], sa, rt, [], 0, m₀ (Str.ofString "party"), m₀ (Str.ofString "turn"), oh, ow⟩ ((sa, tupOf #[.int 1 ta, .int 1 tb, .int 1 tc] k) :: news) hh hr hsmall.1 hsmall.2 F N ?_ ?_ ⟨rfl, .nil, hoh, how⟩ ⟨⟨ta, tb, tc, k, .head _⟩, .nil, .tail _ hv⟩ ?_ ⟨[_], rfl, fun q hq p hp => by rw [List.mem_singleton.mp hp]; exact Nat.lt_of_lt_of_le (hb q hq) l0, .nil⟩ turn done
  · funext y
    unfold DMap
    by_cases h1 : y = Str.ofString "party"
    · rw [if_pos h1, h1]
    · rw [if_neg h1]
      by_cases h2 : y = Str.ofString "seats"
      · rw [if_pos h2, h2, m1]
      · rw [if_neg h2]
        by_cases h3 : y = Str.ofString "record"
        · rw [if_pos h3, h3, m2, e0]
        · rw [if_neg h3]
          by_cases h4 : y = Str.ofString "steps"
          · rw [if_pos h4, h4, m3]
          · rw [if_neg h4]
            by_cases h5 : y = Str.ofString "turn"
            · rw [if_pos h5, h5]
            · rw [if_neg h5]
  · intro p hp
    simp only [DLed, List.mem_cons] at hp ⊢
    rcases hp with hp | hp | hp | hp | hp | hp <;> simp [hp]
  · refine ⟨fun p hp => ?_, fun p hp => ?_, fun p hp => ?_, fun p hp => ?_⟩ <;> rcases List.mem_cons.mp hp with rfl | hp
    · exact n1
    · exact Nat.ne_of_lt (Nat.lt_of_lt_of_le (hb p hp) l1)
    · exact n2
    · exact Nat.ne_of_lt (Nat.lt_of_lt_of_le (hb p hp) l2)
    · exact n3
    · exact Nat.ne_of_lt (Nat.lt_of_lt_of_le (hb p hp) l3)
    · exact n4
    · exact Nat.ne_of_lt (Nat.lt_of_lt_of_le (hb p hp) l4)
theorem stepsD_snoc (l : List Nat) (c : Nat) : stepsD (l ++ [c]) = stepsD l ++ [seatD (l ++ [c])] := by
  unfold stepsD
  rw [List.length_append, List.length_singleton, List.range_succ, List.map_append, List.map_singleton]
  congr 1
  · refine List.map_congr_left fun i hi => ?_
    have hi' : i < l.length := List.mem_range.mp hi
    rw [List.take_append_of_le_length (by omega)]
  · rw [List.take_of_length_le (by rw [List.length_append, List.length_singleton]; exact Nat.le_refl _)]
theorem d_end {u v x way : Int} {L sl hc wc yc sa sa' vl : Addr} {oy oh ow oh' ow' vo : Obj} {m₀ m' : Str → Option Value} {i : Nat} {T T9 news' : List (Addr × Obj)} {l : List Nat} {cc : Nat} {rt rt' ta tb tc : Tok} {vs : List Value} {n k : Nat} {w1 w2 vh vw : Option Value} {h' : Heap} {tk : Nat}
    (F : Fr h₀ L h' m') (N : News h₀ L h' news') (h1 : m' (Str.ofString "seats") = some (.ref sa')) (h2 : m' (Str.ofString "record") = some (.str ⟨(l ++ [cc]).toArray⟩ rt')) (h3 : m' (Str.ofString "steps") = some (.ref sl))
    (h4 : ∀ y, y ≠ Str.ofString "party" → y ≠ Str.ofString "seats" → y ≠ Str.ofString "record" → y ≠ Str.ofString "steps" → y ≠ Str.ofString "turn" → m' y = m₀ y)
    (e1 : (sl, listOf (vs.toArray.push (.ref sa')) (n + 1)) ∈ news') (e2 : (hc, oh') ∈ news') (e3 : (wc, ow') ∈ news') (e4 : (yc, oy) ∈ news') (e5 : (sa', tupOf #[.int (sA (l ++ [cc])) ta, .int (sB (l ++ [cc])) tb, .int (sC (l ++ [cc])) tc] k) ∈ news') (e6 : ∀ p ∈ T9, p ∈ news')
    (hq : ∀ p ∈ T9, p.1 < sa') (hne : @Ne Nat sa' sl ∧ @Ne Nat sa' hc ∧ @Ne Nat sa' wc ∧ @Ne Nat sa' yc) (hlen : l.length = i) (hrec : Rec u v x way (l ++ [cc])) (hoh : oh'.data = .cell vh) (how : ow'.data = .cell vw)
    (hf : DFact vl vo T ⟨l, sa, rt, vs, n, w1, w2, oh, ow⟩) :
    DPost u v x way h₀ L sl hc wc yc oy vl vo m₀ i T T9 ⟨l, sa, rt, vs, n, w1, w2, oh, ow⟩ s Q .next { s with heap := h', toks := tk } := by
  have em : m' = DMap sl m₀ ⟨l ++ [cc], sa', rt', vs ++ [.ref sa'], n + 1, m' (Str.ofString "party"), m' (Str.ofString "turn"), oh', ow'⟩ := by
    funext y
    unfold DMap
    by_cases c1 : y = Str.ofString "party"
    · rw [if_pos c1, c1]
    · rw [if_neg c1]
      by_cases c2 : y = Str.ofString "seats"
      · rw [if_pos c2, c2, h1]
      · rw [if_neg c2]
        by_cases c3 : y = Str.ofString "record"
        · rw [if_pos c3, c3, h2]
        · rw [if_neg c3]
          by_cases c4 : y = Str.ofString "steps"
          · rw [if_pos c4, c4, h3]
          · rw [if_neg c4]
            by_cases c5 : y = Str.ofString "turn"
            · rw [if_pos c5, c5]
            · rw [if_neg c5]; exact h4 y c1 c2 c3 c4 c5
  refine ⟨h', tk, ⟨l ++ [cc], sa', rt', vs ++ [.ref sa'], n + 1, m' (Str.ofString "party"), m' (Str.ofString "turn"), oh', ow'⟩, news', (sa', tupOf #[.int (sA (l ++ [cc])) ta, .int (sB (l ++ [cc])) tb, .int (sC (l ++ [cc])) tc] k), rfl, em ▸ F, N, ?_, hq, hne, ⟨by rw [List.length_append, hlen]; rfl, hrec, ⟨vh, hoh⟩, ⟨vw, how⟩⟩, ⟨⟨ta, tb, tc, k, .head _⟩, ?_, .tail _ hf.votes⟩, ?_⟩
  · intro p hp
    simp only [DLed, List.mem_cons] at hp
    rcases hp with rfl | rfl | rfl | rfl | rfl | hp
    · rw [show (vs ++ [Value.ref sa']).toArray = vs.toArray.push (Value.ref sa') by simp]; exact e1
    · exact e2
    · exact e3
    · exact e4
    · exact e5
    · exact e6 p hp
  · show DatAll _ (vs ++ [Value.ref sa']) (stepsD (l ++ [cc]))
    rw [stepsD_snoc]
    refine DatAll.append (hf.steps.mono fun p hp => .tail _ hp) (.one (.tuple (vs := [_, _, _]) (.head _) (.cons (.int _ _) (.cons (.int _ _) (.cons (.int _ _) .nil)))))
  · intro tups hd
    show DatAll _ (vs ++ [Value.ref sa']) (stepsD (l ++ [cc]))
    rw [stepsD_snoc]
    refine DatAll.append (hd.mono fun p hp => .tail _ hp) (.one (.tuple (vs := [_, _, _]) (.head _) (.cons (.int _ _) (.cons (.int _ _) (.cons (.int _ _) .nil)))))
end
end
section
def letter (p : Int) : Nat := if p = 0 then 114 else if p = 1 then 34 else 98
section
variable {prog : Program} {w : World} {A : Around} {E : Value → Shared → Prop} {s : Shared}
theorem item_rb {p : Int} {t u : Tok} {value slice : PySem.Expr} {Q : Value → Shared → Prop} (hp : p = 0 ∨ p = 1 ∨ p = 2) (h : Q (.str ⟨#[letter p]⟩ s.toks) { s with toks := s.toks + 1 })
    (hs : subscripted slice false (.str (Str.ofString "r\"b") t) (.int p u) = operate [.str (Str.ofString "r\"b") t, .int p u] (getItem (.str (Str.ofString "r\"b") t) (.int p u)))
    (ht : ∀ r, letTemporaryGo value (.str (Str.ofString "r\"b") t) r = pure ()) :
    wpAny (model prog w) A (subscriptTail value slice (.str (Str.ofString "r\"b") t) (.int p u)) Q E s := by
  have hlen : (Str.ofString "r\"b").length = 3 := by decide
  refine item_str (fitsSsize_of (N := 9223372036854775808) (by omega) (by omega) (Int.le_refl _)) (by omega) (by omega) (fun _ => ?_) hs ht
  have e : Txt.item (Str.ofString "r\"b") p = ⟨#[letter p]⟩ := by
    rcases hp with rfl | rfl | rfl <;> decide
  rw [e]
  exact h
theorem add_rec {l : List Nat} {c : Nat} {t u : Tok} {Q : Value → Shared → Prop} (hl : l.length ≤ 50) (h : ∀ t' k, Q (.str ⟨(l ++ [c]).toArray⟩ t') { s with toks := k }) :
    wpAny (model prog w) A (binaryOp .Add (.str ⟨l.toArray⟩ t) (.str ⟨#[c]⟩ u)) Q E s := by
  refine KXadd.add (K := 50) (L := 1) (by show l.toArray.size ≤ 50; rw [List.size_toArray]; exact hl) (Nat.le_refl _) (by decide) fun t' k _ => ?_
  have e : (Str.mk l.toArray ++ Str.mk #[c]) = ⟨(l ++ [c]).toArray⟩ := by
    show Str.mk (l.toArray ++ #[c]) = _
    simp
  rw [e]
  exact h t' k
theorem count_nat (c : Nat) (l : List Nat) : countIn (.str ⟨#[c]⟩) (l.map fun n => PyData.str ⟨#[n]⟩) = (l.count c : Int) := by
  rw [countIn_signs_sum]
  induction l with
  | nil => rfl
  | cons a r ih =>
    rw [List.map_cons, List.sum_cons, ih, List.count_cons]
    by_cases h : a = c
    · subst h; simp; omega
    · simp [h]
theorem count_rec {l : List Nat} {c : Nat} {y : Str} {t u : Tok} {Q : Value → Shared → Prop} (hy : y = ⟨#[c]⟩) (h : Q (.int (l.count c : Int) s.toks) { s with toks := s.toks + 1 }) :
    wpAny (model prog w) A (call (.builtin "str.count") [.str ⟨l.toArray⟩ t, .str y u]) Q E s := by
  refine SC.count ?_
  rw [hy, count_is]
  show Q (.int (countIn (.str ⟨#[c]⟩) (l.toArray.toList.map fun n => PyData.str ⟨#[n]⟩)) s.toks) _
  rw [count_nat]
  exact h
end
end
section
def LeastOk (u v x way : Int) (l : List Nat) : Prop := ∀ i, i < l.length → ∀ a b : Int, 1 ≤ a → 1 ≤ b → a + b + 1 ≤ 4 + (i : Int) →
  costN u v x (sA (l.take (i + 1))) (sB (l.take (i + 1))) (sC (l.take (i + 1))) way * costD u v x a b (4 + (i : Int) - a - b) way ≤ costN u v x a b (4 + (i : Int) - a - b) way * costD u v x (sA (l.take (i + 1))) (sB (l.take (i + 1))) (sC (l.take (i + 1))) way
theorem hard_pos {way a : Int} (hw : 0 ≤ way) (ha : 1 ≤ a) : 0 < hardZ way a := by
  unfold hardZ
  split
  · lia
  · exact Int.mul_pos (by lia) (by lia)
theorem hard_mono {way a b : Int} (ha : 1 ≤ a) (hab : a ≤ b) : hardZ way a ≤ hardZ way b := by
  unfold hardZ
  split
  · lia
  · exact Int.mul_le_mul hab (by lia) (by lia) (by lia)
theorem worth_pos {way v : Int} (h : 0 ≤ v) : 0 ≤ worthZ way v := by
  unfold worthZ
  split
  · exact h
  · exact Int.mul_nonneg h h
def Pr (p q way a b : Int) : Prop := 1 < a → q * hardZ way (a - 1) ≤ p * hardZ way b
structure Six (p q r way a b c : Int) : Prop where
  ab : Pr p q way a b
  ac : Pr p r way a c
  ba : Pr q p way b a
  bc : Pr q r way b c
  ca : Pr r p way c a
  cb : Pr r q way c b
theorem Pr.grow {p q way a b : Int} (h : Pr p q way a b) (hp : 0 ≤ p) (hb : 1 ≤ b) : Pr p q way a (b + 1) := fun h1 => Int.le_trans (h h1) (Int.mul_le_mul_of_nonneg_left (hard_mono hb (by lia)) hp)
theorem Pr.new {p q way a b : Int} (h : q * hardZ way a ≤ p * hardZ way b) : Pr p q way (a + 1) b := fun _ => by
  rw [Int.add_sub_cancel]; exact h
theorem sA_pos {l : List Nat} : 1 ≤ sA l := by unfold sA; lia
theorem sB_pos {l : List Nat} : 1 ≤ sB l := by unfold sB; lia
theorem sC_pos {l : List Nat} : 1 ≤ sC l := by unfold sC; lia
theorem sA_r {l : List Nat} : sA (l ++ [114]) = sA l + 1 := by unfold sA; rw [List.count_append]; simp; lia
theorem sB_r {l : List Nat} : sB (l ++ [114]) = sB l := by unfold sB; rw [List.count_append]; simp
theorem sC_r {l : List Nat} : sC (l ++ [114]) = sC l := by unfold sC; rw [List.count_append]; simp
theorem sA_g {l : List Nat} : sA (l ++ [34]) = sA l := by unfold sA; rw [List.count_append]; simp
theorem sB_g {l : List Nat} : sB (l ++ [34]) = sB l + 1 := by unfold sB; rw [List.count_append]; simp; lia
theorem sC_g {l : List Nat} : sC (l ++ [34]) = sC l := by unfold sC; rw [List.count_append]; simp
theorem sA_b {l : List Nat} : sA (l ++ [98]) = sA l := by unfold sA; rw [List.count_append]; simp
theorem sB_b {l : List Nat} : sB (l ++ [98]) = sB l := by unfold sB; rw [List.count_append]; simp
theorem sC_b {l : List Nat} : sC (l ++ [98]) = sC l + 1 := by unfold sC; rw [List.count_append]; simp; lia
theorem cancel {p q x y z : Int} (hz : 0 < z) (h : q * x * z ≤ p * z * y) : q * x ≤ p * y := by
  have h' : (q * x) * z ≤ (p * y) * z := by
    rw [show p * y * z = p * z * y by rw [Int.mul_assoc, Int.mul_comm y z, ← Int.mul_assoc]]; exact h
  exact Int.le_of_mul_le_mul_right h' hz
theorem six_of_rec {u v x way : Int} {l : List Nat} (hu : 0 ≤ u) (hv : 0 ≤ v) (hx : 0 ≤ x) (hw : 0 ≤ way) (h : Rec u v x way l) :
    Six (worthZ way u) (worthZ way v) (worthZ way x) way (sA l) (sB l) (sC l) := by
  have pu := worth_pos (way := way) hu
  have pv := worth_pos (way := way) hv
  have px := worth_pos (way := way) hx
  induction h with
  | nil => exact ⟨fun h => absurd h (by decide), fun h => absurd h (by decide), fun h => absurd h (by decide), fun h => absurd h (by decide), fun h => absurd h (by decide), fun h => absurd h (by decide)⟩
  | @red l _ h1 h2 ih =>
    have pA := hard_pos (way := way) hw (sA_pos (l := l))
    have pB := hard_pos (way := way) hw (sB_pos (l := l))
    have pC := hard_pos (way := way) hw (sC_pos (l := l))
    rw [sA_r, sB_r, sC_r]
    unfold clG clR at h1; unfold clB clR at h2
    exact ⟨.new (cancel pC h1), .new (cancel pB (by rw [Int.mul_right_comm (worthZ way u)] at h2; rw [Int.mul_right_comm]; exact h2)), ih.ba.grow pv sA_pos, ih.bc, ih.ca.grow px sA_pos, ih.cb⟩
  | @green l _ h1 h2 ih =>
    have pA := hard_pos (way := way) hw (sA_pos (l := l))
    have pB := hard_pos (way := way) hw (sB_pos (l := l))
    have pC := hard_pos (way := way) hw (sC_pos (l := l))
    rw [sA_g, sB_g, sC_g]
    unfold clG clR at h1; unfold clB clG at h2
    exact ⟨ih.ab.grow pu sB_pos, ih.ac, .new (cancel pC (by rw [Int.mul_right_comm (worthZ way u), Int.mul_right_comm (worthZ way v)] at h1; exact h1)), .new (cancel pA h2), ih.ca, ih.cb.grow px sB_pos⟩
  | @blue l _ h1 h2 ih =>
    have pA := hard_pos (way := way) hw (sA_pos (l := l))
    have pB := hard_pos (way := way) hw (sB_pos (l := l))
    have pC := hard_pos (way := way) hw (sC_pos (l := l))
    rw [sA_b, sB_b, sC_b]
    unfold clB clR at h1; unfold clB clG at h2
    exact ⟨ih.ab, ih.ac.grow pu sC_pos, ih.ba, ih.bc.grow pv sC_pos, .new (cancel pB h1), .new (cancel pA (by rw [Int.mul_right_comm (worthZ way v), Int.mul_right_comm (worthZ way x)] at h2; exact h2))⟩
theorem rec_sum {u v x way : Int} {l : List Nat} (h : Rec u v x way l) : sA l + sB l + sC l = 3 + (l.length : Int) := by
  induction h with
  | nil => decide
  | red _ _ _ ih => rw [sA_r, sB_r, sC_r, List.length_append, List.length_singleton]; lia
  | green _ _ _ ih => rw [sA_g, sB_g, sC_g, List.length_append, List.length_singleton]; lia
  | blue _ _ _ ih => rw [sA_b, sB_b, sC_b, List.length_append, List.length_singleton]; lia
theorem take_snoc {l : List Nat} {y n : Nat} : (l ++ [y]).take n = l.take n ∨ (l ++ [y]).take n = l ++ [y] := by
  by_cases h : n ≤ l.length
  · exact .inl (List.take_append_of_le_length h)
  · exact .inr (List.take_of_length_le (by rw [List.length_append, List.length_singleton]; lia))
theorem rec_take {u v x way : Int} {l : List Nat} (h : Rec u v x way l) (n : Nat) : Rec u v x way (l.take n) := by
  induction h with
  | nil => rw [List.take_nil]; exact .nil
  | red h1 h2 h3 ih => rcases take_snoc (n := n) with e | e <;> rw [e]; exact ih; exact .red h1 h2 h3
  | green h1 h2 h3 ih => rcases take_snoc (n := n) with e | e <;> rw [e]; exact ih; exact .green h1 h2 h3
  | blue h1 h2 h3 ih => rcases take_snoc (n := n) with e | e <;> rw [e]; exact ih; exact .blue h1 h2 h3
/-- the price at which the next seat goes -/
def Price (p q W way s : Int) : Prop := q * W ≤ p * hardZ way s ∧ (1 < s → p * hardZ way (s - 1) ≤ q * W)
theorem Price.self {W way s : Int} (_hs : 1 ≤ s) (hW : 0 ≤ W) : Price W (hardZ way s) W way s :=
  ⟨by rw [Int.mul_comm]; exact Int.le_refl _, fun h => by rw [Int.mul_comm (hardZ way s)]; exact Int.mul_le_mul_of_nonneg_left (hard_mono (by lia) (by lia)) hW⟩
theorem Price.of {W p way s b : Int} (h : W * hardZ way b ≤ p * hardZ way s) (k : Pr W p way s b) : Price p (hardZ way b) W way s :=
  ⟨by rw [Int.mul_comm]; exact h, fun h => by rw [Int.mul_comm (hardZ way b)]; exact k h⟩
theorem price_of_six {p q r way a b c : Int} (hp : 0 < p) (hq : 0 < q) (hr : 0 < r) (ha : 1 ≤ a) (hb : 1 ≤ b) (hc : 1 ≤ c) (hw : 0 ≤ way) (S : Six p q r way a b c) :
    ∃ y z, 0 < y ∧ 0 < z ∧ Price y z p way a ∧ Price y z q way b ∧ Price y z r way c := by
  have pA := hard_pos (way := way) hw ha
  have pB := hard_pos (way := way) hw hb
  have pC := hard_pos (way := way) hw hc
  have key : (q * hardZ way a ≤ p * hardZ way b ∧ r * hardZ way a ≤ p * hardZ way c) ∨ (p * hardZ way b ≤ q * hardZ way a ∧ r * hardZ way b ≤ q * hardZ way c) ∨ (p * hardZ way c ≤ r * hardZ way a ∧ q * hardZ way c ≤ r * hardZ way b) := by
    generalize hardZ way a = A at *
    generalize hardZ way b = B at *
    generalize hardZ way c = C at *
    have t1 : ∀ {x y z : Int}, 0 < z → x * z ≤ y * z → x ≤ y := fun hz h => Int.le_of_mul_le_mul_right h hz
    rcases Int.le_total (q * A) (p * B) with h1 | h1
    · rcases Int.le_total (r * A) (p * C) with h2 | h2
      · exact .inl ⟨h1, h2⟩
      · refine .inr (.inr ⟨h2, t1 pA ?_⟩)
        have a1 := Int.mul_le_mul_of_nonneg_right h1 (Int.le_of_lt pC)
        have a2 := Int.mul_le_mul_of_nonneg_right h2 (Int.le_of_lt pB)
        grind
    · rcases Int.le_total (r * B) (q * C) with h2 | h2
      · exact .inr (.inl ⟨h1, h2⟩)
      · refine .inr (.inr ⟨t1 pB ?_, h2⟩)
        have a1 := Int.mul_le_mul_of_nonneg_right h1 (Int.le_of_lt pC)
        have a2 := Int.mul_le_mul_of_nonneg_right h2 (Int.le_of_lt pA)
        grind
  rcases key with ⟨h1, h2⟩ | ⟨h1, h2⟩ | ⟨h1, h2⟩
  · exact ⟨p, _, hp, pA, .self ha (Int.le_of_lt hp), .of h1 S.ba, .of h2 S.ca⟩
  · exact ⟨q, _, hq, pB, .of h1 S.ab, .self hb (Int.le_of_lt hq), .of h2 S.cb⟩
  · exact ⟨r, _, hr, pC, .of h1 S.ac, .of h2 S.bc, .self hc (Int.le_of_lt hr)⟩
theorem mul_pp {x y : Int} (hx : 0 ≤ x) (hy : 0 ≤ y) : 0 ≤ x * y := Int.mul_nonneg hx hy
theorem mul_nn {x y : Int} (hx : x ≤ 0) (hy : y ≤ 0) : 0 ≤ x * y := by
  have := Int.mul_nonneg (Int.neg_nonneg.mpr hx) (Int.neg_nonneg.mpr hy)
  rwa [Int.neg_mul_neg] at this
theorem term8 {p q u way s t : Int} (h9 : way < 9) (hp : 0 ≤ p) (ht : 1 ≤ t) (P : Price p q u way s) : 0 ≤ (p * (4 * (t + s) + way - 4) - q * u) * (t - s) := by
  obtain ⟨h1, h2⟩ := P
  unfold hardZ at h1 h2
  rw [if_pos h9] at h1 h2
  rcases Int.lt_trichotomy t s with h | h | h
  · refine mul_nn ?_ (by lia)
    have hs : 1 < s := by lia
    have := h2 hs
    have a1 : p * (4 * (t + s) + way - 4) ≤ p * (8 * (s - 1) + way) := Int.mul_le_mul_of_nonneg_left (by lia) hp
    lia
  · subst h; simp
  · refine mul_pp ?_ (by lia)
    have a1 : p * (8 * s + way) ≤ p * (4 * (t + s) + way - 4) := Int.mul_le_mul_of_nonneg_left (by lia) hp
    lia
theorem term9 {p q W s t : Int} (hp : 0 ≤ p) (hs : 1 ≤ s) (ht : 1 ≤ t) (P : Price p q W 9 s) : 0 ≤ (p * (s * t) - q * W) * (t - s) := by
  obtain ⟨h1, h2⟩ := P
  unfold hardZ at h1 h2
  rw [if_neg (by decide)] at h1 h2
  rcases Int.lt_trichotomy t s with h | h | h
  · refine mul_nn ?_ (by lia)
    have := h2 (by lia)
    have a0 : s * t ≤ s * (s - 1) := Int.mul_le_mul_of_nonneg_left (by lia) (by lia)
    have a1 : p * (s * t) ≤ p * (s * (s - 1)) := Int.mul_le_mul_of_nonneg_left a0 hp
    rw [show s - 1 + 1 = s by lia, Int.mul_comm (s - 1) s] at this
    lia
  · subst h; simp
  · refine mul_pp ?_ (by lia)
    have a0 : s * (s + 1) ≤ s * t := Int.mul_le_mul_of_nonneg_left (by lia) (by lia)
    have a1 : p * (s * (s + 1)) ≤ p * (s * t) := Int.mul_le_mul_of_nonneg_left a0 hp
    lia
theorem least8 {p q u v x way a b c d e f : Int} (h9 : way < 9) (hp : 0 < p) (hu : 0 < u) (hv : 0 < v) (hx : 0 < x) (hd : 1 ≤ d) (he : 1 ≤ e) (hf : 1 ≤ f) (hs : d + e + f = a + b + c)
    (Pa : Price p q u way a) (Pb : Price p q v way b) (Pc : Price p q x way c) :
    costN u v x a b c way * costD u v x d e f way ≤ costN u v x d e f way * costD u v x a b c way := by
  have ta := term8 h9 (Int.le_of_lt hp) hd Pa
  have tb := term8 h9 (Int.le_of_lt hp) he Pb
  have tc := term8 h9 (Int.le_of_lt hp) hf Pc
  unfold costN costD
  have n9 : ¬ way = 9 := by lia
  simp only [if_neg n9]
  have hD : 0 ≤ u * v * x := Int.le_of_lt (Int.mul_pos (Int.mul_pos hu hv) hx)
  refine Int.mul_le_mul_of_nonneg_right ?_ hD
  have ka := mul_pp ta (Int.le_of_lt (Int.mul_pos hv hx))
  have kb := mul_pp tb (Int.le_of_lt (Int.mul_pos hu hx))
  have kc := mul_pp tc (Int.le_of_lt (Int.mul_pos hu hv))
  refine Int.le_of_mul_le_mul_left (a := p) ?_ hp
  obtain rfl : f = a + b + c - d - e := by lia
  clear ta tb tc Pa Pb Pc hD hs
  grind
theorem least9 {p q u v x a b c d e f : Int} (hp : 0 < p) (hq : 0 < q) (ha : 1 ≤ a) (hb : 1 ≤ b) (hc : 1 ≤ c) (hd : 1 ≤ d) (he : 1 ≤ e) (hf : 1 ≤ f) (hs : d + e + f = a + b + c)
    (Pa : Price p q (u * u) 9 a) (Pb : Price p q (v * v) 9 b) (Pc : Price p q (x * x) 9 c) :
    costN u v x a b c 9 * costD u v x d e f 9 ≤ costN u v x d e f 9 * costD u v x a b c 9 := by
  have ta := term9 (Int.le_of_lt hp) ha hd Pa
  have tb := term9 (Int.le_of_lt hp) hb he Pb
  have tc := term9 (Int.le_of_lt hp) hc hf Pc
  unfold costN costD
  simp only [if_pos]
  have q1 : 0 ≤ b * e * (c * f) := mul_pp (mul_pp (by lia) (by lia)) (mul_pp (by lia) (by lia))
  have q2 : 0 ≤ a * d * (c * f) := mul_pp (mul_pp (by lia) (by lia)) (mul_pp (by lia) (by lia))
  have q3 : 0 ≤ a * d * (b * e) := mul_pp (mul_pp (by lia) (by lia)) (mul_pp (by lia) (by lia))
  have ka := mul_pp ta q1
  have kb := mul_pp tb q2
  have kc := mul_pp tc q3
  refine Int.le_of_mul_le_mul_left (a := q) ?_ hq
  obtain rfl : f = a + b + c - d - e := by lia
  clear ta tb tc Pa Pb Pc hs q1 q2 q3
  grind
theorem worth_lt {way v : Int} (h : 1 ≤ v) : 0 < worthZ way v := by
  unfold worthZ
  split
  · lia
  · exact Int.mul_pos (by lia) (by lia)
theorem least_of_rec {u v x way : Int} {l : List Nat} (hu : 1 ≤ u) (hv : 1 ≤ v) (hx : 1 ≤ x) (hw : 0 ≤ way ∧ way ≤ 9) (h : Rec u v x way l) : LeastOk u v x way l := by
  intro i hi a b ha hb hab
  have hr := rec_take h (i + 1)
  have hsum := rec_sum hr
  have hlen : (l.take (i + 1)).length = i + 1 := by rw [List.length_take]; lia
  rw [hlen] at hsum
  have S := six_of_rec (by lia) (by lia) (by lia) hw.1 hr
  generalize hA : sA (l.take (i + 1)) = A at *
  generalize hB : sB (l.take (i + 1)) = B at *
  generalize hC : sC (l.take (i + 1)) = C at *
  have pA : 1 ≤ A := hA ▸ sA_pos
  have pB : 1 ≤ B := hB ▸ sB_pos
  have pC : 1 ≤ C := hC ▸ sC_pos
  obtain ⟨y, z, hy, hz, Pa, Pb, Pc⟩ := price_of_six (worth_lt hu) (worth_lt hv) (worth_lt hx) pA pB pC hw.1 S
  by_cases h9 : way = 9
  · subst h9
    unfold worthZ at Pa Pb Pc
    rw [if_neg (by decide)] at Pa Pb Pc
    exact least9 hy hz pA pB pC ha hb (by lia) (by push_cast at hsum; lia) Pa Pb Pc
  · have h9' : way < 9 := by lia
    unfold worthZ at Pa Pb Pc
    rw [if_pos h9'] at Pa Pb Pc
    exact least8 h9' hy (by lia) (by lia) (by lia) ha hb (by lia) (by push_cast at hsum; lia) Pa Pb Pc
theorem dummy_one {u x way : Int} {l : List Nat} (hu : 0 < u) (hx : 0 ≤ x) (hw : 0 ≤ way) (h : Rec u 0 x way l) : sB l = 1 := by
  induction h with
  | nil => decide
  | red _ _ _ ih => rw [sB_r]; exact ih
  | blue _ _ _ ih => rw [sB_b]; exact ih
  | @green l _ h1 h2 ih =>
    exfalso
    have h0 : clG 0 way l = 0 := by unfold clG worthZ; split <;> simp
    rw [h0] at h1
    have : 0 < clR u way l := Int.mul_pos (Int.mul_pos (worth_lt hu) (hard_pos hw sC_pos)) (hard_pos hw sB_pos)
    lia
theorem sq_le {m n : Int} (hn : 0 ≤ n) (h : m * m ≤ n * n) : m ≤ n := by
  rcases Int.lt_or_le n m with h1 | h1
  · have a1 : n * n ≤ n * m := Int.mul_le_mul_of_nonneg_left (by lia) hn
    have a2 : n * m < m * m := Int.mul_lt_mul_of_pos_right h1 (by lia)
    lia
  · exact h1
/-- blue loses two seats, or gains two: neither is -/
theorem join_up {u v x way a b c d f : Int} (hu : 1 ≤ u) (hv : 1 ≤ v) (hx : 1 ≤ x) (hw : 0 ≤ way ∧ way ≤ 9) (ha : 1 ≤ a) (hb : 1 ≤ b) (hc : 1 ≤ c) (hd : 1 ≤ d) (hs : d + f = a + b + c) (hf : c + 2 ≤ f)
    (P1 : 1 < a → worthZ way x * hardZ way (a - 1) ≤ worthZ way u * hardZ way c) (P2 : 1 < b → worthZ way x * hardZ way (b - 1) ≤ worthZ way v * hardZ way c)
    (P3 : 1 < f → worthZ way (u + v) * hardZ way (f - 1) ≤ worthZ way x * hardZ way d) : False := by
  have P3' := P3 (by lia)
  unfold worthZ hardZ at *
  by_cases h9 : way < 9
  · simp only [if_pos h9] at *
    have g1 : (u + v) * (8 * c + way) + 8 * (u + v) ≤ (u + v) * (8 * (f - 1) + way) := by
      have := Int.mul_le_mul_of_nonneg_left (show 8 * c + way + 8 ≤ 8 * (f - 1) + way by lia) (show 0 ≤ u + v by lia)
      rw [Int.mul_add] at this; lia
    rcases Int.lt_or_le 1 a with h1 | h1
    · have k1 := P1 h1
      rcases Int.lt_or_le 1 b with h2 | h2
      · have k2 := P2 h2
        have g2 : x * (8 * d + way) ≤ x * (8 * (a - 1) + way + (8 * (b - 1) + way)) := Int.mul_le_mul_of_nonneg_left (by lia) (by lia)
        rw [Int.mul_add x (8 * (a - 1) + way)] at g2
        rw [Int.add_mul] at g1
        lia
      · have g2 : x * (8 * d + way) ≤ x * (8 * (a - 1) + way) := Int.mul_le_mul_of_nonneg_left (by lia) (by lia)
        have g3 : 0 ≤ v * (8 * c + way) := mul_pp (by lia) (by lia)
        rw [Int.add_mul] at g1
        lia
    · have h2 : 1 < b := by lia
      have k2 := P2 h2
      have g2 : x * (8 * d + way) ≤ x * (8 * (b - 1) + way) := Int.mul_le_mul_of_nonneg_left (by lia) (by lia)
      have g3 : 0 ≤ u * (8 * c + way) := mul_pp (by lia) (by lia)
      rw [Int.add_mul] at g1
      lia
  · simp only [if_neg h9] at *
    rw [show f - 1 + 1 = f by lia] at P3'
    rw [show a - 1 + 1 = a by lia] at P1
    rw [show b - 1 + 1 = b by lia] at P2
    have Q1 : x * x * ((a - 1) * a) ≤ u * u * (c * (c + 1)) := by
      by_cases h1 : 1 < a
      · exact P1 h1
      · obtain rfl : a = 1 := by lia
        simp only [Int.sub_self, Int.zero_mul, Int.mul_zero]
        exact mul_pp (mul_pp (by lia) (by lia)) (mul_pp (by lia) (by lia))
    have Q2 : x * x * ((b - 1) * b) ≤ v * v * (c * (c + 1)) := by
      by_cases h1 : 1 < b
      · exact P2 h1
      · obtain rfl : b = 1 := by lia
        simp only [Int.sub_self, Int.zero_mul, Int.mul_zero]
        exact mul_pp (mul_pp (by lia) (by lia)) (mul_pp (by lia) (by lia))
    have Q3 : x * x * ((a - 1) * (b - 1)) ≤ u * v * (c * (c + 1)) := by
      refine sq_le (mul_pp (mul_pp (by lia) (by lia)) (mul_pp (by lia) (by lia))) ?_
      have m1 : (x * x * ((a - 1) * (a - 1))) * (x * x * ((b - 1) * (b - 1))) ≤ (u * u * (c * (c + 1))) * (v * v * (c * (c + 1))) := by
        refine Int.mul_le_mul (Int.le_trans ?_ Q1) (Int.le_trans ?_ Q2) (mul_pp (mul_pp (by lia) (by lia)) (mul_pp (by lia) (by lia))) (mul_pp (mul_pp (by lia) (by lia)) (mul_pp (by lia) (by lia)))
        · exact Int.mul_le_mul_of_nonneg_left (Int.mul_le_mul_of_nonneg_left (by lia) (by lia)) (mul_pp (by lia) (by lia))
        · exact Int.mul_le_mul_of_nonneg_left (Int.mul_le_mul_of_nonneg_left (by lia) (by lia)) (mul_pp (by lia) (by lia))
      clear Q1 Q2 P3' P3 P1 P2
      grind
    have g0 : d * (d + 1) ≤ (a + b - 2) * (a + b - 1) := Int.mul_le_mul (by lia) (by lia) (by lia) (by lia)
    have g1 : x * x * (d * (d + 1)) ≤ x * x * ((a + b - 2) * (a + b - 1)) := Int.mul_le_mul_of_nonneg_left g0 (mul_pp (by lia) (by lia))
    have g2 : (c + 1) * (c + 2) ≤ (f - 1) * f := Int.mul_le_mul (by lia) (by lia) (by lia) (by lia)
    have g3 : (u + v) * (u + v) * ((c + 1) * (c + 2)) ≤ (u + v) * (u + v) * ((f - 1) * f) := Int.mul_le_mul_of_nonneg_left g2 (mul_pp (by lia) (by lia))
    have g4 : 0 < (u + v) * (u + v) * (2 * (c + 1)) := Int.mul_pos (Int.mul_pos (by lia) (by lia)) (by lia)
    clear P1 P2 P3 g0 g2
    grind
theorem join_down {u v x way a b c d f : Int} (hu : 1 ≤ u) (hv : 1 ≤ v) (hx : 1 ≤ x) (hw : 0 ≤ way ∧ way ≤ 9) (ha : 1 ≤ a) (hb : 1 ≤ b) (hf1 : 1 ≤ f) (hs : d + f = a + b + c) (hf : f + 2 ≤ c)
    (P1 : 1 < c → worthZ way u * hardZ way (c - 1) ≤ worthZ way x * hardZ way a) (P2 : 1 < c → worthZ way v * hardZ way (c - 1) ≤ worthZ way x * hardZ way b)
    (P3 : 1 < d → worthZ way x * hardZ way (d - 1) ≤ worthZ way (u + v) * hardZ way f) : False := by
  have P3' := P3 (by lia)
  have P1' := P1 (by lia)
  have P2' := P2 (by lia)
  clear P1 P2 P3
  unfold worthZ hardZ at *
  by_cases h9 : way < 9
  · simp only [if_pos h9] at *
    have g1 : (u + v) * (8 * f + way) + 8 * (u + v) ≤ (u + v) * (8 * (c - 1) + way) := by
      have := Int.mul_le_mul_of_nonneg_left (show 8 * f + way + 8 ≤ 8 * (c - 1) + way by lia) (show 0 ≤ u + v by lia)
      rw [Int.mul_add] at this; lia
    have g2 : x * (8 * a + way + (8 * b + way)) ≤ x * (8 * (d - 1) + way) := Int.mul_le_mul_of_nonneg_left (by lia) (by lia)
    rw [Int.mul_add x (8 * a + way)] at g2
    rw [Int.add_mul u v (8 * (c - 1) + way)] at g1
    lia
  · simp only [if_neg h9] at *
    rw [show c - 1 + 1 = c by lia] at P1' P2'
    rw [show d - 1 + 1 = d by lia] at P3'
    have Q3 : u * v * ((c - 1) * c) ≤ x * x * ((a + 1) * (b + 1)) := by
      refine sq_le (mul_pp (mul_pp (by lia) (by lia)) (mul_pp (by lia) (by lia))) ?_
      have m1 : (u * u * ((c - 1) * c)) * (v * v * ((c - 1) * c)) ≤ (x * x * ((a + 1) * (a + 1))) * (x * x * ((b + 1) * (b + 1))) := by
        refine Int.mul_le_mul (Int.le_trans P1' ?_) (Int.le_trans P2' ?_) (mul_pp (mul_pp (by lia) (by lia)) (mul_pp (by lia) (by lia))) (mul_pp (mul_pp (by lia) (by lia)) (mul_pp (by lia) (by lia)))
        · exact Int.mul_le_mul_of_nonneg_left (Int.mul_le_mul_of_nonneg_right (by lia) (by lia)) (mul_pp (by lia) (by lia))
        · exact Int.mul_le_mul_of_nonneg_left (Int.mul_le_mul_of_nonneg_right (by lia) (by lia)) (mul_pp (by lia) (by lia))
      clear P1' P2' P3'
      grind
    have g0 : (a + b + 1) * (a + b + 2) ≤ (d - 1) * d := Int.mul_le_mul (by lia) (by lia) (by lia) (by lia)
    have g1 : x * x * ((a + b + 1) * (a + b + 2)) ≤ x * x * ((d - 1) * d) := Int.mul_le_mul_of_nonneg_left g0 (mul_pp (by lia) (by lia))
    have g2 : (f + 1) * (f + 2) ≤ (c - 1) * c := Int.mul_le_mul (by lia) (by lia) (by lia) (by lia)
    have g3 : (u + v) * (u + v) * ((f + 1) * (f + 2)) ≤ (u + v) * (u + v) * ((c - 1) * c) := Int.mul_le_mul_of_nonneg_left g2 (mul_pp (by lia) (by lia))
    have g4 : 0 < (u + v) * (u + v) * (2 * (f + 1)) := Int.mul_pos (Int.mul_pos (by lia) (by lia)) (by lia)
    clear g0 g2
    grind
theorem fair_of_recs {u v x way : Int} {l l' : List Nat} (hu : 1 ≤ u) (hv : 1 ≤ v) (hx : 1 ≤ x) (hw : 0 ≤ way ∧ way ≤ 9) (h : Rec u v x way l) (h' : Rec (u + v) 0 x way l') (hl : l'.length = l.length + 1) :
    sB l' = 1 ∧ sA l' + sC l' = 3 + (l.length : Int) ∧ sC l' - sC l ≤ 1 ∧ sC l - sC l' ≤ 1 := by
  have h1 := dummy_one (by lia) (by lia) hw.1 h'
  have s1 := rec_sum h
  have s2 := rec_sum h'
  rw [hl] at s2
  have S := six_of_rec (by lia) (by lia) (by lia) hw.1 h
  have S' := six_of_rec (by lia) (by lia) (by lia) hw.1 h'
  have e1 := sA_pos (l := l)
  have e2 := sB_pos (l := l)
  have e3 := sC_pos (l := l)
  have e4 := sA_pos (l := l')
  have e5 := sC_pos (l := l')
  push_cast at s2
  refine ⟨h1, by lia, ?_, ?_⟩
  · rcases Int.lt_or_le 1 (sC l' - sC l) with g | g
    · exact (join_up hu hv hx hw e1 e2 e3 e4 (by lia) (by lia) S.ac S.bc S'.ca).elim
    · exact g
  · rcases Int.lt_or_le 1 (sC l - sC l') with g | g
    · exact (join_down hu hv hx hw e1 e2 e5 (by lia) (by lia) S.ca S.cb S'.ac).elim
    · exact g
end
section
def CMap (l : Addr) (u : Str → Option Value) : Str → Option Value := fun y => if y = Str.ofString "cells" then some (.ref l) else u y
theorem cmap_self {l : Addr} {m : Str → Option Value} (h1 : m (Str.ofString "cells") = some (.ref l)) : m = CMap l m := by
  funext y
  unfold CMap
  by_cases c1 : y = Str.ofString "cells"
  · rw [if_pos c1, c1, h1]
  · rw [if_neg c1]
def CPost (h₀ : Heap) (L D l : Addr) (lo : Obj) (I : Addr) (oE oI : Obj) (tl : List (Addr × Obj)) (s : Shared) (Q : Flow → Shared → Prop) (f : Flow) (s₂ : Shared) : Prop :=
  match f with
  | .ret v => Q (.ret v) s₂
  | .brk => Q .next s₂
  | _ => ∃ h' tk m' cs' ns' k', s₂ = { s with heap := h', toks := tk } ∧ Fr h₀ L h' m' ∧ m' (Str.ofString "cells") = some (.ref l) ∧ IntsAre cs' ns' ∧ ns'.length = 4 ∧
      News h₀ L h' ((I + 1, oE) :: (I, oI) :: (D, lo) :: (l, listOf cs'.toArray k') :: tl)
theorem cpost_next {h₀ : Heap} {L D l : Addr} {lo : Obj} {I : Addr} {oE oI : Obj} {tl : List (Addr × Obj)} {s : Shared} {Q : Flow → Shared → Prop} {h' : Heap} {tk : Nat} {m' : Str → Option Value} {cs' : List Value} {ns' : List Int} {k' : Nat}
    (F : Fr h₀ L h' m') (h1 : m' (Str.ofString "cells") = some (.ref l)) (hi : IntsAre cs' ns') (hl : ns'.length = 4) (N : News h₀ L h' ((I + 1, oE) :: (I, oI) :: (D, lo) :: (l, listOf cs'.toArray k') :: tl)) :
    CPost h₀ L D l lo I oE oI tl s Q .next { s with heap := h', toks := tk } := ⟨h', tk, m', cs', ns', k', rfl, F, h1, hi, hl, N⟩
theorem ints_item {vs : List Value} {xs : List Int} (h : IntsAre vs xs) : ∀ {i : Nat} {v : Value}, vs[i]? = some v → ∃ x t, v = .int x t := by
  induction h with
  | nil => intro i v hv; simp at hv
  | cons x t _ ih =>
    intro i v hv
    cases i with
    | zero => simp at hv; exact ⟨x, t, hv.symm⟩
    | succ i => exact ih (by simpa using hv)
section
variable {prog : Program} {w : World} {A : Around} {E : Value → Shared → Prop} {s : Shared} {env : Env} {h₀ : Heap} {body : List Stmt} {Q : Flow → Shared → Prop}
theorem cells_loop {L : Addr} (hL : env.locals = L) {elts : List Expr} {kk : Nat} {pos : Pos} {D l : Addr} {vs cs : List Value} {xs ns : List Int} {n k : Nat} {m₀ : Str → Option Value} {tl : List (Addr × Obj)}
    (hh : A.handled = none) (F : Fr h₀ L s.heap m₀) (N : News h₀ L s.heap ((D, listOf vs.toArray n) :: (l, listOf cs.toArray k) :: tl)) (hx : IntsAre vs xs) (hC : IntsAre cs ns) (hlen : ns.length = 4)
    (m1 : m₀ (Str.ofString "cells") = some (.ref l))
    (turn : ∀ (I : Addr) (i : Nat) x tx u h tk T t oE oI cs ns k, @LT.lt Nat _ D I → @LT.lt Nat _ l I → NLt tl I → IntsAre cs ns → ns.length = 4 → IsTup h T #[.int (i : Int) t, .int x tx] → Fr h₀ L h (CMap l u) → News h₀ L h ((I + 1, oE) :: (I, oI) :: (D, listOf vs.toArray n) :: (l, listOf cs.toArray k) :: tl) →
      wpAny (model prog w) A (assign (.Tuple elts kk pos) env (.ref T)) (fun _ s₂ => wpAny (model prog w) A (execs body env)
        (CPost h₀ L D l (listOf vs.toArray n) I oE oI tl { s with heap := h, toks := tk } Q) E s₂) E { s with heap := h, toks := tk })
    (done : ∀ u cs ns k h tk, IntsAre cs ns → ns.length = 4 → Fr h₀ L h (CMap l u) → News h₀ L h ((D, listOf vs.toArray n) :: (l, listOf cs.toArray k) :: tl) → Q .next { s with heap := h, toks := tk }) :
    wpAny (model prog w) A (call (.type "enumerate") [.ref D]) (fun xv s₁ => wpAny (model prog w) A (pyIter xv) (fun it s₂ => TurnsAt prog w A h₀ env (.Tuple elts kk pos) body Q E it s₂) E s₁) E s := by
  subst hL
  refine enum_own (vs := vs) (n := n) (fun _ m nx => ∃ cs ns k u, IntsAre cs ns ∧ ns.length = 4 ∧ nx = (D, listOf vs.toArray n) :: (l, listOf cs.toArray k) :: tl ∧ m = CMap l u) hh F N (.head _) rfl rfl ⟨cs, ns, k, m₀, hC, hlen, rfl, cmap_self m1⟩ ?_ ?_
  · rintro I i v m₁ nx h tk T t oE oI hI hv _ ⟨cs, ns, k, u, hC, hlen, rfl, rfl⟩ hT F₁ N₁
    obtain ⟨x, tx, rfl⟩ := ints_item hx hv
    have hDI : @LT.lt Nat _ D I := hI _ (.head _)
    have hlI : @LT.lt Nat _ l I := hI _ (.tail _ (.head _))
    have hnI : NLt tl I := fun p hp => hI p (.tail _ (.tail _ hp))
    refine wpAny_mono (turn I i x tx u h tk T t oE oI cs ns k hDI hlI hnI hC hlen hT F₁ N₁) (fun _ s₂ h₂ => wpAny_mono h₂ (fun f s₃ p => ?_) fun _ _ e => e) fun _ _ e => e
    have fin : CPost h₀ env.locals D l (listOf vs.toArray n) I oE oI tl { s with heap := h, toks := tk } Q .next s₃ →
        UnrEndW h₀ env.locals { s with heap := h, toks := tk } [(I + 1, oE), (I, oI)] (fun m' n' => (D, listOf vs.toArray n) ∈ n' ∧ ∃ cs ns k u, IntsAre cs ns ∧ ns.length = 4 ∧ n' = (D, listOf vs.toArray n) :: (l, listOf cs.toArray k) :: tl ∧ m' = CMap l u) s₃ := by
      rintro ⟨h', tk', m', cs', ns', k', e, F', q1, hi', hl', N'⟩
      refine ⟨h', tk', m', (D, listOf vs.toArray n) :: (l, listOf cs'.toArray k') :: tl, e, F', N', ?_, .head _, cs', ns', k', m', hi', hl', rfl, cmap_self q1⟩
      intro p hp q hq
      have hp' : @LT.lt Nat _ p.1 I := by
        rcases List.mem_cons.mp hp with rfl | hp
        · exact hDI
        · rcases List.mem_cons.mp hp with rfl | hp
          · exact hlI
          · exact hnI p hp
      rcases List.mem_cons.mp hq with rfl | hq
      · exact Nat.ne_of_lt (Nat.lt_succ_of_lt hp')
      · rw [List.mem_singleton.mp hq]; exact Nat.ne_of_lt hp'
    cases f with
    | ret v => exact p
    | brk => exact p
    | next => exact fin p
    | cont => exact fin p
  · rintro m₁ nx h tk ⟨cs, ns, k, u, hC, hlen, rfl, rfl⟩ F₁ N₁
    exact done u cs ns k h tk hC hlen F₁ N₁
end
end
section
def LMap (vl : Addr) (way : Int) (tw : Tok) (u : Str → Option Value) : Str → Option Value := fun y =>
  if y = Str.ofString "votes" then some (.ref vl) else if y = Str.ofString "way" then some (.int way tw) else u y
theorem lmap_self {vl : Addr} {way : Int} {tw : Tok} {m : Str → Option Value} (h1 : m (Str.ofString "votes") = some (.ref vl)) (h2 : m (Str.ofString "way") = some (.int way tw)) : m = LMap vl way tw m := by
  funext y
  unfold LMap
  by_cases c1 : y = Str.ofString "votes"
  · rw [if_pos c1, c1, h1]
  · rw [if_neg c1]
    by_cases c2 : y = Str.ofString "way"
    · rw [if_pos c2, c2, h2]
    · rw [if_neg c2]
def LPost (h₀ : Heap) (L : Addr) (vl : Addr) (way : Int) (tw : Tok) (I : Addr) (oE oI : Obj) (yc : Addr) (news : List (Addr × Obj)) (s : Shared) (Q : Flow → Shared → Prop) (f : Flow) (s₂ : Shared) : Prop :=
  match f with
  | .ret v => Q (.ret v) s₂
  | .brk => Q .next s₂
  | _ => ∃ h' tk m' oy' vy', s₂ = { s with heap := h', toks := tk } ∧ Fr h₀ L h' m' ∧ m' (Str.ofString "votes") = some (.ref vl) ∧ m' (Str.ofString "way") = some (.int way tw) ∧ oy'.data = .cell vy' ∧
      News h₀ L h' ((I + 1, oE) :: (I, oI) :: (yc, oy') :: news)
section
variable {prog : Program} {w : World} {A : Around} {E : Value → Shared → Prop} {s : Shared} {env : Env} {h₀ : Heap} {body : List Stmt} {Q : Flow → Shared → Prop}
theorem least_loop {L : Addr} (hL : env.locals = L) {elts : List Expr} {k : Nat} {pos : Pos} {l vl yc : Addr} {oy : Obj} {vy : Option Value} {way : Int} {tw : Tok} {vs : List Value} {n : Nat} {m₀ : Str → Option Value} {news : List (Addr × Obj)}
    (hh : A.handled = none) (F : Fr h₀ L s.heap m₀) (N : News h₀ L s.heap ((yc, oy) :: news)) (hm : (l, listOf vs.toArray n) ∈ news)
    (hyc : ∀ p ∈ news, @LT.lt Nat _ p.1 yc) (hoy : oy.data = .cell vy) (m1 : m₀ (Str.ofString "votes") = some (.ref vl)) (m2 : m₀ (Str.ofString "way") = some (.int way tw))
    (turn : ∀ (I : Addr) (i : Nat) v u h tk T t oE oI oy vy, NLt news I → @LT.lt Nat _ yc I → vs[i]? = some v → IsTup h T #[.int (i : Int) t, v] → oy.data = .cell vy → Fr h₀ L h (LMap vl way tw u) → News h₀ L h ((I + 1, oE) :: (I, oI) :: (yc, oy) :: news) →
      wpAny (model prog w) A (assign (.Tuple elts k pos) env (.ref T)) (fun _ s₂ => wpAny (model prog w) A (execs body env)
        (LPost h₀ L vl way tw I oE oI yc news { s with heap := h, toks := tk } Q) E s₂) E { s with heap := h, toks := tk })
    (done : ∀ u oy vy h tk, oy.data = .cell vy → Fr h₀ L h (LMap vl way tw u) → News h₀ L h ((yc, oy) :: news) → Q .next { s with heap := h, toks := tk }) :
    wpAny (model prog w) A (call (.type "enumerate") [.ref l]) (fun xv s₁ => wpAny (model prog w) A (pyIter xv) (fun it s₂ => TurnsAt prog w A h₀ env (.Tuple elts k pos) body Q E it s₂) E s₁) E s := by
  subst hL
  refine enum_own (vs := vs) (n := n) (fun _ m nx => ∃ oy vy u, oy.data = .cell vy ∧ nx = (yc, oy) :: news ∧ m = LMap vl way tw u) hh F N (.tail _ hm) rfl rfl ⟨oy, vy, m₀, hoy, rfl, lmap_self m1 m2⟩ ?_ ?_
  · rintro I i v m₁ nx h tk T t oE oI hI hv _ ⟨oy, vy, u, hoy, rfl, rfl⟩ hT F₁ N₁
    have hnI : NLt news I := fun p hp => hI p (.tail _ hp)
    have hyI : @LT.lt Nat _ yc I := hI _ (.head _)
    refine wpAny_mono (turn I i v u h tk T t oE oI oy vy hnI hyI hv hT hoy F₁ N₁) (fun _ s₂ h₂ => wpAny_mono h₂ (fun f s₃ p => ?_) fun _ _ e => e) fun _ _ e => e
    have fin : LPost h₀ env.locals vl way tw I oE oI yc news { s with heap := h, toks := tk } Q .next s₃ →
        UnrEndW h₀ env.locals { s with heap := h, toks := tk } [(I + 1, oE), (I, oI)] (fun m' n' => (l, listOf vs.toArray n) ∈ n' ∧ ∃ oy vy u, oy.data = .cell vy ∧ n' = (yc, oy) :: news ∧ m' = LMap vl way tw u) s₃ := by
      rintro ⟨h', tk', m', oy', vy', e, F', q1, q2, hoy', N'⟩
      refine ⟨h', tk', m', (yc, oy') :: news, e, F', N', ?_, .tail _ hm, oy', vy', m', hoy', rfl, lmap_self q1 q2⟩
      intro p hp q hq
      have hp' : @LT.lt Nat _ p.1 I := by
        rcases List.mem_cons.mp hp with rfl | hp
        · exact hyI
        · exact hnI p hp
      rcases List.mem_cons.mp hq with rfl | hq
      · exact Nat.ne_of_lt (Nat.lt_succ_of_lt hp')
      · rw [List.mem_singleton.mp hq]; exact Nat.ne_of_lt hp'
    cases f with
    | ret v => exact p
    | brk => exact p
    | next => exact fin p
    | cont => exact fin p
  · rintro m₁ nx h tk ⟨oy, vy, u, hoy, rfl, rfl⟩ F₁ N₁
    exact done u oy vy h tk hoy F₁ N₁
end
end
section
local macro_rules | `(tactic| k_ne) => `(tactic| (refine neN ?_; (try dsimp only); first | exact off1_l (by assumption) (by k_mem) | exact off1_r (by assumption) (by k_mem)))

section
def OrdEnd (h₀ : Heap) (L : Addr) (m : Str → Option Value) (s : Shared) (c : Nat) (T : List (Addr × Obj)) (y : Value) (s' : Shared) : Prop :=
  ∃ t h' tk, y = .int (c : Int) t ∧ s' = { s with heap := h', toks := tk } ∧ Fr h₀ L h' m ∧ News h₀ L h' T
theorem OrdEnd.intro {h₀ : Heap} {L : Addr} {m : Str → Option Value} {s : Shared} {c : Nat} {T : List (Addr × Obj)} {z : Int} {t : Tok} {h' : Heap} {tk : Nat} (hz : z = (c : Int)) (F : Fr h₀ L h' m) (N : News h₀ L h' T) : OrdEnd h₀ L m s c T (.int z t) { s with heap := h', toks := tk } :=
  ⟨t, h', tk, by rw [hz], rfl, F, N⟩
def EltOrd (prog : Program) (w : World) (A : Around) (h₀ : Heap) (L : Addr) (m : Str → Option Value) (cenv : Env) (elt : Expr) (x : Str) (C : Addr) (news : List (Addr × Obj)) (s : Shared) : Prop :=
  ∀ (c : Nat) u I oI oC D ys m₂ h tk (E' : Value → Shared → Prop), LCg.NsObj oC m₂ → m₂ x = some (.str ⟨#[c]⟩ u) → c < 128 → Fr h₀ L h m → News h₀ L h ((I, oI) :: (C, oC) :: (D, LCg.lst ys) :: news) →
    wpAny (model prog w) A (eval elt cenv) (OrdEnd h₀ L m s c ((I, oI) :: (C, oC) :: (D, LCg.lst ys) :: news)) E' { s with heap := h, toks := tk }
theorem ints_snoc {vs : List Value} {ns : List Int} {n : Int} {t : Tok} (h : IntsAre vs ns) : IntsAre (vs ++ [Value.int n t]) (ns ++ [n]) := by
  induction h with
  | nil => exact .cons _ _ .nil
  | cons a u _ ih => exact .cons a u ih
section
variable {prog : Program} {w : World} {A : Around} {E : Value → Shared → Prop} {s : Shared} {h₀ : Heap} {L : Addr} {m : Str → Option Value} {env : Env}
theorem ords_rest {elt : Expr} {x : Str} {scope : Scope} {cl : List (Str × Addr)} {l : List Nat} {news : List (Addr × Obj)} {Fin : List Value → List (Addr × Obj) → Prop} (hl : ∀ c ∈ l, c < 128)
    (he : ∀ C, EltOrd prog w A h₀ L m (compEnvC scope cl C env) elt x C news s) (fin : ∀ ys, IntsAre ys (l.map fun (c : Nat) => (c : Int)) → Fin ys news) :
    ∀ (k i : Nat) (ys : List Value), i + k = l.length → IntsAre ys ((l.take i).map fun (c : Nat) => (c : Int)) → LCg.CompRest prog w A h₀ L m env elt x scope cl s (fun nw => nw = news) (SignAt ⟨l.toArray⟩) Fin k i ys news := by
  intro k
  induction k with
  | zero =>
    intro i ys hi hys
    rw [show i = l.length by omega, List.take_length] at hys
    exact LCg.CompRest.zero (fin ys hys)
  | succ k ih =>
    intro i ys hi hys v I oI C oC D m₂ h tk E' hP hC hx F N off ne
    obtain ⟨c, u, hc, rfl⟩ := hP
    have hc' : l[i]? = some c := by simpa using hc
    refine wpAny_mono (he C c u I oI oC D ys m₂ h tk E' hC hx (hl c (List.mem_of_getElem? hc')) F N) (fun y s' hy => ?_) fun _ _ e => e
    obtain ⟨t, h', tk', rfl, rfl, F', N'⟩ := hy
    refine ⟨h', tk', news, rfl, F', N', off, rfl, ih (i + 1) _ (by omega) ?_⟩
    have e1 : l.take (i + 1) = l.take i ++ [c] := by rw [List.take_add_one, hc']; rfl
    rw [e1, List.map_append]
    exact ints_snoc hys
def OrdPost (prog : Program) (w : World) (A : Around) (h₀ : Heap) (L : Addr) (m : Str → Option Value) (env : Env) (elt : Expr) (x : Str) (scope : Scope) (cl : List (Str × Addr)) (Q : Value → Shared → Prop) (xv : Value) (s₁ : Shared) : Prop :=
  ∃ (l : List Nat) (t : Tok) (news : List (Addr × Obj)), xv = .str ⟨l.toArray⟩ t ∧ A.handled = none ∧ Fr h₀ L s₁.heap m ∧ News h₀ L s₁.heap news ∧ l.length ≤ 1000 ∧ (∀ c ∈ l, c < 128) ∧
    (∀ g C, EltOrd prog w A h₀ L m (compEnvC scope cl C env) elt x C news { s₁ with heap := g }) ∧
    ∀ D ys h' tk, Fr h₀ L h' m → News h₀ L h' ((D, LCg.lst ys) :: news) → IntsAre ys (l.map fun (c : Nat) => (c : Int)) → LCg.Off1 D news → Q (.ref D) { s₁ with heap := h', toks := tk }
theorem OrdPost.intro {elt : Expr} {x : Str} {scope : Scope} {cl : List (Str × Addr)} {Q : Value → Shared → Prop} {s₁ : Shared} {l : List Nat} {t : Tok} {news : List (Addr × Obj)} (hh : A.handled = none) (F : Fr h₀ L s₁.heap m) (N : News h₀ L s₁.heap news) (hl : l.length ≤ 1000) (ha : ∀ c ∈ l, c < 128)
    (he : ∀ g C, EltOrd prog w A h₀ L m (compEnvC scope cl C env) elt x C news { s₁ with heap := g })
    (fin : ∀ D ys h' tk, Fr h₀ L h' m → News h₀ L h' ((D, LCg.lst ys) :: news) → IntsAre ys (l.map fun (c : Nat) => (c : Int)) → LCg.Off1 D news → Q (.ref D) { s₁ with heap := h', toks := tk }) :
    OrdPost prog w A h₀ L m env elt x scope cl Q (.str ⟨l.toArray⟩ t) s₁ := ⟨l, t, news, rfl, hh, F, N, hl, ha, he, fin⟩
theorem comp_ords {elt iter : Expr} {x : Str} {px : Pos} {scope : Scope} {cl : List (Str × Addr)} {pos : Pos} {Q : Value → Shared → Prop} (_F₀ : Fr h₀ L s.heap m)
    (hclos : closureFor scope env = pure cl) (hcell : ∀ y ∈ scope.names, y.2 ≠ .cell) (hkind : scope.kind = .function)
    (hnames : ∀ y ∈ scope.names, y.2 = .local → scope.names.lookup y.1 = some .local) (hx : scope.names.lookup x = some .local)
    (h : wpAny (model prog w) A (eval iter env) (OrdPost prog w A h₀ L m env elt x scope cl Q) E s)
    (hs : ∀ x, foldedSetIterable iter env x = pure x := by intro _; rfl) :
    wpAny (model prog w) A (eval (.ListComp elt [⟨.Name x px, iter, [], 0⟩] scope pos) env) Q E s := by
  rw [eval_ListComp]
  refine wpAny_comprehension_free (use := none) rfl hs hclos hkind hnames (wpAny_mono h (fun xv s₁ h₁ => ?_) fun _ _ e => e)
  obtain ⟨l, t, news, rfl, hh, F, N, hsz, ha, he, fin⟩ := h₁
  have hall : (Str.mk l.toArray).cps.all (· < 128) = true := by
    rw [Array.all_eq_true]
    intro i hi
    simp only [decide_eq_true_eq]
    exact ha _ (by simp)
  refine wpAny_pyIter_ascii hall ?_
  have up : ∀ b o, s₁.heap.get? b = some o → (s₁.heap.push { cls := .type "str_ascii_iterator", data := .fields #[.str ⟨l.toArray⟩ t, .int 0 0] }).get? b = some o := fun b o e => Heap.get?_push_of_some _ e
  have hn : (Str.mk l.toArray).cps.size = l.length := by simp
  refine LCg.block_U (n := l.length) (S := fun nw => nw = news) (Fin := LCg.FinE h₀ L m s₁ Q) (hn ▸ Walks.strAscii hh s₁.heap.objs.size ⟨l.toArray⟩ t) (Nat.le_trans hsz (by rw [sizeLine_eq]; omega)) (fun i h st => by obtain ⟨o, e, _⟩ := st; exact ⟨o, e⟩)
    (fun i h h' o nw st e e' k N' S => by obtain ⟨o', q, r⟩ := st; rw [e] at q; cases q; exact ⟨o, e', r⟩) hcell hkind hx ⟨_, Heap.get?_push_size _ rfl, rfl, rfl⟩ (fun b hb => ?_)
    (F.keeps up) (N.grown up) (Nat.ne_of_lt F.ns.lt) (next_is_new F) (fun p hp => Nat.ne_of_lt (Heap.lt_size (N p hp).1)) rfl
    (ords_rest ha (he _) (fun ys hys D h tk F' N' o1 => fin D ys h tk F' N' hys o1) l.length 0 [] (by omega) .nil) ?_
  · show b < (s₁.heap.push _).objs.size
    rw [Heap.size_push]
    rw [List.mem_singleton.mp hb]; exact Nat.lt_succ_self _
  · intro D C h tk m' ys news' F' N' o1 hn hC₀ hD₀ hCL hDL hCD offC fin
    refine ⟨m', hn, fun h'' hs'' => fin D h'' tk (F'.change hs'' hCL hC₀) (fun p hp => ?_) o1⟩
    refine ⟨hs''.extBut _ _ ?_ (N' p hp).1, (N' p hp).2⟩
    rcases List.mem_cons.mp hp with rfl | hp
    · exact Ne.symm hCD
    · exact offC p hp
end
end
section
theorem c2_turn0 (elt t1 i1 t2 i2 : Expr) (scope : Scope) (pos : Pos) (it acc : Value) (env : Env) :
    compTurn (.ListComp elt [⟨t1, i1, [], 0⟩, ⟨t2, i2, [], 0⟩] scope pos) 0 it acc env = (standAt i1.pos >>= fun _ => pyNext it >>= fun r => match r with
      | none => pure (.done .next)
      | some v => letOwnedTupleGo t1 it v >>= fun _ => assign t1 env v >>= fun _ =>
        eval i2 env >>= fun x => standAt i2.pos >>= fun _ => foldedSetIterable i2 env x >>= fun x => holding [x] (pyIter x) >>= fun j => runOwn (.compStart (.ListComp elt [⟨t1, i1, [], 0⟩, ⟨t2, i2, [], 0⟩] scope pos) 1 j acc env) env >>= fun _ =>
          again (.compLoop (.ListComp elt [⟨t1, i1, [], 0⟩, ⟨t2, i2, [], 0⟩] scope pos) 0 it acc env)) := by rfl
theorem c2_turn1 (elt t1 i1 t2 i2 : Expr) (scope : Scope) (pos : Pos) (it acc : Value) (env : Env) :
    compTurn (.ListComp elt [⟨t1, i1, [], 0⟩, ⟨t2, i2, [], 0⟩] scope pos) 1 it acc env = (standAt i2.pos >>= fun _ => pyNext it >>= fun r => match r with
      | none => pure (.done .next)
      | some v => letOwnedTupleGo t2 it v >>= fun _ => assign t2 env v >>= fun _ =>
        (eval elt env >>= fun x => call (.builtin "list.append") [acc, x] >>= fun _ => pure ()) >>= fun _ =>
          again (.compLoop (.ListComp elt [⟨t1, i1, [], 0⟩, ⟨t2, i2, [], 0⟩] scope pos) 1 it acc env)) := by rfl
section
variable {prog : Program} {w : World} {A : Around} {E : Value → Shared → Prop} {R : Result → Shared → Prop} {s : Shared} {elt t1 i1 t2 i2 : Expr} {scope : Scope} {pos : Pos} {it acc : Value} {env : Env}
theorem c2_loop1 (I : Nat → Shared → Prop)
    (turn : ∀ n s, I n s → wpAny (model prog w) A (pyNext it) (fun r s₁ => match r with
      | none => R (.ok .next) s₁
      | some v => wpAny (model prog w) A (assign t2 env v) (fun _ s₂ => wpAny (model prog w) A (eval elt env) (fun x s₃ =>
          wpAny (model prog w) A (call (.builtin "list.append") [acc, x]) (fun _ s₄ => ∃ m, m < n ∧ I m s₄) (notedBy (model prog w) A env fun e s' => R (.error e) s') s₃)
          (notedBy (model prog w) A env fun e s' => R (.error e) s') s₂) (notedBy (model prog w) A env fun e s' => R (.error e) s') s₁) (notedBy (model prog w) A env fun e s' => R (.error e) s') s)
    (n : Nat) (h : I n s) (ht : ∀ v, letOwnedTupleGo t2 it v = pure () := by intro _; rfl) :
    codeAny (model prog w) A (.compLoop (.ListComp elt [⟨t1, i1, [], 0⟩, ⟨t2, i2, [], 0⟩] scope pos) 1 it acc env) R s := by
  refine codeAny_loop rfl I (fun n s hI => ?_) n h
  show wpAny _ _ ((compTurn (.ListComp elt [⟨t1, i1, [], 0⟩, ⟨t2, i2, [], 0⟩] scope pos) 1 it acc env).onRaise (fun x => do noteFrame x env; theTreesLotGoes x)) _ _ s
  refine wpAny_noted ?_
  rw [c2_turn1]
  refine wpAny_bind (wpAny_standAt (wpAny_bind (wpAny_mono (turn n s hI) (fun r s₁ h₁ => ?_) fun _ _ h' => h')))
  cases r with
  | none => exact wpAny_pure h₁
  | some v =>
    refine wpAny_bind (wpAny_of_eq (ht v) ?_)
    exact wpAny_bind (wpAny_mono h₁ (fun _ s₂ h₂ => wpAny_bind (wpAny_bind (wpAny_mono h₂ (fun x s₃ h₃ => wpAny_bind (wpAny_mono h₃
      (fun _ s₄ h₄ => wpAny_pure (wpAny_pure ⟨rfl, h₄⟩)) fun _ _ h' => h')) fun _ _ h' => h'))) fun _ _ h' => h')
theorem c2_loop0 (I : Nat → Shared → Prop)
    (turn : ∀ n s, I n s → wpAny (model prog w) A (pyNext it) (fun r s₁ => match r with
      | none => R (.ok .next) s₁
      | some v => wpAny (model prog w) A (assign t1 env v) (fun _ s₂ => wpAny (model prog w) A (eval i2 env) (fun x s₃ => wpAny (model prog w) A (pyIter x) (fun j s₄ =>
          codeAny (model prog w) (A.mark none) (.compStart (.ListComp elt [⟨t1, i1, [], 0⟩, ⟨t2, i2, [], 0⟩] scope pos) 1 j acc env) (fun r s' => match r with | .ok _ => ∃ m, m < n ∧ I m s' | .error e => cameBackBy (model prog w) A env (notedBy (model prog w) A env fun e s' => R (.error e) s') e s') s₄)
          (notedBy (model prog w) A env fun e s' => R (.error e) s') s₃) (notedBy (model prog w) A env fun e s' => R (.error e) s') s₂) (notedBy (model prog w) A env fun e s' => R (.error e) s') s₁) (notedBy (model prog w) A env fun e s' => R (.error e) s') s)
    (n : Nat) (h : I n s) (hs : ∀ x, foldedSetIterable i2 env x = pure x := by intro _; rfl) (ht : ∀ v, letOwnedTupleGo t1 it v = pure () := by intro _; rfl) :
    codeAny (model prog w) A (.compLoop (.ListComp elt [⟨t1, i1, [], 0⟩, ⟨t2, i2, [], 0⟩] scope pos) 0 it acc env) R s := by
  refine codeAny_loop rfl I (fun n s hI => ?_) n h
  show wpAny _ _ ((compTurn (.ListComp elt [⟨t1, i1, [], 0⟩, ⟨t2, i2, [], 0⟩] scope pos) 0 it acc env).onRaise (fun x => do noteFrame x env; theTreesLotGoes x)) _ _ s
  refine wpAny_noted ?_
  rw [c2_turn0]
  refine wpAny_bind (wpAny_standAt (wpAny_bind (wpAny_mono (turn n s hI) (fun r s₁ h₁ => ?_) fun _ _ h' => h')))
  cases r with
  | none => exact wpAny_pure h₁
  | some v =>
    refine wpAny_bind (wpAny_of_eq (ht v) ?_)
    refine wpAny_bind (wpAny_mono h₁ (fun _ s₂ h₂ => wpAny_bind (wpAny_mono h₂ (fun x s₃ h₃ => wpAny_bind (wpAny_standAt (wpAny_bind (wpAny_of_eq (hs x) (wpAny_bind (wpAny_holding (wpAny_mono h₃ (fun j s₄ h₄ => ?_) fun _ _ h' => h'))))))) fun _ _ h' => h')) fun _ _ h' => h')
    refine wpAny_bind (wpAny_runOwn (codeAny_mono h₄ fun r s' hr => ?_))
    cases r with
    | ok f => exact wpAny_pure ⟨rfl, hr⟩
    | error e => exact hr
theorem c2_start1
    (h : wpAny (model prog w) A (pyIter it) (fun it' s' => codeAny (model prog w) A (.compLoop (.ListComp elt [⟨t1, i1, [], 0⟩, ⟨t2, i2, [], 0⟩] scope pos) 1 it' acc env) R s')
      (notedBy (model prog w) A env fun x s' => R (.error x) s') s)
    (h0 : codeAny (model prog w) A (.compLoop (.ListComp elt [⟨t1, i1, [], 0⟩, ⟨t2, i2, [], 0⟩] scope pos) 1 it acc env) R s) :
    codeAny (model prog w) A (.compStart (.ListComp elt [⟨t1, i1, [], 0⟩, ⟨t2, i2, [], 0⟩] scope pos) 1 it acc env) R s := by
  refine codeAny_of_tree ?_
  show wpAny _ _ ((compStart (.ListComp elt [⟨t1, i1, [], 0⟩, ⟨t2, i2, [], 0⟩] scope pos) 1 it acc env).onRaise (fun x => do noteFrame x env; standAt theWindowsPlace)) _ _ s
  refine wpAny_notedAt ?_
  unfold compStart
  show wpAny _ _ (ask >>= _) _ _ s
  refine wpAny_bind (wpAny_askSetting (wpAny_ite ?_))
  split
  · first
      | exact wpAny_bind (wpAny_pure (wpAny_pure (And.intro rfl h0)))
      | exact wpAny_pure (And.intro rfl h0)
  · first
      | exact wpAny_bind (wpAny_rule (wpAny_bind (wpAny_standAt (wpAny_bind (wpAny_mono h (fun it' s' h' => wpAny_pure (And.intro rfl h')) fun _ _ x => x)))))
      | (refine wpAny_bind (wpAny_rule ?_); show wpAny _ _ (standAt i2.pos >>= _) _ _ s; exact wpAny_bind (wpAny_standAt (wpAny_bind (wpAny_mono h (fun it' s' h' => wpAny_pure (And.intro rfl h')) fun _ _ x => x))))
end
end
section
section
variable {h₀ h h' : Heap} {L X : Addr} {m : Str → Option Value} {T : List (Addr × Obj)} {o o' : Obj}
theorem news_mod (N : News h₀ L h T) (hs : ∀ b ob, b ≠ X → h.get? b = some ob → h'.get? b = some ob) (off : ∀ p ∈ T, p.1 ≠ X) : News h₀ L h' T :=
  fun p hp => ⟨hs _ _ (off p hp) (N p hp).1, (N p hp).2⟩
theorem fr_mod (F : Fr h₀ L h m) (hs : ∀ b ob, b ≠ X → h.get? b = some ob → h'.get? b = some ob) (hL : L ≠ X) (h0 : h₀.get? X = none) : Fr h₀ L h' m :=
  ⟨F.ns.at' fun o e => hs L o hL e, fun b o e => hs b o (fun q => by rw [q, h0] at e; cases e) (F.keep b o e), F.above⟩
theorem sb_old {d : Addr} (hs : Heap.SameBut d h h') : ∀ b ob, b ≠ d → h.get? b = some ob → h'.get? b = some ob := fun b ob hb e => hs.extBut b ob hb e
/-- the state of a two-clause comprehension -/
structure C2S (h₀ : Heap) (L : Addr) (m : Str → Option Value) (h : Heap) (I C D : Addr) (ys : List Value) (tups news : List (Addr × Obj)) (m₂ : Str → Option Value) : Prop where
  F : Fr h₀ L h m
  N : News h₀ L h (tups ++ news)
  nd : h.get? D = some (LCg.lst ys)
  nc : h.Ns C m₂
  off : ∀ p ∈ tups ++ news, p.1 ≠ I ∧ p.1 ≠ C ∧ p.1 ≠ D
  gt : ∀ p ∈ tups, D < p.1
structure C2N (h₀ : Heap) (L I C D : Addr) : Prop where
  ic : I ≠ C
  id : I ≠ D
  cd : C ≠ D
  il : L ≠ I
  cl : L ≠ C
  dl : L ≠ D
  i0 : h₀.get? I = none
  c0 : h₀.get? C = none
  d0 : h₀.get? D = none
/-- one object other than the list and the names has turned -/
theorem C2S.mod {I C D : Addr} {ys : List Value} {tups news : List (Addr × Obj)} {m₂ : Str → Option Value} (S : C2S h₀ L m h I C D ys tups news m₂) (hs : ∀ b ob, b ≠ X → h.get? b = some ob → h'.get? b = some ob) (hX : X ≠ C ∧ X ≠ D ∧ L ≠ X) (h0 : h₀.get? X = none) (off : ∀ p ∈ tups ++ news, p.1 ≠ X) : C2S h₀ L m h' I C D ys tups news m₂ :=
  ⟨fr_mod S.F hs hX.2.2 h0, news_mod S.N hs off, hs _ _ (Ne.symm hX.2.1) S.nd, S.nc.at' fun o e => hs _ o (Ne.symm hX.1) e, S.off, S.gt⟩
/-- a name is stored -/
theorem C2S.name {I C D : Addr} {ys : List Value} {tups news : List (Addr × Obj)} {m₂ m₃ : Str → Option Value} (W : C2N h₀ L I C D) (S : C2S h₀ L m h I C D ys tups news m₂) (hs : Heap.SameBut C h h') (hn : h'.Ns C m₃) : C2S h₀ L m h' I C D ys tups news m₃ :=
  ⟨fr_mod S.F (sb_old hs) W.cl W.c0, news_mod S.N (sb_old hs) fun p hp => (S.off p hp).2.1, sb_old hs _ _ (Ne.symm W.cd) S.nd, hn, S.off, S.gt⟩
/-- old objects all stay -/
theorem C2S.grow {I C D : Addr} {ys : List Value} {tups news : List (Addr × Obj)} {m₂ : Str → Option Value} (S : C2S h₀ L m h I C D ys tups news m₂) (hs : ∀ b ob, h.get? b = some ob → h'.get? b = some ob) : C2S h₀ L m h' I C D ys tups news m₂ :=
  ⟨S.F.keeps hs, S.N.grown hs, hs _ _ S.nd, S.nc.at' fun o e => hs _ o e, S.off, S.gt⟩
/-- an item is appended -/
theorem C2S.app {I C D : Addr} {ys : List Value} {tups news : List (Addr × Obj)} {m₂ : Str → Option Value} {y : Value} (W : C2N h₀ L I C D) (S : C2S h₀ L m h I C D ys tups news m₂) (hs : Heap.SameBut D h h') (hd : h'.get? D = some (LCg.lst (ys ++ [y]))) : C2S h₀ L m h' I C D (ys ++ [y]) tups news m₂ :=
  ⟨fr_mod S.F (sb_old hs) W.dl W.d0, news_mod S.N (sb_old hs) fun p hp => (S.off p hp).2.2, hd, S.nc.at' fun o e => sb_old hs _ o W.cd e, S.off, S.gt⟩
end
end
section
section
variable {prog : Program} {w : World} {A : Around} {E : Value → Shared → Prop} {s : Shared} {h₀ : Heap} {L : Addr} {m : Str → Option Value} {env : Env}
/-- the element only makes one tuple -/
def EltPost (h₀ : Heap) (L : Addr) (m : Str → Option Value) (s : Shared) (z a b : Int) (C : Addr) (oC : Obj) (T : List (Addr × Obj)) (y : Value) (s' : Shared) : Prop :=
  ∃ q h' tk' t1 t2 t3 k, y = .ref q ∧ s' = { s with heap := h', toks := tk' } ∧ Fr h₀ L h' m ∧ News h₀ L h' ((q, tupOf #[.int a t1, .int b t2, .int (z - a - b) t3] k) :: (C, oC) :: T) ∧ (∀ p ∈ (C, oC) :: T, p.1 < q)
theorem EltPost.intro {h₀ : Heap} {L : Addr} {m : Str → Option Value} {s : Shared} {z a b c : Int} {C : Addr} {oC : Obj} {T : List (Addr × Obj)} {q : Addr} {h' : Heap} {tk' : Nat} {t1 t2 t3 : Tok} {k : Nat}
    (F : Fr h₀ L h' m) (N : News h₀ L h' ((q, tupOf #[.int a t1, .int b t2, .int c t3] k) :: (C, oC) :: T)) (hl : ∀ p ∈ (C, oC) :: T, p.1 < q) (hc : c = z - a - b) : EltPost h₀ L m s z a b C oC T (.ref q) { s with heap := h', toks := tk' } :=
  ⟨q, h', tk', t1, t2, t3, k, rfl, rfl, F, hc ▸ N, hl⟩
def EltOk (prog : Program) (w : World) (A : Around) (h₀ : Heap) (L : Addr) (m : Str → Option Value) (cenv : Env) (elt : Expr) (xa xb : Str) (z : Int) (C : Addr) (news : List (Addr × Obj)) (s : Shared) : Prop :=
  ∀ (a b : Int) ta tb oC m₂ T h tk (E' : Value → Shared → Prop), 0 ≤ a → a ≤ 1024 → 0 ≤ b → b ≤ 1024 → LCg.NsObj oC m₂ → m₂ xa = some (.int a ta) → m₂ xb = some (.int b tb) → Fr h₀ L h m → News h₀ L h ((C, oC) :: T) → (∀ p ∈ news, p ∈ T) →
    wpAny (model prog w) A (eval elt cenv) (EltPost h₀ L m s z a b C oC T) E' { s with heap := h, toks := tk }
def dealD (z a b : Int) : Dat := .tuple [.int a, .int b, .int (z - a - b)]
theorem c2_inner {elt i1 i2 : Expr} {xa xb : Str} {pa pb : Pos} {scope : Scope} {pos : Pos} {cenv : Env} {R : Result → Shared → Prop} {I C D J : Addr} {ys : List Value} {tups news : List (Addr × Obj)} {m₂ : Str → Option Value} {oI : Obj} {z a : Int} {ta : Tok} {n : Nat} {ds : List Dat}
    (hh : A.handled = none) (hC : cenv.locals = C) (hxb : cenv.kindOf xb = some .local) (hp : (cenv.scope.kind == .class || (cenv.scope.kind == .module && cenv.locals != cenv.globals)) = false) (hab : xa ≠ xb)
    (W : C2N h₀ L I C D) (S : C2S h₀ L m s.heap I C D ys tups news m₂) (hI : s.heap.get? I = some oI) (hJ : IsRangeIter s.heap J 1 (n : Int) 1) (hJn : J ≠ I ∧ J ≠ C ∧ J ≠ D ∧ L ≠ J) (hJ0 : h₀.get? J = none) (hJt : ∀ p ∈ tups ++ news, p.1 ≠ J) (hDJ : D < J)
    (ha : m₂ xa = some (.int a ta)) (hd : DatAll tups ys ds) (hsz : ys.length + n ≤ sizeLine) (hn : n ≤ 1000) (ha0 : 0 ≤ a) (ha1 : a ≤ 1024)
    (helt : EltOk prog w A h₀ L m cenv elt xa xb z C news s)
    (done : ∀ h tk ys' tups' m₃ ta', C2S h₀ L m h I C D ys' tups' news m₃ → h.get? I = some oI → m₃ xa = some (.int a ta') → DatAll tups' ys' (ds ++ (List.range n).map fun (i : Nat) => dealD z a (1 + (i : Int) * 1)) → ys'.length = ys.length + n → R (.ok .next) { s with heap := h, toks := tk }) :
    codeAny (model prog w) A (.compLoop (.ListComp elt [⟨.Name xa pa, i1, [], 0⟩, ⟨.Name xb pb, i2, [], 0⟩] scope pos) 1 (.ref J) (.ref D) cenv) R s := by
  have Wr : Walks prog w A J [J] [J] n (fun i v => ∃ t, v = .int (1 + i * 1) t) (fun i h => IsRangeIter h J (1 + (i : Nat) * 1) ((n : Int) - (i : Nat)) 1) := Walks.range hh J 1 1 n
  refine c2_loop1
    (fun k s' => ∃ h' tk i ys' tups' m₃ ta', s' = { s with heap := h', toks := tk } ∧ i ≤ n ∧ k = n + 1 - i ∧ ys'.length = ys.length + i ∧ IsRangeIter h' J (1 + (i : Nat) * 1) ((n : Int) - (i : Nat)) 1 ∧ C2S h₀ L m h' I C D ys' tups' news m₃ ∧ h'.get? I = some oI ∧ m₃ xa = some (.int a ta') ∧
      DatAll tups' ys' (ds ++ (List.range i).map fun (i : Nat) => dealD z a (1 + (i : Int) * 1)) ∧ (∀ p ∈ tups' ++ news, p.1 ≠ J)) ?_ (n + 1)
    ⟨s.heap, s.toks, 0, ys, tups, m₂, ta, rfl, Nat.zero_le _, rfl, rfl, by simpa using hJ, S, hI, ha, by simpa using hd, hJt⟩
  rintro k s' ⟨h', tk, i, ys', tups', m₃, ta', rfl, hi, rfl, hyl, hJ', S', hI', ha', hd', hJt'⟩
  by_cases hlt : i < n
  · refine Wr.item i _ _ _ hlt hJ' fun v h₂ tk₂ hPv hst₂ hk₂ => ?_
    obtain ⟨tb, rfl⟩ := hPv
    have hk₂' : ∀ b ob, b ≠ J → h'.get? b = some ob → h₂.get? b = some ob := fun b ob hb e => hk₂ b ob (by simpa using hb) e
    have S₂ := S'.mod hk₂' ⟨hJn.2.1, hJn.2.2.1, hJn.2.2.2⟩ hJ0 hJt'
    refine wpAny_assign_Name (wpAny_storeName_local hxb (hC ▸ S₂.nc) (fun h₃ hn₃ hs₃ => ?_) hp)
    rw [hC] at hn₃ hs₃
    have S₃ := S₂.name W hs₃ hn₃
    have hJ₃ : IsRangeIter h₃ J (1 + ((i + 1 : Nat) : Nat) * 1) ((n : Int) - ((i + 1 : Nat) : Nat)) 1 := sb_old hs₃ _ _ hJn.2.1 hst₂
    have hI₃ : h₃.get? I = some oI := sb_old hs₃ _ _ W.ic (hk₂' _ _ (Ne.symm hJn.1) hI')
    obtain ⟨oC, heC, hoC⟩ := LCg.ns_obj S₃.nc
    obtain ⟨oJ, heJ⟩ : ∃ oJ, h₃.get? J = some oJ := ⟨_, hJ₃⟩
    have N₃ : News h₀ L h₃ ((C, oC) :: (I, oI) :: (J, oJ) :: (D, LCg.lst ys') :: (tups' ++ news)) := by
      intro p hp
      rcases List.mem_cons.mp hp with rfl | hp
      · exact ⟨heC, Ne.symm W.cl, W.c0⟩
      · rcases List.mem_cons.mp hp with rfl | hp
        · exact ⟨hI₃, Ne.symm W.il, W.i0⟩
        · rcases List.mem_cons.mp hp with rfl | hp
          · exact ⟨heJ, Ne.symm hJn.2.2.2, hJ0⟩
          · rcases List.mem_cons.mp hp with rfl | hp
            · exact ⟨S₃.nd, Ne.symm W.dl, W.d0⟩
            · exact S₃.N p hp
    refine wpAny_mono (helt a (1 + (i : Int) * 1) ta' tb oC _ _ h₃ _ _ ha0 ha1 (by lia) (by lia) hoC (by rw [if_neg hab]; exact ha') (by rw [if_pos rfl]) S₃.F N₃ (fun p hp => .tail _ (.tail _ (.tail _ (List.mem_append.mpr (.inr hp)))))) (fun y s₄ h₄ => ?_) fun _ _ e => e
    obtain ⟨q, h₄, tk₄, t1, t2, t3, kk, rfl, rfl, F₄, N₄, hq⟩ := h₄
    have g : ∀ p ∈ (C, oC) :: (I, oI) :: (J, oJ) :: (D, LCg.lst ys') :: (tups' ++ news), h₄.get? p.1 = some p.2 := fun p hp => (N₄ p (.tail _ hp)).1
    have hqC := hq (C, oC) (.head _)
    have hqI := hq (I, oI) (.tail _ (.head _))
    have hqJ := hq (J, oJ) (.tail _ (.tail _ (.head _)))
    have hqD := hq (D, LCg.lst ys') (.tail _ (.tail _ (.tail _ (.head _))))
    have S₄ : C2S h₀ L m h₄ I C D ys' ((q, tupOf #[.int a t1, .int (1 + (i : Int) * 1) t2, .int (z - a - (1 + (i : Int) * 1)) t3] kk) :: tups') news _ :=
      ⟨F₄, fun p hp => N₄ p (by
          rcases List.mem_cons.mp hp with rfl | hp
          · exact .head _
          · exact .tail _ (.tail _ (.tail _ (.tail _ (.tail _ hp))))), g (D, LCg.lst ys') (.tail _ (.tail _ (.tail _ (.head _)))), hoC.ns (g (C, oC) (.head _)), fun p hp => by
          rcases List.mem_cons.mp hp with rfl | hp
          · exact ⟨Ne.symm (Nat.ne_of_lt hqI), Ne.symm (Nat.ne_of_lt hqC), Ne.symm (Nat.ne_of_lt hqD)⟩
          · exact S₃.off p hp, fun p hp => by
          rcases List.mem_cons.mp hp with rfl | hp
          · exact hqD
          · exact S₃.gt p hp⟩
    refine append_at (hsz := by show ys'.toArray.size ≤ sizeLine; rw [List.size_toArray, hyl]; lia) S₄.nd fun h₅ hs₅ hD₅ => ?_
    rw [LCg.lst_snoc] at hD₅
    have S₅ := S₄.app W hs₅ hD₅
    refine ⟨n + 1 - (i + 1), by lia, h₅, tk₄, i + 1, _, _, _, ta', rfl, hlt, rfl, by rw [List.length_append, List.length_singleton, hyl]; lia, sb_old hs₅ _ _ hJn.2.2.1 ((g (J, oJ) (.tail _ (.tail _ (.head _)))).trans (heJ.symm.trans hJ₃)), S₅, sb_old hs₅ _ _ W.id (g (I, oI) (.tail _ (.head _))), by rw [if_neg hab]; exact ha', ?_, fun p hp => ?_⟩
    · rw [List.range_succ, List.map_append, List.map_singleton, ← List.append_assoc]
      exact DatAll.append (hd'.mono fun p hp => .tail _ hp) (.one (.tuple (vs := [_, _, _]) (.head _) (.cons (.int _ _) (.cons (.int _ _) (.cons (.int _ _) .nil)))))
    · rcases List.mem_cons.mp hp with rfl | hp
      · exact Ne.symm (Nat.ne_of_lt hqJ)
      · exact hJt' p hp
  · obtain rfl : i = n := Nat.le_antisymm hi (Nat.not_lt.mp hlt)
    refine Wr.done _ _ _ hJ' fun h₂ tk₂ hk₂ => ?_
    have hk₂' : ∀ b ob, b ≠ J → h'.get? b = some ob → h₂.get? b = some ob := fun b ob hb e => hk₂ b ob (by simpa using hb) e
    exact done h₂ tk₂ ys' tups' m₃ ta' (S'.mod hk₂' ⟨hJn.2.1, hJn.2.2.1, hJn.2.2.2⟩ hJ0 hJt') (hk₂' _ _ (Ne.symm hJn.1) hI') ha' hd' hyl
end
end
section
section
variable {prog : Program} {w : World} {A : Around} {E : Value → Shared → Prop} {s : Shared} {h₀ : Heap} {L : Addr} {m : Str → Option Value} {env : Env}
theorem small1 {z : Int} (h : 0 ≤ z ∧ z ≤ 100) : Builtin.Range.small 1 z 1 = true := by
  obtain ⟨n, rfl⟩ := Int.eq_ofNat_of_zero_le h.1
  have hn : n ≤ 100 := by lia
  have : ∀ n : Fin 101, Builtin.Range.small 1 ((n : Nat) : Int) 1 = true := by decide
  exact this ⟨n, by lia⟩
/-- the second clause's range -/
def It2Post (h₀ : Heap) (L : Addr) (m : Str → Option Value) (s : Shared) (z a : Int) (T : List (Addr × Obj)) (y : Value) (s' : Shared) : Prop :=
  ∃ r h' tk' t u v, y = .ref r ∧ s' = { s with heap := h', toks := tk' } ∧ Fr h₀ L h' m ∧ News h₀ L h' T ∧ IsRange h' r 1 (z - a) 1 t u v
theorem It2Post.intro {h₀ : Heap} {L : Addr} {m : Str → Option Value} {s : Shared} {z a c : Int} {T : List (Addr × Obj)} {r : Addr} {h' : Heap} {tk' : Nat} {t u v : Tok}
    (F : Fr h₀ L h' m) (N : News h₀ L h' T) (hr : IsRange h' r 1 c 1 t u v) (hc : c = z - a) : It2Post h₀ L m s z a T (.ref r) { s with heap := h', toks := tk' } := ⟨r, h', tk', t, u, v, rfl, rfl, F, N, hc ▸ hr⟩
def It2Ok (prog : Program) (w : World) (A : Around) (h₀ : Heap) (L : Addr) (m : Str → Option Value) (cenv : Env) (i2 : Expr) (xa : Str) (z : Int) (C : Addr) (news : List (Addr × Obj)) (s : Shared) : Prop :=
  ∀ (a : Int) ta oC m₂ T h tk (E' : Value → Shared → Prop), 0 ≤ a → a ≤ 1024 → LCg.NsObj oC m₂ → m₂ xa = some (.int a ta) → Fr h₀ L h m → News h₀ L h ((C, oC) :: T) → (∀ p ∈ news, p ∈ T) →
    wpAny (model prog w) A (eval i2 cenv) (It2Post h₀ L m s z a ((C, oC) :: T)) E' { s with heap := h, toks := tk }
def dealsTo (N i : Nat) : List Dat := (List.range i).flatMap fun i => (List.range (N - i)).map fun (j : Nat) => dealD ((N : Int) + 2) (1 + (i : Int) * 1) (1 + (j : Int) * 1)
theorem dealsTo_succ (N i : Nat) : dealsTo N (i + 1) = dealsTo N i ++ (List.range (N - i)).map fun (j : Nat) => dealD ((N : Int) + 2) (1 + (i : Int) * 1) (1 + (j : Int) * 1) := by
  simp [dealsTo, List.range_succ]
theorem comp_two_gen {use : Option (Value → Sem Unit)} {pos' : Pos} {elt i1 i2 : Expr} {xa xb : Str} {pa pb : Pos} {scope : Scope} {cl : List (Str × Addr)} {pos : Pos} {Q : Value → Shared → Prop}
    (hclos : closureFor scope env = pure cl) (hcell : ∀ y ∈ scope.names, y.2 ≠ .cell) (hkind : scope.kind = .function)
    (hnames : ∀ y ∈ scope.names, y.2 = .local → scope.names.lookup y.1 = some .local) (hxa : scope.names.lookup xa = some .local) (hxb : scope.names.lookup xb = some .local) (hab : xa ≠ xb)
    (h : wpAny (model prog w) A (eval i1 env) (fun xv s₁ => ∃ r, ∃ (N : Nat), ∃ news t u v, xv = .ref r ∧ A.handled = none ∧ Fr h₀ L s₁.heap m ∧ News h₀ L s₁.heap news ∧ IsRange s₁.heap r 1 ((N : Int) + 1) 1 t u v ∧ N ≤ 60 ∧
      (∀ C, It2Ok prog w A h₀ L m (compEnvC scope cl C env) i2 xa ((N : Int) + 2) C news s₁) ∧ (∀ C, EltOk prog w A h₀ L m (compEnvC scope cl C env) elt xa xb ((N : Int) + 2) C news s₁) ∧
      ∀ I C D ys tups m₃ h' tk', C2N h₀ L I C D → C2S h₀ L m h' I C D ys tups news m₃ → DatAll tups ys (dealsTo N N) → (∀ p ∈ news, @LT.lt Nat _ p.1 D) → compPost (model prog w) A E use Q (.ref D) C (.ok .next) { s₁ with heap := h', toks := tk' }) E s)
    (hs : ∀ x, foldedSetIterable i1 env x = pure x := by intro _; rfl) (hs2 : ∀ env x, foldedSetIterable i2 env x = pure x := by intro _ _; rfl) :
    wpAny (model prog w) A (comprehension (.ListComp elt [⟨.Name xa pa, i1, [], 0⟩, ⟨.Name xb pb, i2, [], 0⟩] scope pos) scope env pos' (newList []) false (eval i1 env) use) Q E s := by
  refine wpAny_comprehension_free (use := use) rfl hs hclos hkind hnames (wpAny_mono h (fun xv s₁ h₁ => ?_) fun _ _ e => e)
  obtain ⟨r, n, news, t, u, v, rfl, hh, F, N, hr, hN, hI2, hEl, fin⟩ := h₁
  refine wpAny_pyIter_range hr (small1 (by lia)) ?_
  have hrs : Builtin.Range.rangeSize 1 ((n : Int) + 1) 1 = (n : Int) := by
    unfold Builtin.Range.rangeSize; simp; try lia
  rw [hrs]
  have hsz1 : ∀ a, s₁.heap.objs.size ≤ a → s₁.heap.get? a = none := fun a ha => by
    cases e : s₁.heap.get? a with
    | none => rfl
    | some o' => exact absurd (Heap.lt_size e) (Nat.not_lt.mpr ha)
  have fresh₀ : ∀ a, s₁.heap.objs.size ≤ a → h₀.get? a = none := fun a ha => by
    cases e : h₀.get? a with
    | none => rfl
    | some o' => have := F.keep a o' e; rw [hsz1 a ha] at this; cases this
  have hLlt : @LT.lt Nat _ L s₁.heap.objs.size := F.ns.lt
  have hnlt : ∀ p ∈ news, @LT.lt Nat _ p.1 s₁.heap.objs.size := fun p hp => Heap.lt_size (N p hp).1
  refine wpAny_newObj_type (wpAny_newFunctionEnv hcell (by intro y hy; simp at hy) (fun h₁ hns₁ hsb₁ => ?_) hkind)
  dsimp only at hns₁ hsb₁ ⊢
  generalize hI : s₁.heap.objs.size = I at *
  generalize hH1 : s₁.heap.push { cls := .type "range_iterator", data := .fields #[rawInt 1, rawInt (n : Int), rawInt 1] } = H1 at hns₁ hsb₁ ⊢
  have hD : H1.objs.size = I + 1 := by rw [← hH1, Heap.size_push, hI]
  generalize hDD : H1.objs.size = D at *
  generalize hH2 : H1.push { cls := .type "list", dict := none, data := .seq ([] : List Value).toArray } = H2 at hns₁ hsb₁ ⊢
  have hC : H2.objs.size = I + 2 := by rw [← hH2, Heap.size_push, hDD, hD]
  generalize hCC : H2.objs.size = C at *
  have up : ∀ b o, s₁.heap.get? b = some o → h₁.get? b = some o := fun b o e => by
    have hb : @LT.lt Nat _ b s₁.heap.objs.size := Heap.lt_size e; rw [hI] at hb
    exact hsb₁.extBut b o (show @Ne Nat _ _ by lia) (Heap.get?_push_of_some _ (hH2 ▸ Heap.get?_push_of_some _ (hH1 ▸ Heap.get?_push_of_some _ e)))
  have eI : IsRangeIter h₁ I 1 (n : Int) 1 := hsb₁.extBut I _ (show @Ne Nat _ _ by lia) (Heap.get?_push_of_some _ (hH2 ▸ Heap.get?_push_of_some _ (hH1 ▸ hI ▸ Heap.get?_push_size _ rfl)))
  have eD : h₁.get? D = some (LCg.lst []) := hsb₁.extBut _ _ (show @Ne Nat _ _ by lia) (Heap.get?_push_of_some _ (hH2 ▸ hDD ▸ Heap.get?_push_size _ rfl))
  have W : C2N h₀ L I C D := ⟨(show @Ne Nat _ _ by lia), (show @Ne Nat _ _ by lia), (show @Ne Nat _ _ by lia), (show @Ne Nat _ _ by lia), (show @Ne Nat _ _ by lia), (show @Ne Nat _ _ by lia), fresh₀ _ (show @LE.le Nat _ _ _ by lia), fresh₀ _ (show @LE.le Nat _ _ _ by lia), fresh₀ _ (show @LE.le Nat _ _ _ by lia)⟩
  have S₀ : C2S h₀ L m h₁ I C D [] [] news _ := ⟨F.keeps up, N.grown up, eD, hns₁, fun p hp => by have := hnlt p hp; exact ⟨(show @Ne Nat _ _ by lia), (show @Ne Nat _ _ by lia), (show @Ne Nat _ _ by lia)⟩, fun p hp => by cases hp⟩
  have Wr : Walks prog w A I [I] [I] n (fun i v => ∃ t, v = .int (1 + i * 1) t) (fun i h => IsRangeIter h I (1 + (i : Nat) * 1) ((n : Int) - (i : Nat)) 1) := Walks.range hh I 1 1 n
  have st0 : IsRangeIter h₁ I (1 + ((0 : Nat) : Int) * 1) ((n : Int) - ((0 : Nat) : Int)) 1 := by simpa using eI
  have loop : codeAny (model prog w) A (.compLoop (.ListComp elt [⟨.Name xa pa, i1, [], 0⟩, ⟨.Name xb pb, i2, [], 0⟩] scope pos) 0 (.ref I) (.ref D) (compEnvC scope cl C env))
      (compPost (model prog w) A E use Q (.ref D) C) { s₁ with heap := h₁, toks := s₁.toks + ([] : List (Str × Value)).length } := by
    refine c2_loop0
      (fun k s' => ∃ h' tk i ys' tups' m₃, s' = { s₁ with heap := h', toks := tk } ∧ i ≤ n ∧ k = n + 1 - i ∧ ys'.length ≤ i * 60 ∧ IsRangeIter h' I (1 + (i : Nat) * 1) ((n : Int) - (i : Nat)) 1 ∧ C2S h₀ L m h' I C D ys' tups' news m₃ ∧ DatAll tups' ys' (dealsTo n i)) ?_ (n + 1)
      ⟨h₁, _, 0, [], [], _, rfl, Nat.zero_le _, rfl, Nat.zero_le _, st0, S₀, .nil⟩ (hs2 _)
    rintro k s' ⟨h', tk, i, ys', tups', m₃, rfl, hi, rfl, hyl, hI', S', hd'⟩
    by_cases hlt : i < n
    · refine Wr.item i _ _ _ hlt hI' fun v h₂ tk₂ hPv hst₂ hk₂ => ?_
      obtain ⟨ta, rfl⟩ := hPv
      have hk₂' : ∀ b ob, b ≠ I → h'.get? b = some ob → h₂.get? b = some ob := fun b ob hb e => hk₂ b ob (by simpa using hb) e
      have S₂ := S'.mod hk₂' ⟨W.ic, W.id, W.il⟩ W.i0 (fun p hp => (S'.off p hp).1)
      refine wpAny_assign_Name (wpAny_storeName_local (lookup_relabel_local hxa) S₂.nc (fun h₃ hn₃ hs₃ => ?_) (by simp [compEnvC, relabel, hkind]))
      have S₃ := S₂.name W hs₃ hn₃
      have hI₃ : IsRangeIter h₃ I (1 + ((i + 1 : Nat) : Nat) * 1) ((n : Int) - ((i + 1 : Nat) : Nat)) 1 := sb_old hs₃ _ _ W.ic hst₂
      obtain ⟨oC, heC, hoC⟩ := LCg.ns_obj S₃.nc
      obtain ⟨oI, heI⟩ : ∃ oI, h₃.get? I = some oI := ⟨_, hI₃⟩
      have N₃ : News h₀ L h₃ ((C, oC) :: (I, oI) :: (D, LCg.lst ys') :: (tups' ++ news)) := by
        intro p hp
        rcases List.mem_cons.mp hp with rfl | hp
        · exact ⟨heC, Ne.symm W.cl, W.c0⟩
        · rcases List.mem_cons.mp hp with rfl | hp
          · exact ⟨heI, Ne.symm W.il, W.i0⟩
          · rcases List.mem_cons.mp hp with rfl | hp
            · exact ⟨S₃.nd, Ne.symm W.dl, W.d0⟩
            · exact S₃.N p hp
      refine wpAny_mono (hI2 C (1 + (i : Int) * 1) ta oC _ _ h₃ _ _ (by lia) (by lia) hoC (by rw [if_pos rfl]) S₃.F N₃ (fun p hp => .tail _ (.tail _ (List.mem_append.mpr (.inr hp))))) (fun y s₄ h₄ => ?_) fun _ _ e => e
      obtain ⟨q, h₄, tk₄, t4, u4, v4, rfl, rfl, F₄, N₄, hq⟩ := h₄
      have g : ∀ p ∈ (C, oC) :: (I, oI) :: (D, LCg.lst ys') :: (tups' ++ news), h₄.get? p.1 = some p.2 := fun p hp => (N₄ p hp).1
      refine wpAny_pyIter_range hq (small1 (by lia)) ?_
      have hrs4 : Builtin.Range.rangeSize 1 ((n : Int) + 2 - (1 + (i : Int) * 1)) 1 = ((n - i : Nat) : Int) := by
        unfold Builtin.Range.rangeSize; simp; try lia
      rw [hrs4]
      dsimp only
      have up5 : ∀ b o, h₄.get? b = some o → (h₄.push { cls := .type "range_iterator", data := .fields #[rawInt 1, rawInt ((n - i : Nat) : Int), rawInt 1] }).get? b = some o := fun b o e => Heap.get?_push_of_some _ e
      have lt4 : ∀ p ∈ (C, oC) :: (I, oI) :: (D, LCg.lst ys') :: (tups' ++ news), @LT.lt Nat _ p.1 h₄.objs.size := fun p hp => Heap.lt_size (g p hp)
      have lC := lt4 _ (.head _)
      have lI := lt4 _ (.tail _ (.head _))
      have lD := lt4 _ (.tail _ (.tail _ (.head _)))
      have lL : @LT.lt Nat _ L h₄.objs.size := F₄.ns.lt
      have eJ : IsRangeIter (h₄.push { cls := .type "range_iterator", data := .fields #[rawInt 1, rawInt ((n - i : Nat) : Int), rawInt 1] }) h₄.objs.size 1 ((n - i : Nat) : Int) 1 := Heap.get?_push_size _ rfl
      have fr4 := next_is_new F₄
      have S₄ : C2S h₀ L m h₄ I C D ys' tups' news _ := ⟨F₄, fun p hp => N₄ p (.tail _ (.tail _ (.tail _ hp))), g (D, LCg.lst ys') (.tail _ (.tail _ (.head _))), hoC.ns (g (C, oC) (.head _)), S₃.off, S₃.gt⟩
      have S₅ := S₄.grow up5
      have done5 : ∀ h tk ys₆ tups₆ m₆ ta₆, C2S h₀ L m h I C D ys₆ tups₆ news m₆ → h.get? I = some oI → m₆ xa = some (.int (1 + (i : Int) * 1) ta₆) → DatAll tups₆ ys₆ (dealsTo n i ++ (List.range (n - i)).map fun (j : Nat) => dealD ((n : Int) + 2) (1 + (i : Int) * 1) (1 + (j : Int) * 1)) → ys₆.length = ys'.length + (n - i) →
          ∃ k', k' < n + 1 - i ∧ ∃ h' tk' i' ys' tups' m₃, ({ s₁ with heap := h, toks := tk } : Shared) = { s₁ with heap := h', toks := tk' } ∧ i' ≤ n ∧ k' = n + 1 - i' ∧ ys'.length ≤ i' * 60 ∧ IsRangeIter h' I (1 + (i' : Nat) * 1) ((n : Int) - (i' : Nat)) 1 ∧ C2S h₀ L m h' I C D ys' tups' news m₃ ∧ DatAll tups' ys' (dealsTo n i') := by
        intro h tk ys₆ tups₆ m₆ ta₆ S₆ hI₆ _ hd₆ hl₆
        exact ⟨n + 1 - (i + 1), by lia, h, tk, i + 1, ys₆, tups₆, m₆, rfl, hlt, rfl, by lia, hI₆.trans (heI.symm.trans hI₃), S₆, by rw [dealsTo_succ]; exact hd₆⟩
      exact c2_start1 (A := A.mark none) (wpAny_pyIter_rangeiter eJ (c2_inner (A := A.mark none) hh rfl (lookup_relabel_local hxb) (by simp [compEnvC, relabel, hkind]) hab W S₅ (up5 _ _ (g (I, oI) (.tail _ (.head _)))) eJ
          ⟨(show @Ne Nat _ _ by lia), (show @Ne Nat _ C by lia), (show @Ne Nat _ _ by lia), (show @Ne Nat _ _ by lia)⟩ fr4 (fun p hp => Nat.ne_of_lt (lt4 p (.tail _ (.tail _ (.tail _ hp))))) lD (by rw [if_pos rfl]) hd' (by show _ ≤ 2 ^ 24; lia) (by lia) (by lia) (by lia) (hEl C) done5))
        (c2_inner (A := A.mark none) hh rfl (lookup_relabel_local hxb) (by simp [compEnvC, relabel, hkind]) hab W S₅ (up5 _ _ (g (I, oI) (.tail _ (.head _)))) eJ
          ⟨(show @Ne Nat _ _ by lia), (show @Ne Nat _ C by lia), (show @Ne Nat _ _ by lia), (show @Ne Nat _ _ by lia)⟩ fr4 (fun p hp => Nat.ne_of_lt (lt4 p (.tail _ (.tail _ (.tail _ hp))))) lD (by rw [if_pos rfl]) hd' (by show _ ≤ 2 ^ 24; lia) (by lia) (by lia) (by lia) (hEl C) done5)
    · obtain rfl : i = n := Nat.le_antisymm hi (Nat.not_lt.mp hlt)
      refine Wr.done _ _ _ hI' fun h₂ tk₂ hk₂ => ?_
      have hk₂' : ∀ b ob, b ≠ I → h'.get? b = some ob → h₂.get? b = some ob := fun b ob hb e => hk₂ b ob (by simpa using hb) e
      have S₂ := S'.mod hk₂' ⟨W.ic, W.id, W.il⟩ W.i0 (fun p hp => (S'.off p hp).1)
      exact fin I C D ys' tups' m₃ h₂ tk₂ W S₂ hd' (fun p hp => by have := hnlt p hp; show @LT.lt Nat _ _ _; lia)
  exact codeAny_compStart_list loop (Wr.self 0 _ _ _ st0 loop)
def TwoPost (prog : Program) (w : World) (A : Around) (h₀ : Heap) (L : Addr) (m : Str → Option Value) (env : Env) (elt i2 : Expr) (xa xb : Str) (scope : Scope) (cl : List (Str × Addr)) (y : Str) (Q : Flow → Shared → Prop) (xv : Value) (s₁ : Shared) : Prop :=
  ∃ r, ∃ (N : Nat), ∃ news t u v, xv = .ref r ∧ A.handled = none ∧ Fr h₀ L s₁.heap m ∧ News h₀ L s₁.heap news ∧ IsRange s₁.heap r 1 ((N : Int) + 1) 1 t u v ∧ N ≤ 60 ∧
      (∀ C, It2Ok prog w A h₀ L m (compEnvC scope cl C env) i2 xa ((N : Int) + 2) C news s₁) ∧ (∀ C, EltOk prog w A h₀ L m (compEnvC scope cl C env) elt xa xb ((N : Int) + 2) C news s₁) ∧
      ∀ D ys tups h' tk', Fr h₀ L h' (fun z => if z = y then some (.ref D) else m z) → News h₀ L h' ((D, LCg.lst ys) :: (tups ++ news)) → DatAll tups ys (dealsTo N N) → (∀ p ∈ tups, D < p.1) → (∀ p ∈ news, p.1 < D) → Q .next { s₁ with heap := h', toks := tk' }
theorem TwoPost.intro {prog : Program} {w : World} {A : Around} {h₀ : Heap} {L : Addr} {m : Str → Option Value} {env : Env} {elt i2 : Expr} {xa xb : Str} {scope : Scope} {cl : List (Str × Addr)} {y : Str} {Q : Flow → Shared → Prop} {r : Addr} {s₁ : Shared} {N : Nat} {news : List (Addr × Obj)} {z : Int} {t u v : Tok}
    (hh : A.handled = none) (F : Fr h₀ L s₁.heap m) (N₁ : News h₀ L s₁.heap news) (hr : IsRange s₁.heap r 1 z 1 t u v) (hz : z = (N : Int) + 1) (hN : N ≤ 60)
    (h2 : ∀ C, It2Ok prog w A h₀ L m (compEnvC scope cl C env) i2 xa ((N : Int) + 2) C news s₁) (he : ∀ C, EltOk prog w A h₀ L m (compEnvC scope cl C env) elt xa xb ((N : Int) + 2) C news s₁)
    (fin : ∀ D ys tups h' tk', Fr h₀ L h' (fun z => if z = y then some (.ref D) else m z) → News h₀ L h' ((D, LCg.lst ys) :: (tups ++ news)) → DatAll tups ys (dealsTo N N) → (∀ p ∈ tups, D < p.1) → (∀ p ∈ news, p.1 < D) → Q .next { s₁ with heap := h', toks := tk' }) :
    TwoPost prog w A h₀ L m env elt i2 xa xb scope cl y Q (.ref r) s₁ := ⟨r, N, news, t, u, v, rfl, hh, F, N₁, hz ▸ hr, hN, h2, he, fin⟩
theorem comp_two_asg {y : Str} {py spos : Pos} {elt i1 i2 : Expr} {xa xb : Str} {pa pb : Pos} {scope : Scope} {cl : List (Str × Addr)} {pos : Pos} {Q : Flow → Shared → Prop}
    (_F₀ : Fr h₀ L s.heap m) (hLe : env.locals = L) (hsw : swapsWith (.ListComp elt [⟨.Name xa pa, i1, [], 0⟩, ⟨.Name xb pb, i2, [], 0⟩] scope pos) (some (.Name y py)) spos.line env = pure true)
    (hy : env.kindOf y = some .local) (hp : (env.scope.kind == .class || (env.scope.kind == .module && env.locals != env.globals)) = false)
    (hclos : closureFor scope env = pure cl) (hcell : ∀ y ∈ scope.names, y.2 ≠ .cell) (hkind : scope.kind = .function)
    (hnames : ∀ y ∈ scope.names, y.2 = .local → scope.names.lookup y.1 = some .local) (hxa : scope.names.lookup xa = some .local) (hxb : scope.names.lookup xb = some .local) (hab : xa ≠ xb)
    (h : wpAny (model prog w) A (eval i1 env) (TwoPost prog w A h₀ L m env elt i2 xa xb scope cl y Q) E s)
    (hs : ∀ x, foldedSetIterable i1 env x = pure x := by intro _; rfl) (hs2 : ∀ env x, foldedSetIterable i2 env x = pure x := by intro _ _; rfl) :
    wpAny (model prog w) A (exec (.Assign [.Name y py] (.ListComp elt [⟨.Name xa pa, i1, [], 0⟩, ⟨.Name xb pb, i2, [], 0⟩] scope pos) spos) env) Q E s := by
  subst hLe
  rw [exec_Assign_Name_used _ _ _ _ hsw]
  refine wpAny_bind (wpAny_standAt (wpAny_bind ?_))
  show wpAny _ A (do let _ ← comprehension (.ListComp elt [⟨.Name xa pa, i1, [], 0⟩, ⟨.Name xb pb, i2, [], 0⟩] scope pos) scope env _ (newList []) false (eval i1 env) (some (assign (.Name y py) env))) _ _ s
  refine wpAny_bind (wpAny_mono (comp_two_gen (h₀ := h₀) (L := env.locals) (m := m) (use := some (assign (.Name y py) env)) (Q := fun _ s' => Q .next s') hclos hcell hkind hnames hxa hxb hab
    (wpAny_mono h (fun xv s₁ h₁ => ?_) fun _ _ e => e) hs hs2) (fun _ s' hq => wpAny_pure (wpAny_pure hq)) fun _ _ e => e)
  obtain ⟨r, N, news, t, u, v, rfl, hh, F, N₁, hr, hN, hI2, hEl, fin⟩ := h₁
  refine ⟨r, N, news, t, u, v, rfl, hh, F, N₁, hr, hN, hI2, hEl, ?_⟩
  intro I C D ys tups m₃ h' tk' W S₂ hd' hlt
  show wpAny _ A (assign (.Name y py) env (.ref D)) _ _ _
  refine wpAny_assign_Name (wpAny_storeName_local hy S₂.F.ns (fun h₂ hn₂ hs₂ => ?_) hp)
  have hL₀ : h₀.get? env.locals = none := Heap.get?_none_of_le S₂.F.above
  have F₂ : Fr h₀ env.locals h₂ (fun z => if z = y then some (.ref D) else m z) := ⟨hn₂, fun b o e => hs₂.extBut b o (fun q => by rw [q, hL₀] at e; cases e) (S₂.F.keep b o e), S₂.F.above⟩
  refine ⟨m₃, S₂.nc.sameBut hs₂ (Ne.symm W.cl), fun h'' hs'' => ?_⟩
  refine fin D ys tups h'' _ (fr_mod F₂ (sb_old hs'') W.cl W.c0) (fun p hp => ?_) hd' S₂.gt (fun p hp => hlt p hp)
  rcases List.mem_cons.mp hp with rfl | hp
  · exact ⟨sb_old hs'' _ _ (Ne.symm W.cd) (sb_old hs₂ _ _ (Ne.symm W.dl) S₂.nd), Ne.symm W.dl, W.d0⟩
  · exact news_mod (news_mod S₂.N (sb_old hs₂) (fun p hp => (S₂.N p hp).2.1)) (sb_old hs'') (fun p hp => (S₂.off p hp).2.1) p hp
end
end
section
theorem seat_ref {news : List (Addr × Obj)} {v : Value} {a b c : Int} (h : DatIn news v (.tuple [.int a, .int b, .int c])) : ∃ q ta tb tc k, v = .ref q ∧ (q, tupOf #[.int a ta, .int b tb, .int c tc] k) ∈ news := by
  cases h with
  | tuple hm hv =>
    cases hv with
    | cons h1 r1 =>
      cases h1 with
      | int _ ta =>
        cases r1 with
        | cons h2 r2 =>
          cases h2 with
          | int _ tb =>
            cases r2 with
            | cons h3 r3 =>
              cases h3 with
              | int _ tc =>
                cases r3
                exact ⟨_, ta, tb, tc, _, rfl, hm⟩
theorem steps_item {news : List (Addr × Obj)} {vs : List Value} {l : List Nat} {i : Nat} {v : Value} (h : DatAll news vs (stepsD l)) (hv : vs[i]? = some v) :
    i < l.length ∧ DatIn news v (seatD (l.take (i + 1))) := by
  have hl := h.length
  have hi : i < vs.length := (List.getElem?_eq_some_iff.mp hv).1
  have hlen : (stepsD l).length = l.length := by unfold stepsD; rw [List.length_map, List.length_range]
  have hi' : i < (stepsD l).length := hl ▸ hi
  obtain ⟨v', hv', hd⟩ := h.get hi'
  rw [hv] at hv'
  obtain rfl := Option.some.inj hv'
  refine ⟨hlen ▸ hi', ?_⟩
  have e : (stepsD l)[i]'hi' = seatD (l.take (i + 1)) := by simp [stepsD]
  rw [e] at hd
  exact hd
theorem in_deals {N : Nat} {A B C : Int} (hA : 1 ≤ A) (hB : 1 ≤ B) (hC : 1 ≤ C) (hs : A + B + C = (N : Int) + 2) : Dat.tuple [.int A, .int B, .int C] ∈ dealsTo N N := by
  unfold dealsTo
  refine List.mem_flatMap.mpr ⟨(A - 1).toNat, List.mem_range.mpr (by omega), List.mem_map.mpr ⟨(B - 1).toNat, List.mem_range.mpr (by omega), ?_⟩⟩
  unfold dealD
  rw [show (1 + (((A - 1).toNat : Nat) : Int) * 1) = A by omega, show (1 + (((B - 1).toNat : Nat) : Int) * 1) = B by omega, show (N : Int) + 2 - A - B = C by omega]
theorem of_deals {N : Nat} {d : Dat} (h : d ∈ dealsTo N N) : ∃ a b : Int, d = .tuple [.int a, .int b, .int ((N : Int) + 2 - a - b)] ∧ 1 ≤ a ∧ 1 ≤ b ∧ a + b + 1 ≤ (N : Int) + 2 := by
  unfold dealsTo at h
  obtain ⟨i, hi, h⟩ := List.mem_flatMap.mp h
  obtain ⟨j, hj, rfl⟩ := List.mem_map.mp h
  rw [List.mem_range] at hi hj
  exact ⟨_, _, rfl, by omega, by omega, by omega⟩
theorem deals_ok (N : Nat) : ∀ d ∈ dealsTo N N, kqdOk 8 d = true := fun d h => by
  obtain ⟨a, b, rfl, -, -, -⟩ := of_deals h
  rfl
theorem deal_item {T : List (Addr × Obj)} {vs : List Value} {N i : Nat} {v : Value} (h : DatAll T vs (dealsTo N N)) (hv : vs[i]? = some v) :
    ∃ q a b ta tb tc k, v = .ref q ∧ (q, tupOf #[.int a ta, .int b tb, .int ((N : Int) + 2 - a - b) tc] k) ∈ T ∧ 1 ≤ a ∧ 1 ≤ b ∧ a + b + 1 ≤ (N : Int) + 2 := by
  have hl := h.length
  have hi : i < vs.length := (List.getElem?_eq_some_iff.mp hv).1
  obtain ⟨v', hv', hd⟩ := h.get (show i < (dealsTo N N).length by omega)
  rw [hv] at hv'
  obtain rfl := Option.some.inj hv'
  obtain ⟨a, b, e, h1, h2, h3⟩ := of_deals (List.getElem_mem (show i < (dealsTo N N).length by omega))
  rw [e] at hd
  obtain ⟨q, ta, tb, tc, k, e', hm⟩ := seat_ref hd
  exact ⟨q, a, b, ta, tb, tc, k, e', hm, h1, h2, h3⟩
theorem costD_bd {u v x a b c way : Int} (hu0 : 0 ≤ u ∧ u ≤ 1280) (hv0 : 0 ≤ v ∧ v ≤ 1280) (hx0 : 0 ≤ x ∧ x ≤ 1280) (ha : 0 ≤ a ∧ a ≤ 1024) (hb : 0 ≤ b ∧ b ≤ 1024) (hc : 0 ≤ c ∧ c ≤ 1024) : 0 ≤ costD u v x a b c way ∧ costD u v x a b c way ≤ 2097152000 := by
  have key : ∀ {p q r : Int}, 0 ≤ p ∧ p ≤ 1280 → 0 ≤ q ∧ q ≤ 1280 → 0 ≤ r ∧ r ≤ 1280 → 0 ≤ p * q * r ∧ p * q * r ≤ 2097152000 := by
    intro p q r hp hq hr
    have a0 : 0 ≤ p * q := Int.mul_nonneg hp.1 hq.1
    have a1 : p * q ≤ 1280 * 1280 := Int.mul_le_mul hp.2 hq.2 hq.1 (by decide)
    have b1 : p * q * r ≤ 1280 * 1280 * 1280 := Int.mul_le_mul a1 hr.2 hr.1 (by decide)
    exact ⟨Int.mul_nonneg a0 hr.1, by omega⟩
  unfold costD
  split
  · exact key (by omega) (by omega) (by omega)
  · exact key (by omega) (by omega) (by omega)
theorem cost_fits {y u v x a b c way : Int} (hu0 : 0 ≤ u ∧ u ≤ 1280) (hv0 : 0 ≤ v ∧ v ≤ 1280) (hx0 : 0 ≤ x ∧ x ≤ 1280) (ha : 0 ≤ a ∧ a ≤ 1024) (hb : 0 ≤ b ∧ b ≤ 1024) (hc : 0 ≤ c ∧ c ≤ 1024) : IntMulOk y (costD u v x a b c way) :=
  PySem.IntMulOk.of_right (PySem.intBits_le_64 (by have := (costD_bd (way := way) hu0 hv0 hx0 ha hb hc).1; omega) (by have := (costD_bd (way := way) hu0 hv0 hx0 ha hb hc).2; omega))
section
variable {prog : Program} {w : World} {A : Around} {E : Value → Shared → Prop} {s : Shared} {h₀ : Heap} {L : Addr}
open Classical in
theorem seat_notIn {news n₁ n₂ : List (Addr × Obj)} {a : Addr} {oa : Obj} {xs : List Value} {ka N : Nat} {x : Value} {b c d : Int} {Q : Value → Shared → Prop} (N₀ : News h₀ L s.heap news) (ma : (a, oa) ∈ news) (ca : oa.cls = .type "list") (da : oa.data = .seq xs.toArray ka) (Da : DatAll n₁ xs (dealsTo N N)) (sa : ∀ p ∈ n₁, p ∈ news)
    (Dx : DatIn n₂ x (.tuple [.int b, .int c, .int d])) (sx : ∀ p ∈ n₂, p ∈ news) (hb : 1 ≤ b) (hc : 1 ≤ c) (hd : 1 ≤ d) (hs : b + c + d = (N : Int) + 2) (hu : A.units + 64 < cLine) (h : Q (.bool false) s) : wpAny (model prog w) A (compareOp .NotIn x (.ref a)) Q E s :=
  kqd_notIn N₀ ma ca da Da sa Dx sx (deals_ok N) rfl hu (by rw [decide_eq_true (in_deals hb hc hd hs)]; exact h)
end
theorem ipost_next {h₀ : Heap} {L : Addr} {x y z : Str} {m₀ m' : Str → Option Value} {news own news' : List (Addr × Obj)} {s : Shared} {Q : Flow → Shared → Prop} {h' : Heap} {tk : Nat}
    (F : Fr h₀ L h' m') (N : News h₀ L h' news') (hs : ∀ p ∈ news ++ own, p ∈ news') (hm : ∀ a, a ≠ x → a ≠ y → a ≠ z → m' a = m₀ a) : IPost h₀ L x y z m₀ news own s Q .next { s with heap := h', toks := tk } :=
  ⟨h', tk, m', news', rfl, F, N, hs, hm⟩
theorem lpost_next {h₀ : Heap} {L vl : Addr} {way : Int} {tw : Tok} {I : Addr} {oE oI oy' : Obj} {yc : Addr} {news : List (Addr × Obj)} {s : Shared} {Q : Flow → Shared → Prop} {h' : Heap} {tk : Nat} {m' : Str → Option Value} {vy' : Option Value}
    (F : Fr h₀ L h' m') (h1 : m' (Str.ofString "votes") = some (.ref vl)) (h2 : m' (Str.ofString "way") = some (.int way tw)) (hd : oy'.data = .cell vy') (N : News h₀ L h' ((I + 1, oE) :: (I, oI) :: (yc, oy') :: news)) :
    LPost h₀ L vl way tw I oE oI yc news s Q .next { s with heap := h', toks := tk } := ⟨h', tk, m', oy', vy', rfl, F, h1, h2, hd, N⟩
local macro_rules | `(tactic| k_mem) => `(tactic| ((with_reducible refine mem_of_mem ?_); ktn_app; first | (refine List.mem_append.mpr (Or.inl ?_); k_mem) | (refine List.mem_append.mpr (Or.inr ?_); k_mem)))
local macro_rules | `(tactic| mul_fits) => `(tactic| exact cost_fits (by omega) (by omega) (by omega) (by omega) (by omega) (by omega))
set_option rowWalk.seconds 100 in
set_option maxRecDepth 100000 in
set_option maxHeartbeats 400000000 in
theorem con_leastT {w : World} {u v x way : Int} {l : List Nat} (hu0 : 0 ≤ u ∧ u ≤ 1280) (hv0 : 0 ≤ v ∧ v ≤ 1280) (hx0 : 1 ≤ x ∧ x ≤ 1280) (hw0 : 0 ≤ way ∧ way ≤ 9) (hl6 : l.length ≤ 6) (hok : LeastOk u v x way l) (hsum : ∀ i, i < l.length → sA (l.take (i + 1)) + sB (l.take (i + 1)) + sC (l.take (i + 1)) = 4 + (i : Int)) :
  Con w 152 40
   (fun news vs => ∃ vl t1 t2 t3 n tw sl sn ss, vs = [.ref vl, .ref sl, .int way tw] ∧ (vl, listOf #[.int u t1, .int v t2, .int x t3] n) ∈ news ∧ (sl, listOf ss.toArray sn) ∈ news ∧ DatAll news ss (stepsD l))
   (fun _ => True) (fun _ => []) (fun _ : Unit => .bool true) := by
  unfold Con
  w_top off
  k_fill
  intro p loose mean mg mb dp un gd cn cs ca ccd cl outer A₀ base h₀ L m news s vs Q E B F X N T hk hR hd hu hret
  obtain ⟨vl, t1, t2, t3, n, tw, sl, sn, ss, rfl, hv, hs, hss⟩ := hR
  refine wpAny_call ?_
  k_dflt (refine' code_defC ?k1 ?k2 ?k3 ?k4 ?k5 ?kA ?kF ?kK ?k6 ?k7 ?k8 ?k9 ?kB ?kD ?_ ?c2 ?c3 ?c4; (case kA => exact rfl); (case kF => exact rfl); (case kK => assumption); (case k1 => k_asm); (case k2 => k_asm); (case k3 => k_asm); (case k4 => k_asm); (case k5 => k_asm); (case k6 => k_is); (case k7 => k_is); (case k8 => ktr_room); (case k9 => first | exact BindsTo.of_eq rfl | exact binds_K (by k_in) rfl (by k_is) rfl rfl rfl | fail "k_enter: no rule for these arguments"); (case kB => exact rfl); (case kD => decide +kernel); (case c2 => exact rfl); (case c3 => exact rfl); (case c4 => exact rfl); k_whole; intro g' L' h' tk' cells' FG' F' N' Y' B' X' T' l1; (have nlt9 := NLt.mk l1); (try k_lt l1); k_cells Y'; (try simp only [List.cons_append, List.nil_append] at N'); (try dsimp only); (try k_lift B'); (try k_fold))
  k_with_none
  k_with "CompRest" => (with_unfolding_all first | (refine LCg.CompRest.succ ?_; intro v' I' oI' C' oC' D' m' h' tk' E' hv' hC' hx' F' N' off' ne'; clear ne'; (first | lcg_open hv' | (obtain ⟨t9', hv9'⟩ := hv'; subst hv9')); (try k_sweep)) | refine LCg.CompRest.zero ?_)
  k_with "CompEnd" => (k_here; refine LCg.CompEnd.intro (by assumption) (by assumption) _ (fun _ h => h) (by assumption) (by first | k_mem | lcg_src) ?_; (rename LCg.Off3 _ _ _ _ => off9); clear off9)
  k_with "FinE" => ((unfold LCg.FinE); intro D' h' tk' F' N' o1'; (try simp only [List.nil_append, List.cons_append] at N'); (try dsimp only); (try k_sweep))
  k_with "eval ListComp" => (k_here; (with_reducible show wpAny _ _ (eval (Expr.ListComp _ [⟨_, Expr.Name (Str.ofString "seats") _, _, _⟩] _ _) _) _ _ _); k_dflt (refine comp_tup (F₀ := by k_asm) (by with_unfolding_all rfl) (by decide) (by rfl) (by decide) (by rfl) ?_); walk1; k_dflt (refine ⟨_, _, _, _, rfl, rfl, by k_asm, by k_asm, by k_mem, by first | size_fits | exact Nat.le_of_ble_eq_true rfl, ?_⟩); intro g'; lcg_lit)
  k_with "CompSrc" => (k_here; k_dflt (first | (refine LCg.CompSrc.ledger (by rfl) (by k_asm) (by k_asm) (by k_mem) (by first | size_fits | exact Nat.le_of_ble_eq_true rfl) ?_; intro g'; lcg_lit) | (refine LCg.CompSrc.range (by rfl) (by k_asm) (by k_asm) (by assumption) (by first | decide | rfl) (by first | rfl | decide) (by first | size_fits | exact Nat.le_of_ble_eq_true rfl) ?_; intro g'; lcg_lit)))
  k_with "exec For Tuple Call cons nil" => (k_here; (rename Fr _ _ _ _ => lF'); (with_unfolding_all refine' For_turns lF' ?_; k_whole))
  k_with "compareOp NotIn" => (k_here; (with_reducible show wpAny _ _ (compareOp CmpOp.NotIn _ (Value.ref _)) _ _ _); k_dflt (refine' seat_notIn ?Nz6 ?az6 ?bz6 ?cz6 ?dz6 ?ez6 ?xz6 ?yz6 ?l1z6 ?l2z6 ?l3z6 ?l4z6 ?nz6 ?_; (case Nz6 => k_asm); (case az6 => k_mem); (case bz6 => rfl); (case cz6 => rfl); (case dz6 => assumption); (case ez6 => intro p9 h9; kst_mem); (case xz6 => assumption); (case yz6 => intro p9 h9; kst_mem); (case l1z6 => assumption); (case l2z6 => assumption); (case l3z6 => assumption); (case l4z6 => omega); (case nz6 => ke_room); k_whole))
  k_with "call ref" => (k_here; (with_reducible show wpAny _ _ (call (Value.ref 147) _) _ _ _); k_dflt (refine' con_use (con_cost ?cb1z7 ?cb2z7 ?cb3z7 ?cb4z7 ?cb5z7 ?cb6z7 ?cb7z7) ?k1z7 ?k2z7 ?k3z7 ?k4z7 ?k5z7 ?kKz7 ?kRz7 ?kdz7 ?kuz7 ?_; (case k1z7 => k_asm); (case k2z7 => k_asm); (case k3z7 => k_asm); (case k4z7 => k_asm); (case k5z7 => k_asm); (case kKz7 => first | exact rfl | assumption); (case kRz7 => exact ⟨_, _, _, _, _, _, _, _, _, _, _, rfl, by k_mem, by k_mem⟩); (case kdz7 => ktr_room); (case kuz7 => ktr_units); (case cb1z7 => omega); (case cb2z7 => omega); (case cb3z7 => omega); (case cb4z7 => omega); (case cb5z7 => omega); (case cb6z7 => omega); (case cb7z7 => omega)); intro d9 h' tk' hP9 F' N' l'; obtain ⟨da9, dt9, du9⟩ := d9; clear hP9 l'; (try simp only [List.cons_append, List.nil_append] at N'); (try dsimp only at N'); (try dsimp only); (try k_sweep); (try k_fold))
  k_steps
  k_dflt (refine' least_loop (tw := tw) (way := way) (vl := vl) ?d0 ?d1 ?d2 ?d3 hs ?d5 ?d6 ?d7 ?d8 ?da ?db; (case d2 => assumption); (case d0 => exact rfl); (case d1 => exact rfl); (case d3 => k_asm); (case d5 => intro p9 h9; have a9 := (by assumption : NLt _ _) p9 h9; omega); (case d6 => assumption); (case d7 => exact rfl); (case d8 => exact rfl))
  rotate_left
  (intro u9 oy9 vy9 h tk hoy9 F' N'; unfold LMap at F')
  rotate_left
  (intro I9 i9 v9 u9 h tk T9 t9 oE9 oI9 oy9 vy9 nlI9 ltI9 hv9 hT9 hoy9 F' N'; clear nlI9; unfold LMap at F'; obtain ⟨hi9, hD9⟩ := steps_item hss hv9; obtain ⟨q9, qa9, qb9, qc9, qk9, rfl, hq9⟩ := seat_ref hD9; have hA1 := sA_pos (l := l.take (i9 + 1)); have hB1 := sB_pos (l := l.take (i9 + 1)); have hC1 := sC_pos (l := l.take (i9 + 1)); have hS9 := hsum i9 hi9; have hL9 := hok i9 hi9; clear hsum hok; unfold seatD at hD9; generalize sA (l.take (i9 + 1)) = A9 at *; generalize sB (l.take (i9 + 1)) = B9 at *; generalize sC (l.take (i9 + 1)) = C9 at *)
  k_steps
  rotate_left
  · exact hret () _ _ trivial (by k_asm) (cb_drop (by k_asm) (by intro p9 h9; kst_mem)) (by intro _ _ _ h; cases h)
  k_dflt (refine comp_two_asg (by k_asm) (by with_unfolding_all rfl) (by with_unfolding_all rfl) (by rfl) (by rfl) (by with_unfolding_all rfl) (by decide) (by rfl) (by decide) (by rfl) (by rfl) (by decide) ?_)
  k_steps
  k_dflt (refine' TwoPost.intro (N := i9 + 2) ?e1 ?e2 ?e3 ?e4 ?e5 ?e6 ?it9 ?elt9 ?fin9; (case e1 => exact rfl); (case e2 => k_asm); (case e3 => k_asm); (case e4 => assumption); (case e5 => omega); (case e6 => omega))
  case it9 =>
    intro C9 a9 ta9 oC9 m9 T9 h tk E9 ha9 hb9 hoC hma F' N' hsub
    have hcm := hsub _ (List.Mem.tail _ (List.Mem.tail _ (List.Mem.head _)))
    clear hsub
    k_steps
    k_dflt (refine' It2Post.intro ?a1 ?a2 ?a3 ?a4; (case a1 => k_asm); (case a2 => k_asm); (case a3 => assumption); (case a4 => omega))
  case elt9 =>
    intro C9 a9 b9 ta9 tb9 oC9 m9 T9 h tk E9 ha9 ha9' hb9 hb9' hoC hma hmb F' N' hsub
    have hcm := hsub _ (List.Mem.tail _ (List.Mem.tail _ (List.Mem.head _)))
    clear hsub
    k_steps
    k_dflt (refine' EltPost.intro ?a1 ?a2 ?a3 ?a4; (case a1 => k_asm); (case a2 => k_asm); (case a3 => tbn_conj); (case a4 => omega))
  case fin9 =>
    intro D9 ys9 tups9 h' tk' F' N' hdat9 hgt9 hlt9
    dsimp only; clear hgt9 hlt9
    k_with "pyIter ref" => k_dflt (refine' list_own (x := Str.ofString "deal") (y := Str.ofString "other") (z := Str.ofString "part") ?dm8 ?dn8 ?do8 ?dp8 ?ds8 ?dq8 ?dr8; (case dp8 => k_asm); (case ds8 => k_asm); (case do8 => k_mem); (case dm8 => exact rfl); (case dn8 => exact rfl)); rotate_left; (intro u8 h tk F' N'; unfold IMap at F'; dsimp only at F'); rotate_left; (intro i8 v8 u8 h tk own8 hv8 hoff8 F' N'; unfold IMap at F'; dsimp only at F'; obtain ⟨q8, a8, b8, ta8, tb8, tc8, k8, rfl, hq8, ha8, hb8, hab8⟩ := deal_item hdat9 hv8)
    k_steps
    · exfalso
      have hq := hL9 a8 b8 ha8 hb8 (by omega)
      rw [show 4 + (i9 : Int) = ((i9 + 2 : Nat) : Int) + 2 by omega] at hq
      omega
    · k_dflt (refine' ipost_next ?w1 ?w2 ?w3 ?w4; (case w1 => k_asm); (case w2 => k_asm); (case w3 => intro p9 h9; kst_mem); (case w4 => intro y c1 c2 c3; simp only [c1, c2, c3, if_false]))
    · k_dflt (refine' lpost_next ?w1 ?w2 ?w3 ?w4 ?w5; (case w1 => k_asm); (case w2 => exact rfl); (case w3 => exact rfl); (case w4 => k_asm); (case w5 => exact cb_drop (by k_asm) (by tb_rel)))
/-- a record that is dealt greedily: every prefix is least -/
theorem con_least {w : World} {u v x way : Int} {l : List Nat} (hu0 : 1 ≤ u ∧ u ≤ 1280) (hv0 : 1 ≤ v ∧ v ≤ 1280) (hx0 : 1 ≤ x ∧ x ≤ 1280) (hw0 : 0 ≤ way ∧ way ≤ 9) (hl6 : l.length ≤ 6) (hr : Rec u v x way l) :
  Con w 152 40
   (fun news vs => ∃ vl t1 t2 t3 n tw sl sn ss, vs = [.ref vl, .ref sl, .int way tw] ∧ (vl, listOf #[.int u t1, .int v t2, .int x t3] n) ∈ news ∧ (sl, listOf ss.toArray sn) ∈ news ∧ DatAll news ss (stepsD l))
   (fun _ => True) (fun _ => []) (fun _ : Unit => .bool true) :=
  con_leastT (by omega) (by omega) hx0 hw0 hl6 (least_of_rec hu0.1 hv0.1 hx0.1 hw0 hr) (fun i hi => by
    have h := rec_sum (rec_take hr (i + 1))
    rw [List.length_take] at h
    omega)
end
end
section
structure One3 (M r g b : Int) : Prop where
  o : M = r ∨ M = g ∨ M = b
theorem max_bd {M r g b : Int} (hr0 : 0 ≤ r ∧ r < 8589934592) (hg0 : 0 ≤ g ∧ g < 8589934592) (hb0 : 0 ≤ b ∧ b < 8589934592) (h4 : 4 ≤ r ∨ 4 ≤ g ∨ 4 ≤ b) (a1 : r ≤ M) (a2 : g ≤ M) (a3 : b ≤ M)
    (a4 : M = r ∨ M = g ∨ M = b) : 4 ≤ M ∧ M < 8589934592 := by
  refine ⟨?_, ?_⟩
  · clear a4 hr0 hg0 hb0; omega
  · clear h4 a1 a2 a3; omega
theorem min_bd {M r g b : Int} (hr0 : 0 ≤ r) (hg0 : 0 ≤ g) (hb0 : 0 ≤ b) (a4 : M = r ∨ M = g ∨ M = b) : 0 ≤ M := by
  rcases a4 with rfl | rfl | rfl <;> assumption
theorem One3.gb {M r g b : Int} (h : One3 M r g b) (e : M ≠ r) : M = g ∨ M = b := h.o.resolve_left e
theorem One3.b {M r g b : Int} (h : One3 M r g b) (e : M ≠ r) (e2 : M ≠ g) : M = b := (h.gb e).resolve_left e2
set_option maxRecDepth 100000 in
set_option maxHeartbeats 400000000 in
theorem con_hls {w : World} {r g b : Int} 
   (hr0 : 0 ≤ r ∧ r < 8589934592) (hg0 : 0 ≤ g ∧ g < 8589934592) (hb0 : 0 ≤ b ∧ b < 8589934592) (h4 : 4 ≤ r ∨ 4 ≤ g ∨ 4 ≤ b) :
  Con w 21 10
   (fun news vs => ∃ t1 t2 t3, vs = [.int r t1, .int g t2, .int b t3])
   (fun d => HueOk r g b d.2.1) (fun d : Addr × UInt64 × UInt64 × UInt64 × Tok × Tok × Tok => [(d.1, tupOf #[.float d.2.1 d.2.2.2.2.1, .float d.2.2.1 d.2.2.2.2.2.1, .float d.2.2.2.1 d.2.2.2.2.2.2] 0)]) (fun d => .ref d.1) := by
  unfold Con
  w_top off
  k_fill
  intro p loose mean mg mb dp un gd cn cs ca ccd cl outer A₀ base h₀ L m news s vs Q E B F X N T hk hR hd hu hret
  obtain ⟨t1, t2, t3, rfl⟩ := hR
  refine wpAny_call ?_
  k_dflt ktr_enter
  k_with "call builtin:max" => (with_unfolding_all refine' max3K ?k0 ?k1 ?k2 ?_; (case k0 => with_unfolding_all rfl); (case k1 => k_asm); (case k2 => k_asm); k_whole); intro h' tk' t' M' a1 a2 a3 a4 F' N'; have mbd9 := max_bd hr0 hg0 hb0 h4 a1 a2 a3 a4; clear h4; have mxo9 := One3.mk a4; clear a4; (try k_sweep)
  k_with "call builtin:min" => (with_unfolding_all refine' min3K ?k0 ?k1 ?k2 ?_; (case k0 => with_unfolding_all rfl); (case k1 => k_asm); (case k2 => k_asm); k_whole); intro h' tk' t' M' a1 a2 a3 a4 F' N'; have nbd9 := min_bd hr0.1 hg0.1 hb0.1 a4; have mno9 := One3.mk a4; clear a4; (try k_sweep)
  k_steps
  all_goals first
    | (exfalso; exact no_zero' (by assumption) (by omega) (by omega) (by omega) (by omega))
    | (refine' hret ⟨_, _, _, _, _, _, _⟩ _ _ ?hOk9 (by k_asm) (cb_drop (by k_asm) ?x) ?y
       case x => tb_rel
       case y => tb_start
       case hOk9 => first
         | exact hue_flat (by omega) (by omega)
         | exact hue_r' (sg_false (by omega) (by omega)) (sg_false (by omega) (by omega)) (by omega) (by omega) (by omega) (by omega) (by omega) (One3.gb (by assumption) (by omega)) (by omega) (by omega)
         | exact hue_g' (sg_false (by omega) (by omega)) (sg_false (by omega) (by omega)) (by omega) (by omega) (by omega) (by omega) (by omega) (by omega)
         | exact hue_b' (sg_false (by omega) (by omega)) (sg_false (by omega) (by omega)) (One3.b (by assumption) (by omega) (by omega)).symm (by omega) (by omega) (by omega) (by omega) (by omega))
end

section
set_option maxRecDepth 100000 in
set_option maxHeartbeats 400000000 in
theorem con_party {w : World} {r g b : Int} 
   (hr0 : 0 ≤ r ∧ r < 8589934592) (hg0 : 0 ≤ g ∧ g < 8589934592) (hb0 : 0 ≤ b ∧ b < 8589934592) (h4 : 4 ≤ r ∨ 4 ≤ g ∨ 4 ≤ b) :
  Con w 135 20
   (fun news vs => ∃ cl t1 t2 t3 n, vs = [.ref cl] ∧ (cl, listOf #[.int r t1, .int g t2, .int b t3] n) ∈ news)
   (fun d : Int × Tok => (d.1 = 0 ∧ g ≤ r ∧ b ≤ r) ∨ (d.1 = 1 ∧ r ≤ g ∧ b ≤ g) ∨ (d.1 = 2 ∧ r ≤ b ∧ g ≤ b)) (fun _ => []) (fun d => .int d.1 d.2) := by
  unfold Con
  w_top off
  k_fill
  intro p loose mean mg mb dp un gd cn cs ca ccd cl outer A₀ base h₀ L m news s vs Q E B F X N T hk hR hd hu hret
  obtain ⟨cl, t1, t2, t3, n, rfl, hc⟩ := hR
  refine wpAny_call ?_
  k_dflt ktr_enter
  k_with_none
  k_with "call ref" => (k_here; (with_reducible show wpAny _ _ (call (Value.ref 21) _) _ _ _); (try simp only [Int.reduceToNat, List.getD_cons_zero, List.getD_cons_succ]); k_dflt (refine' con_use (con_hls ?cb1z0 ?cb2z0 ?cb3z0 ?cb4z0) ?k1z0 ?k2z0 ?k3z0 ?k4z0 ?k5z0 ?kKz0 ?kRz0 ?kdz0 ?kuz0 ?_; (case k1z0 => k_asm); (case k2z0 => k_asm); (case k3z0 => k_asm); (case k4z0 => k_asm); (case k5z0 => k_asm); (case kKz0 => first | exact rfl | assumption); (case kRz0 => exact ⟨_, _, _, rfl⟩); (case kdz0 => ktr_room); (case kuz0 => ktr_units); (case cb1z0 => omega); (case cb2z0 => omega); (case cb3z0 => omega); (case cb4z0 => omega)); intro d9 h' tk' hP9 F' N' l'; obtain ⟨da9, dh9, dl9, ds9, dt9, du9, dv9⟩ := d9; (replace l' := lt1 l'); (try simp only [List.cons_append, List.nil_append] at N'); (try dsimp only at hP9 N' l'); (try dsimp only); (try k_lt l'); (try k_sweep); (try k_fold))
  k_steps
  all_goals
    refine' hret ⟨_, _⟩ _ _ ?hOk9 (by k_asm) (cb_drop (by k_asm) ?x) ?y
    case x => tb_rel
    case y => tb_start
    case hOk9 => first
      | exact party_at (by assumption) rfl (by assumption) (by assumption) (by assumption) (by assumption) rfl
      | exact party_at (c3' := _) (c5 := _) (by assumption) rfl (by assumption) (by assumption) rfl rfl rfl
      | exact party_at (by assumption) rfl (by assumption) (by assumption) (by assumption) rfl rfl
      | exact party_at (by assumption) rfl (by assumption) rfl (by assumption) (by assumption) rfl
      | exact party_at (by assumption) rfl (by assumption) rfl (by assumption) rfl rfl

end

local macro_rules | `(tactic| k_ne) => `(tactic| (refine neN ?_; (try dsimp only); first | exact off1_l (by assumption) (by k_mem) | exact off1_r (by assumption) (by k_mem)))

section
theorem three_bd {n1 n2 n3 n : Int} {i : Nat} (h1 : 1 ≤ n1 ∧ n1 ≤ 640) (h2 : 1 ≤ n2 ∧ n2 ≤ 640) (h3 : 1 ≤ n3 ∧ n3 ≤ 640) (h : [n1, n2, n3][i]? = some n) : 1 ≤ n ∧ n ≤ 640 := by
  have hm := List.mem_of_getElem? h
  simp only [List.mem_cons, List.not_mem_nil, or_false] at hm
  rcases hm with rfl | rfl | rfl <;> assumption
local macro_rules | `(tactic| k_all) => `(tactic| exact SOff.all (by assumption))
theorem codes_len (n : Int) : (codes n).length ≤ 100 := by unfold codes; split <;> simp
theorem nlt_tail {q : Addr × Obj} {news : List (Addr × Obj)} {d : Addr} (h : NLt (q :: news) d) : NLt news d := fun p hp => h p (.tail _ hp)
theorem unr_end5 {h₀ : Heap} {L I : Addr} {it : Obj} {rest : (Str → Option Value) → List (Addr × Obj) → Prop} {s₁ : Shared} {h' : Heap} {tk : Nat} {m' : Str → Option Value} {a1 a2 a3 a4 a5 : Addr × Obj} {back : List (Addr × Obj)} (F : Fr h₀ L h' m')
    (N : News h₀ L h' (a1 :: a2 :: a3 :: a4 :: a5 :: (I, it) :: back)) (off : ∀ p ∈ a5 :: back, p.1 ≠ I) (r : rest m' (a5 :: back)) : UnrEnd h₀ L s₁ I it rest { s₁ with heap := h', toks := tk } :=
  UnrEnd.intro F N (a5 :: back) (fun p hp => by
    rcases List.mem_cons.mp hp with rfl | hp
    · exact .tail _ (.tail _ (.tail _ (.tail _ (.tail _ (.head _)))))
    · rcases List.mem_cons.mp hp with rfl | hp
      · exact .tail _ (.tail _ (.tail _ (.tail _ (.head _))))
      · exact .tail _ (.tail _ (.tail _ (.tail _ (.tail _ (.tail _ hp)))))) off r
theorem unr_end4 {h₀ : Heap} {L I : Addr} {it : Obj} {rest : (Str → Option Value) → List (Addr × Obj) → Prop} {s₁ : Shared} {h' : Heap} {tk : Nat} {m' : Str → Option Value} {a1 a2 a3 a4 : Addr × Obj} {back : List (Addr × Obj)} (F : Fr h₀ L h' m')
    (N : News h₀ L h' (a1 :: a2 :: a3 :: a4 :: (I, it) :: back)) (off : ∀ p ∈ back, p.1 ≠ I) (r : rest m' back) : UnrEnd h₀ L s₁ I it rest { s₁ with heap := h', toks := tk } :=
  UnrEnd.intro F N back (fun p hp => by
    rcases List.mem_cons.mp hp with rfl | hp
    · exact .tail _ (.tail _ (.tail _ (.tail _ (.head _))))
    · exact .tail _ (.tail _ (.tail _ (.tail _ (.tail _ hp))))) off r
set_option rowWalk.seconds 100 in
set_option maxRecDepth 100000 in
set_option maxHeartbeats 400000000 in
theorem con_votes {w : World} {n1 n2 n3 : Int} (hn1 : 1 ≤ n1 ∧ n1 ≤ 640) (hn2 : 1 ≤ n2 ∧ n2 ≤ 640) (hn3 : 1 ≤ n3 ∧ n3 ≤ 640) :
  ∀ (p : Program) (loose : List Str) (mean : ExcName → Option Value) (mg mb : Str → Option Value) (dp un : Nat) (gd : Option (List Code)) (cn : Str) (cs : Scope) (a : Addr) (ccd : Value) (cl : List (Str × Addr)) (outer : List Env) (A₀ : Around) (base h₀ : Heap) (L : Addr) (m : Str → Option Value) (news : List (Addr × Obj)) (s : Shared) (l : Addr) (t1 t2 t3 : Tok) (k : Nat)
    (Q E : Value → Shared → Prop),
    Below A₀ base outer h₀ → Fr h₀ L s.heap m → (hd.heap_39 w.params).In h₀ → News h₀ L s.heap ((125, tabObj #[]) :: news) → Top p loose mean mg mb h₀ → cs.kind = .function → CodeHd h₀ 127 125 → (∀ p ∈ news, @Ne Nat p.1 125) → (l, listOf #[.int n1 t1, .int n2 t2, .int n3 t3] k) ∈ news → dp + 60 < recursionLimit → un + 10 * 60 < cLine →
    (∀ (d : Addr) (t1 t2 t3 : Tok) (k : Nat) (ps : Array Value) h' tk', Fr h₀ L h' m → News h₀ L h' ((d, listOf #[.int n1 t1, .int n2 t2, .int n3 t3] k) :: (125, tabObj ps) :: news) → (∀ q ∈ news, q.1 < d) → Q (.ref d) { s with heap := h', toks := tk' }) →
    wpAny (model PySem.Challenge.rw_kl0516_01.row.prog w) (ktrTop dp un gd cn cs L a ccd cl outer) (call (.ref 128) [.ref l]) Q E s := by
  w_top off
  k_fill
  intro p loose mean mg mb dp un gd cn cs ca ccd cl outer A₀ base h₀ L m news s l t1 t2 t3 k Q E B F X N T hk C9 h125 hv hd hu hret
  refine wpAny_call ?_
  k_dflt (refine' code_defC ?k1 ?k2 ?k3 ?k4 ?k5 ?kA ?kF ?kK ?k6 ?k7 ?k8 ?k9 ?kB ?kD ?_ ?c2 ?c3 ?c4; (case kA => exact rfl); (case kF => exact rfl); (case kK => assumption); (case k1 => k_asm); (case k2 => k_asm); (case k3 => k_asm); (case k4 => k_asm); (case k5 => k_asm); (case k6 => k_is); (case k7 => k_is); (case k8 => ktr_room); (case k9 => first | exact BindsTo.of_eq rfl | exact binds_K (by k_in) rfl (by k_is) rfl rfl rfl | fail "k_enter: no rule for these arguments"); (case kB => exact rfl); (case kD => decide +kernel); (case c2 => exact rfl); (case c3 => exact rfl); (case c4 => exact rfl); k_whole; intro g' L' h' tk' cells' FG' F' N' Y' B' X' T' l1; (have nlt9 := NLt.mk l1); (try k_lt l1); k_cells Y'; (try simp only [List.cons_append, List.nil_append] at N'); (try dsimp only); (try k_lift B'); (try k_fold))
  (rename Fr h₀ L _ m => FG9)
  have C8 := C9.keeps FG9.keep
  have s125 : SOff 125 news := h125
  have lt125 := (by assumption : NLt ((125, tabObj #[]) :: news) _) (125, tabObj #[]) (.head _)
  dsimp only at lt125
  have nn9 := nlt_tail (by assumption : NLt ((125, tabObj #[]) :: news) _)
  k_with_none
  k_with "call ref" => (k_here; (with_reducible show wpAny _ _ (call (Value.ref 21) _) _ _ _); (try simp only [Int.reduceToNat, List.getD_cons_zero, List.getD_cons_succ]); k_dflt (refine' con_use (con_hls ?cb1z0 ?cb2z0 ?cb3z0 ?cb4z0) ?k1z0 ?k2z0 ?k3z0 ?k4z0 ?k5z0 ?kKz0 ?kRz0 ?kdz0 ?kuz0 ?_; (case k1z0 => k_asm); (case k2z0 => k_asm); (case k3z0 => k_asm); (case k4z0 => k_asm); (case k5z0 => k_asm); (case kKz0 => first | exact rfl | assumption); (case kRz0 => exact ⟨_, _, _, rfl⟩); (case kdz0 => ktr_room); (case kuz0 => ktr_units); (case cb1z0 => omega); (case cb2z0 => omega); (case cb3z0 => omega); (case cb4z0 => omega)); intro d9 h' tk' hP9 F' N' l'; obtain ⟨da9, dh9, dl9, ds9, dt9, du9, dv9⟩ := d9; (replace l' := lt1 l'); (try simp only [List.cons_append, List.nil_append] at N'); (try dsimp only at hP9 N' l'); (try dsimp only); (try k_lt l'); (try k_sweep); (try k_fold))
  k_with "call ref" => (k_here; (with_reducible show wpAny _ _ (call (Value.ref 123) _) _ _ _); k_dflt (refine' con_use (con_sentL ?cb1z1) ?k1z1 ?k2z1 ?k3z1 ?k4z1 ?k5z1 ?kKz1 ?kRz1 ?kdz1 ?kuz1 ?_; (case k1z1 => k_asm); (case k2z1 => k_asm); (case k3z1 => k_asm); (case k4z1 => k_asm); (case k5z1 => k_asm); (case kKz1 => first | exact rfl | assumption); (case kRz1 => exact ⟨_, rfl⟩); (case kdz1 => ktr_room); (case kuz1 => ktr_units); (case cb1z1 => first | omega | (simp only [List.length_append, List.length_cons, List.length_nil]; omega))); intro d9 h' tk' hP9 F' N' l'; obtain ⟨dx9, dt9⟩ := d9; clear l'; (try simp only [List.nil_append] at N'); (try dsimp only at hP9 N'); (try dsimp only); subst hP9; (try k_sweep); (try k_fold))
  k_with "call ref" => (k_here; (with_reducible show wpAny _ _ (call (Value.ref 109) [Value.str (sentOf _) _]) _ _ _); k_dflt (refine' con_use (con_p257 ?cb1z2) ?k1z2 ?k2z2 ?k3z2 ?k4z2 ?k5z2 ?kKz2 ?kRz2 ?kdz2 ?kuz2 ?_; (case k1z2 => k_asm); (case k2z2 => k_asm); (case k3z2 => k_asm); (case k4z2 => k_asm); (case k5z2 => k_asm); (case kKz2 => first | exact rfl | assumption); (case kRz2 => exact ⟨_, rfl⟩); (case kdz2 => ktr_room); (case kuz2 => ktr_units); (case cb1z2 => first | omega | (simp only [List.length_append, List.length_cons, List.length_nil]; omega))); intro d9 h' tk' hP9 F' N' l'; obtain ⟨dx9, dt9⟩ := d9; clear l'; (try simp only [List.nil_append] at N'); (try dsimp only at hP9 N'); (try dsimp only); subst hP9; (try k_sweep); (try k_fold))
  k_with "CompRest" => (with_unfolding_all first | (refine LCg.CompRest.succ ?_; intro v' I' oI' C' oC' D' m' h' tk' E' hv' hC' hx' F' N' off' ne'; clear ne'; (first | lcg_open hv' | (obtain ⟨t9', hv9'⟩ := hv'; subst hv9')); (try k_sweep)) | refine LCg.CompRest.zero ?_)
  k_with "CompEnd" => (k_here; refine LCg.CompEnd.intro (by assumption) (by assumption) _ (fun _ h => h) (by assumption) (by first | k_mem | lcg_src) ?_; (rename LCg.Off3 _ _ _ _ => off9); clear off9)
  k_with "FinE" => ((unfold LCg.FinE); intro D' h' tk' F' N' o1'; (try simp only [List.nil_append, List.cons_append] at N'); (try dsimp only); (try k_sweep))
  k_with "eval ListComp" => (k_here; (with_reducible show wpAny _ _ (eval (Expr.ListComp _ [⟨_, Expr.Name (Str.ofString "seats") _, _, _⟩] _ _) _) _ _ _); k_dflt (refine comp_tup (F₀ := by k_asm) (by with_unfolding_all rfl) (by decide) (by rfl) (by decide) (by rfl) ?_); walk1; k_dflt (refine ⟨_, _, _, _, rfl, rfl, by k_asm, by k_asm, by k_mem, by first | size_fits | exact Nat.le_of_ble_eq_true rfl, ?_⟩); intro g'; lcg_lit)
  k_with "CompSrc" => (k_here; k_dflt (first | (refine LCg.CompSrc.ledger (by rfl) (by k_asm) (by k_asm) (by k_mem) (by first | size_fits | exact Nat.le_of_ble_eq_true rfl) ?_; intro g'; lcg_lit) | (refine LCg.CompSrc.range (by rfl) (by k_asm) (by k_asm) (by assumption) (by first | decide | rfl) (by first | rfl | decide) (by first | size_fits | exact Nat.le_of_ble_eq_true rfl) ?_; intro g'; lcg_lit)))
  k_with "call ref" => (k_here; (with_reducible show wpAny _ _ (call (Value.ref 123) [Value.str (_ ++ _) _]) _ _ _); rw [two_cat])
  k_with "call ref" => (k_here; (with_reducible show wpAny _ _ (call (Value.ref 51) _) _ _ _); k_dflt (refine wpAny_call ?_; refine' kp_more ?k1z9 ?k2z9 ?k3z9 ?k4z9 ?k5z9 ?kAz9 ?kFz9 ?kKz9 ?k6z9 ?k7z9 ?k8z9 ?kXz9 ?kMz9 ?kNz9 ?kDz9 ?kRz9 ?kPz9 ?kTz9 ?kBz9 ?_ ?c2z9 ?c3z9 ?c4z9 ?c5z9; (case kAz9 => exact rfl); (case kFz9 => exact rfl); (case kKz9 => exact rfl); (case k1z9 => k_asm); (case k2z9 => k_asm); (case k3z9 => k_asm); (case k4z9 => k_asm); (case k5z9 => k_asm); (case k6z9 => k_is); (case k7z9 => k_is); (case k8z9 => ktr_room); (case kXz9 => kp_lit); (case kMz9 => exact rfl); (case kNz9 => exact rfl); (case kDz9 => kp_flats); (case kRz9 => exact rfl); (case kPz9 => exact rfl); (case kTz9 => exact fun _ => rfl); (case kBz9 => exact fun _ => locs rfl); (case c5z9 => decide); (case c2z9 => exact rfl); (case c3z9 => exact rfl); (case c4z9 => exact rfl); k_whole; intro D' o' g' L' h' tk' l1 lo' hs' fs' FG' F' N' B' X' T'; (try k_lt l1); (try dsimp only); (try k_lift B'); (try k_fold)))
  k_with "callWith ref" => (k_here; (with_reducible show wpAny _ _ (callWith _ (Value.ref _) _ (backTo _ _) (backToKw _ (keywordEach [⟨none, _, _⟩] _))) _ _ _); k_dflt (refine' kw_call (knd := PySem.strKind _ _) ?kwFz10 ?kwNz10 ?kwDz10 ?kwdz10 ?kwsz10 ?kwqz10 ?kwez10 ?kwxz10 ?_ ?kwhz10; (case kwFz10 => k_asm); (case kwNz10 => k_asm); (case kwez10 => (intro E9 Q9 hQ9; (refine' nameX_L ?Fz10 ?vz10 ?_ ?az10 ?bz10; (case Fz10 => k_asm); (case az10 => rfl); (case bz10 => rfl); (case vz10 => rfl); exact hQ9))); (case kwxz10 => (intro h9 E9 Q9 F9 hQ9; (refine' nameX_L ?Fz10 ?vz10 ?_ ?az10 ?bz10; (case Fz10 => exact F9); (case az10 => rfl); (case bz10 => rfl); (case vz10 => rfl); exact hQ9))); (case kwDz10 => k_mem); (case kwdz10 => assumption); (case kwsz10 => assumption); (case kwqz10 => k_mem); (case kwhz10 => exact rfl)); intro d9 h' o' F' N' l1; (try k_lt l1))
  k_with "call ref" => (k_here; kn_here; k_dflt (refine wpAny_call ?_; (refine' kla_code ?k1z11 ?k2z11 ?k3z11 ?k4z11 ?k5z11 ?kAz11 ?kFz11 ?kKz11 ?k6z11 ?k7z11 ?k8z11 ?k9z11 ?kBz11 ?_ ?c2z11 ?c3z11 ?c4z11 ?c5z11; (case kAz11 => exact rfl); (case kFz11 => exact rfl); (case kKz11 => exact rfl); (case k1z11 => k_asm); (case k2z11 => k_asm); (case k3z11 => k_asm); (case k4z11 => k_asm); (case k5z11 => k_asm); (case k6z11 => k_mem); (case k7z11 => exact codeRec_news (by k_asm) (by k_mem) (by assumption) (by assumption)); (case k8z11 => ktr_room); (case k9z11 => exact rfl); (case c5z11 => decide); (case kBz11 => exact locs rfl); (case c2z11 => exact rfl); (case c3z11 => exact rfl); (case c4z11 => exact rfl); k_whole; intro g' L' h' FG' F' N' B' X' T'; (try dsimp only); (try k_lift B'); (try k_fold))))
  k_with "call ref" => (k_here; (with_reducible show wpAny _ _ (call (Value.ref 109) [Value.str (List.getD _ _ _) _]) _ _ _); k_dflt (refine' con_use (con_p257 ?cb1z12) ?k1z12 ?k2z12 ?k3z12 ?k4z12 ?k5z12 ?kKz12 ?kRz12 ?kdz12 ?kuz12 ?_; (case k1z12 => k_asm); (case k2z12 => k_asm); (case k3z12 => k_asm); (case k4z12 => k_asm); (case k5z12 => k_asm); (case kKz12 => first | exact rfl | assumption); (case kRz12 => exact ⟨_, rfl⟩); (case kdz12 => ktr_room); (case kuz12 => ktr_units); (case cb1z12 => exact codes_len _)); intro d9 h' tk' hP9 F' N' l'; obtain ⟨dx9, dt9⟩ := d9; clear l'; (try simp only [List.nil_append] at N'); (try dsimp only at hP9 N'); (try dsimp only); subst hP9; (try k_sweep); (try k_fold))
  k_with "eval ListComp" => (k_here; (with_reducible show wpAny _ _ (eval (Expr.ListComp _ [⟨_, Expr.Name (Str.ofString "whole") _, _, _⟩] _ _) _) _ _ _); k_dflt (refine comp_ords (by k_asm) (by with_unfolding_all rfl) (by decide) (by rfl) (by decide) (by rfl) ?_))
  k_with "OrdPost" => (k_here; k_dflt (refine' OrdPost.intro ?o1z14 ?o2z14 ?o3z14 ?o4z14 ?o5z14 ?_ ?_; (case o1z14 => exact rfl); (case o2z14 => k_asm); (case o3z14 => k_asm); (case o4z14 => exact Nat.le_trans (codes_few _) (by decide)); (case o5z14 => exact codes_ascii (by omega) (by omega))); (rotate_left; (intro D9 ys9 h' tk' F' N' hys9 off9); rotate_left; (intro g9 C9 c9 u9 I9 oI9 oC9 D9 ys9 m9 h9 tk9 E9 hC9 hx9 hc9 F' N')))
  k_with "OrdEnd" => (k_here; k_dflt (refine' OrdEnd.intro ?o1z15 ?o2z15 ?o3z15; (case o1z15 => exact rfl); (case o2z15 => k_asm); (case o3z15 => k_asm)))
  k_with "call builtin:iter" => (k_here; (with_reducible show wpAny _ _ (call (Value.builtin "iter") [Value.ref _]) _ _ _); k_dflt (refine' li_iter ?Fz16 ?Nz16 ?pz16 ?_; (case Fz16 => k_asm); (case Nz16 => k_asm); (case pz16 => k_mem)); intro I' h' oI' F' N' l1 hi'; (have nlt8 := NLt.mk l1); (try k_lt l1))
  k_with "call ref" => (k_here; (with_reducible show wpAny _ _ (call (Value.ref 58) _) _ _ _); k_dflt (refine' con2_use (con_varint ?cb1z17 ?cb2z17) ?k1z17 ?k2z17 ?k3z17 ?k4z17 ?k5z17 ?kKz17 ?kRz17 ?kdz17 ?kuz17 ?_; (case k1z17 => k_asm); (case k2z17 => k_asm); (case k3z17 => k_asm); (case k4z17 => k_asm); (case k5z17 => k_asm); (case kKz17 => first | exact rfl | assumption); (case kRz17 => exact ⟨_, _, _, _, _, rfl, rfl, by assumption, by assumption, by assumption⟩); (case kdz17 => ktr_room); (case kuz17 => ktr_units); (case cb1z17 => omega); (case cb2z17 => omega)); intro d9 h' tk' hP9 F' N' l'; clear l' hP9; (try simp only [List.nil_append] at N'); (try dsimp only at N'); (try dsimp only); (try k_sweep); (try k_fold))
  k_with "UnrEnd" => (k_here; k_dflt (first | (refine' unr_end5 ?u1z18 ?u2z18 ?u3z18 ?_; (case u1z18 => assumption); (case u2z18 => assumption); (case u3z18 => k_all)) | (refine' unr_end4 ?u1z18 ?u2z18 ?u3z18 ?_; (case u1z18 => assumption); (case u2z18 => assumption); (case u3z18 => k_all))))
  k_with "pyIter ref" => k_dflt (refine' sent_loop (ns := [n1, n2, n3]) (x := Str.ofString "number") (y := Str.ofString "signs") (z := Str.ofString "signs") ?dm8 ?dn8 ?do8 ?dp8 ?dt8 ?ds8 ?du8 ?dq8 ?dr8; (case ds8 => k_asm); (case du8 => k_asm); (case dm8 => exact rfl); (case dn8 => exact rfl); (case do8 => exact .tail _ hv); (case dp8 => tbn_conj); (case dt8 => exact .cons _ _ (.cons _ _ (.cons _ _ .nil)))); rotate_left; (intro u8 ss8 k8 h tk hss8 F' N'; unfold IMap at F'; dsimp only at F'); rotate_left; (intro i8 n8 t8 u8 h tk T8 ss8 k8 hn8 hso8 hsl8 hi8 F' N'; unfold IMap at F'; dsimp only at F'; have hb8 := three_bd hn1 hn2 hn3 hn8)
  k_steps
  · exact spost_push (carried_hi (by assumption)) (by k_asm) (by k_asm) (by intro p9 h9; kst_mem) (by intro y c1 c2 _; simp only [c1, c2, if_false])
  · exact spost_push (carried_lo (by assumption)) (by k_asm) (by k_asm) (by intro p9 h9; kst_mem) (by intro y c1 c2 _; simp only [c1, c2, if_false])
  · exact absurd (by assumption : (Str.mk (codes n1).toArray != Str.mk (codes n1).toArray) = true) (by simp)
  · exact absurd (by assumption : (Str.mk (codes n2).toArray != Str.mk (codes n2).toArray) = true) (by simp)
  · exact absurd (by assumption : (Str.mk (codes n3).toArray != Str.mk (codes n3).toArray) = true) (by simp)
  · refine' hret _ _ _ _ _ _ _ _ (by k_asm) (cb_drop (by k_asm) ?vx9) ?vy9
    case vx9 => tb_rel
    case vy9 => tbn_conj

end
local macro_rules | `(tactic| k_all) => `(tactic| first | exact DSep.s (by assumption) | exact DSep.h (by assumption) | exact DSep.w (by assumption) | exact DSep.y (by assumption))

section
theorem claim_ok {x h k : Int} (hx : 0 ≤ x ∧ x ≤ 1638400) (hh : 0 ≤ h ∧ h ≤ 72) (hk : 0 ≤ k ∧ k ≤ 72) : 0 ≤ x * h * k ∧ x * h * k < 8589934592 := by
  have a0 : 0 ≤ x * h := Int.mul_nonneg hx.1 hh.1
  have a1 : x * h ≤ 1638400 * 72 := Int.mul_le_mul hx.2 hh.2 hh.1 (by decide)
  have b0 : 0 ≤ x * h * k := Int.mul_nonneg a0 hk.1
  have b1 : x * h * k ≤ 1638400 * 72 * 72 := Int.mul_le_mul a1 hk.2 hk.1 (by decide)
  omega
theorem claim_four {x h k : Int} (hx : 1 ≤ x) (hh : 2 ≤ h) (hk : 2 ≤ k) : 4 ≤ x * h * k := by
  have a1 : 1 * 2 ≤ x * h := Int.mul_le_mul hx hh (by decide) (by omega)
  have b1 : 1 * 2 * 2 ≤ x * h * k := Int.mul_le_mul a1 hk (by decide) (by omega)
  omega
theorem seat_bd {l : List Nat} {i : Nat} (h : l.length = i) (hi : i < 6) : (1 ≤ sA l ∧ sA l ≤ 6) ∧ (1 ≤ sB l ∧ sB l ≤ 6) ∧ (1 ≤ sC l ∧ sC l ≤ 6) := by
  have a := List.count_le_length (a := 114) (l := l)
  have b := List.count_le_length (a := 34) (l := l)
  have c := List.count_le_length (a := 98) (l := l)
  unfold sA sB sC
  omega
theorem rec_turn_lt {u v x way p : Int} {l : List Nat} (hw : way < 9) (R : Rec u v x way l)
    (hP : (p = 0 ∧ v * (8 * sA l + way) * (8 * sC l + way) ≤ u * (8 * sC l + way) * (8 * sB l + way) ∧ x * (8 * sB l + way) * (8 * sA l + way) ≤ u * (8 * sC l + way) * (8 * sB l + way)) ∨
      (p = 1 ∧ u * (8 * sC l + way) * (8 * sB l + way) ≤ v * (8 * sA l + way) * (8 * sC l + way) ∧ x * (8 * sB l + way) * (8 * sA l + way) ≤ v * (8 * sA l + way) * (8 * sC l + way)) ∨
      (p = 2 ∧ u * (8 * sC l + way) * (8 * sB l + way) ≤ x * (8 * sB l + way) * (8 * sA l + way) ∧ v * (8 * sA l + way) * (8 * sC l + way) ≤ x * (8 * sB l + way) * (8 * sA l + way))) :
    Rec u v x way (l ++ [letter p]) ∧ (p = 0 ∨ p = 1 ∨ p = 2) := by
  have eR : clR u way l = u * (8 * sC l + way) * (8 * sB l + way) := by simp [clR, worthZ, hardZ, hw]
  have eG : clG v way l = v * (8 * sA l + way) * (8 * sC l + way) := by simp [clG, worthZ, hardZ, hw]
  have eB : clB x way l = x * (8 * sB l + way) * (8 * sA l + way) := by simp [clB, worthZ, hardZ, hw]
  rw [← eR, ← eG, ← eB] at hP
  rcases hP with ⟨rfl, h1, h2⟩ | ⟨rfl, h1, h2⟩ | ⟨rfl, h1, h2⟩
  · exact ⟨.red R h1 h2, by omega⟩
  · exact ⟨.green R h1 h2, by omega⟩
  · exact ⟨.blue R h1 h2, by omega⟩
def RngOk (n : Nat) : Prop := 1 ≤ n ∧ n ≤ 6
theorem rng_small {n : Nat} (h : RngOk n) : Builtin.Range.small 0 (n : Int) 1 = true ∧ Builtin.Range.rangeSize 0 (n : Int) 1 = (n : Int) := by
  have h1 := h.1
  have h2 := h.2
  have : n = 1 ∨ n = 2 ∨ n = 3 ∨ n = 4 ∨ n = 5 ∨ n = 6 := by omega
  rcases this with rfl | rfl | rfl | rfl | rfl | rfl <;> exact ⟨by decide, by decide⟩
set_option maxRecDepth 100000 in
set_option maxHeartbeats 400000000 in
theorem con_deal {w : World} {u v x way : Int} {nt : Nat} (hu0 : 0 ≤ u ∧ u ≤ 1280) (hv0 : 0 ≤ v ∧ v ≤ 1280) (hx0 : 1 ≤ x ∧ x ≤ 1280) (ht : RngOk nt) (hw0 : 0 ≤ way) (hw9 : way < 9) :
  Con w 140 40
   (fun news vs => ∃ vl t1 t2 t3 n tt tw, vs = [.ref vl, .int (nt : Int) tt, .int way tw] ∧ (vl, listOf #[.int u t1, .int v t2, .int x t3] n) ∈ news)
   (fun d => Rec u v x way d.2.2.2.2 ∧ d.2.2.2.2.length = nt ∧ DatAll d.2.2.2.1 d.2.2.1 (stepsD d.2.2.2.2)) (fun d => (d.1, listOf d.2.2.1.toArray d.2.1) :: d.2.2.2.1) (fun d : Addr × Nat × List Value × List (Addr × Obj) × List Nat => .ref d.1) := by
  unfold Con
  w_top off
  k_fill
  intro p loose mean mg mb dp un gd cn cs ca ccd cl outer A₀ base h₀ L m news s vs Q E B F X N T hk hR hd hu hret
  obtain ⟨vl, t1, t2, t3, n, tt, tw, rfl, hv⟩ := hR
  refine wpAny_call ?_
  k_dflt (refine' code_defC ?k1 ?k2 ?k3 ?k4 ?k5 ?kA ?kF ?kK ?k6 ?k7 ?k8 ?k9 ?kB ?kD ?_ ?c2 ?c3 ?c4; (case kA => exact rfl); (case kF => exact rfl); (case kK => assumption); (case k1 => k_asm); (case k2 => k_asm); (case k3 => k_asm); (case k4 => k_asm); (case k5 => k_asm); (case k6 => k_is); (case k7 => k_is); (case k8 => ktr_room); (case k9 => first | exact BindsTo.of_eq rfl | exact binds_K (by k_in) rfl (by k_is) rfl rfl rfl | fail "k_enter: no rule for these arguments"); (case kB => exact rfl); (case kD => decide +kernel); (case c2 => exact rfl); (case c3 => exact rfl); (case c4 => exact rfl); k_whole; intro g' L' h' tk' cells' FG' F' N' Y' B' X' T' l1; (have nlt9 := NLt.mk l1); (try k_lt l1); k_cells Y'; (try simp only [List.cons_append, List.nil_append] at N'); (try dsimp only); (try k_lift B'); (try k_fold))
  k_with_none
  k_with "call ref" => (k_here; (with_reducible show wpAny _ _ (call (Value.ref 21) _) _ _ _); (try simp only [Int.reduceToNat, List.getD_cons_zero, List.getD_cons_succ]); k_dflt (refine' con_use (con_hls ?cb1z0 ?cb2z0 ?cb3z0 ?cb4z0) ?k1z0 ?k2z0 ?k3z0 ?k4z0 ?k5z0 ?kKz0 ?kRz0 ?kdz0 ?kuz0 ?_; (case k1z0 => k_asm); (case k2z0 => k_asm); (case k3z0 => k_asm); (case k4z0 => k_asm); (case k5z0 => k_asm); (case kKz0 => first | exact rfl | assumption); (case kRz0 => exact ⟨_, _, _, rfl⟩); (case kdz0 => ktr_room); (case kuz0 => ktr_units); (case cb1z0 => omega); (case cb2z0 => omega); (case cb3z0 => omega); (case cb4z0 => omega)); intro d9 h' tk' hP9 F' N' l'; obtain ⟨da9, dh9, dl9, ds9, dt9, du9, dv9⟩ := d9; (replace l' := lt1 l'); (try simp only [List.cons_append, List.nil_append] at N'); (try dsimp only at hP9 N' l'); (try dsimp only); (try k_lt l'); (try k_sweep); (try k_fold))
  k_with "call ref" => (k_here; (with_reducible show wpAny _ _ (call (Value.ref 123) _) _ _ _); k_dflt (refine' con_use (con_sentL ?cb1z1) ?k1z1 ?k2z1 ?k3z1 ?k4z1 ?k5z1 ?kKz1 ?kRz1 ?kdz1 ?kuz1 ?_; (case k1z1 => k_asm); (case k2z1 => k_asm); (case k3z1 => k_asm); (case k4z1 => k_asm); (case k5z1 => k_asm); (case kKz1 => first | exact rfl | assumption); (case kRz1 => exact ⟨_, rfl⟩); (case kdz1 => ktr_room); (case kuz1 => ktr_units); (case cb1z1 => first | omega | (simp only [List.length_append, List.length_cons, List.length_nil]; omega))); intro d9 h' tk' hP9 F' N' l'; obtain ⟨dx9, dt9⟩ := d9; clear l'; (try simp only [List.nil_append] at N'); (try dsimp only at hP9 N'); (try dsimp only); subst hP9; (try k_sweep); (try k_fold))
  k_with "call ref" => (k_here; (with_reducible show wpAny _ _ (call (Value.ref 109) [Value.str (sentOf _) _]) _ _ _); k_dflt (refine' con_use (con_p257 ?cb1z2) ?k1z2 ?k2z2 ?k3z2 ?k4z2 ?k5z2 ?kKz2 ?kRz2 ?kdz2 ?kuz2 ?_; (case k1z2 => k_asm); (case k2z2 => k_asm); (case k3z2 => k_asm); (case k4z2 => k_asm); (case k5z2 => k_asm); (case kKz2 => first | exact rfl | assumption); (case kRz2 => exact ⟨_, rfl⟩); (case kdz2 => ktr_room); (case kuz2 => ktr_units); (case cb1z2 => first | omega | (simp only [List.length_append, List.length_cons, List.length_nil]; omega))); intro d9 h' tk' hP9 F' N' l'; obtain ⟨dx9, dt9⟩ := d9; clear l'; (try simp only [List.nil_append] at N'); (try dsimp only at hP9 N'); (try dsimp only); subst hP9; (try k_sweep); (try k_fold))
  k_with "CompRest" => (with_unfolding_all first | (refine LCg.CompRest.succ ?_; intro v' I' oI' C' oC' D' m' h' tk' E' hv' hC' hx' F' N' off' ne'; clear ne'; (first | lcg_open hv' | (obtain ⟨t9', hv9'⟩ := hv'; subst hv9')); (try k_sweep)) | refine LCg.CompRest.zero ?_)
  k_with "CompEnd" => (k_here; refine LCg.CompEnd.intro (by assumption) (by assumption) _ (fun _ h => h) (by assumption) (by first | k_mem | lcg_src) ?_; (rename LCg.Off3 _ _ _ _ => off9); clear off9)
  k_with "FinE" => ((unfold LCg.FinE); intro D' h' tk' F' N' o1'; (try simp only [List.nil_append, List.cons_append] at N'); (try dsimp only); (try k_sweep))
  k_with "eval ListComp" => (k_here; (with_reducible show wpAny _ _ (eval (Expr.ListComp _ [⟨_, Expr.Name (Str.ofString "seats") _, _, _⟩] _ _) _) _ _ _); k_dflt (refine comp_tup (F₀ := by k_asm) (by with_unfolding_all rfl) (by decide) (by rfl) (by decide) (by rfl) ?_); walk1; k_dflt (refine ⟨_, _, _, _, rfl, rfl, by k_asm, by k_asm, by k_mem, by first | size_fits | exact Nat.le_of_ble_eq_true rfl, ?_⟩); intro g'; lcg_lit)
  k_with "CompSrc" => (k_here; k_dflt (first | (refine LCg.CompSrc.ledger (by rfl) (by k_asm) (by k_asm) (by k_mem) (by first | size_fits | exact Nat.le_of_ble_eq_true rfl) ?_; intro g'; lcg_lit) | (refine LCg.CompSrc.range (by rfl) (by k_asm) (by k_asm) (by assumption) (by first | decide | rfl) (by first | rfl | decide) (by first | size_fits | exact Nat.le_of_ble_eq_true rfl) ?_; intro g'; lcg_lit)))
  k_with "subscriptTail Constant" => (k_here; (with_reducible show wpAny _ _ (subscriptTail _ _ (Value.str (Str.ofString "r\"b") _) (Value.int _ _)) _ _ _); k_dflt (refine' item_rb ?kcz8 ?_ ?ksz8 ?ktz8; (case kcz8 => omega); (case ksz8 => with_unfolding_all rfl); (case ktz8 => intro _; with_unfolding_all rfl); k_whole))
  k_with "binaryOp Add str str" => (k_here; (with_reducible show wpAny _ _ (binaryOp Operator.Add (Value.str ⟨List.toArray _⟩ _) (Value.str ⟨#[letter _]⟩ _)) _ _ _); (refine add_rec ?kcz9 ?_; (case kcz9 => omega)); intro _ _)
  k_with "call builtin:str.count" => (k_here; (with_reducible show wpAny _ _ (call (Value.builtin "str.count") [Value.str ⟨List.toArray _⟩ _, Value.str (Str.ofString _) _]) _ _ _); first | refine count_rec (c := 114) (by decide) ?_ | refine count_rec (c := 34) (by decide) ?_ | refine count_rec (c := 98) (by decide) ?_)
  have hrg := rng_small ht
  k_with "pyIter ref" => k_dflt (refine' deal_start (u := u) (v := v) (x := x) (way := way) ?d1 ?d2 hrg ?d3 ?d4 hv ?d5 ?d6 ?d7 ?d8 ?d9 ?da ?db ?dc ?dd; (case d1 => exact rfl); (case d2 => assumption); (case d3 => k_asm); (case d4 => k_asm); (case d5 => assumption); (case d6 => omega); (case d7 => exact ⟨_, by assumption⟩); (case d8 => exact ⟨_, by assumption⟩); (case d9 => exact rfl); (case da => exact rfl); (case db => exact rfl)); rotate_left; (intro c9 T9 h tk hok hf hsep htl F' N'; obtain ⟨l9, sa, rt, vs, n9, w1, w2, oh, ow⟩ := c9; (try dsimp only at F' N' hok hf); unfold DMap at F'); rotate_left; (intro c9 T8 T9 i9 t9 h tk hi hok hf hf9 hsep F' N'; obtain ⟨l9, sa, rt, vs, n9, w1, w2, oh, ow⟩ := c9; obtain ⟨⟨ta, tb, tc, k9, hseat⟩, hst, hvt⟩ := hf9; obtain ⟨hlen, hrec, ⟨cv1, hcell1⟩, ⟨cv2, hcell2⟩⟩ := hok; (dsimp only at hlen hrec hcell1 hcell2 hseat hst F' N' hf); simp only [DMap] at F'; have hsb := seat_bd hlen (by have := ht.2; omega); have hl50 : l9.length ≤ 50 := (by have := ht.2; omega); have hvs : vs.length ≤ 50 := (by rw [hst.length]; unfold stepsD; rw [List.length_map, List.length_range]; exact hl50); have hU9 : 0 ≤ u ∧ u ≤ 1638400 := (by omega); have hV9 : 0 ≤ v ∧ v ≤ 1638400 := (by omega); have hX9 : 0 ≤ x ∧ x ≤ 1638400 := (by omega); have hA9 : 0 ≤ 8 * sA l9 + way ∧ 8 * sA l9 + way ≤ 72 := (by omega); have hB9 : 0 ≤ 8 * sB l9 + way ∧ 8 * sB l9 + way ≤ 72 := (by omega); have hC9 : 0 ≤ 8 * sC l9 + way ∧ 8 * sC l9 + way ≤ 72 := (by omega); have hB2 : 2 ≤ 8 * sB l9 + way := (by omega); have hA2 : 2 ≤ 8 * sA l9 + way := by omega)
  k_with "call ref" => (with_reducible show wpAny _ _ (call (Value.ref 135) _) _ _ _); k_dflt (refine' con_use (con_party ?cb1 ?cb2 ?cb3 ?cb4) ?k1 ?k2 ?k3 ?k4 ?k5 ?kK ?kR ?kd ?ku ?_; (case k1 => k_asm); (case k2 => k_asm); (case k3 => k_asm); (case k4 => k_asm); (case k5 => k_asm); (case kK => first | exact rfl | assumption); (case kR => exact ⟨_, _, _, _, _, rfl, by k_mem⟩); (case kd => ktr_room); (case ku => ktr_units); (case cb1 => exact claim_ok hU9 hC9 hB9); (case cb2 => exact claim_ok hV9 hA9 hC9); (case cb3 => exact claim_ok hX9 hB9 hA9); (case cb4 => exact Or.inr (Or.inr (claim_four hx0.1 hB2 hA2)))); intro d9 h' tk' hP9 F' N' l'; obtain ⟨dp9, dt9⟩ := d9; clear l'; (try simp only [List.nil_append] at N'); (try dsimp only at N'); (try dsimp only); (k_dflt (replace hP9 := rec_turn_lt hw9 hrec hP9)); obtain ⟨hrec9, hp9⟩ := hP9; (try k_sweep); (try k_fold)
  k_steps
  · k_dflt (refine' d_end (l := l9) (cc := letter _) ?f1 ?f2 ?f3 ?f4 ?f5 ?f6 ?g1 ?g2 ?g3 ?g4 ?g5 ?g6 ?g7 ?g8 hlen hrec9 ?g9 ?ga hf)
    (case f1 => k_asm)
    (case f2 => k_asm)
    (case f3 => exact rfl)
    (case f4 => exact rfl)
    (case f5 => exact rfl)
    (case f6 => intro y c1 c2 c3 c4 c5; simp only [c1, c2, c3, c4, c5, if_false])
    (case g1 => kst_entry)
    (case g2 => kst_entry)
    (case g3 => kst_entry)
    (case g4 => kst_entry)
    (case g5 => kst_entry)
    (case g6 => intro p9 h9; kst_mem)
    (case g7 => tbn_conj)
    (case g8 => omega)
    (case g9 => assumption)
    (case ga => assumption)
  · obtain ⟨tups, htu, hord, htd⟩ := htl
    subst htu
    refine' hret ⟨_, n9, vs, tups, l9⟩ _ _ ⟨hok.rc, hok.len, htd⟩ (by k_asm) (cb_drop (by k_asm) ?x) ?y
    case x =>
      intro p9 h9
      rcases List.mem_cons.mp h9 with rfl | h9
      · exact .head _
      · exact .tail _ (.tail _ (.tail _ (.tail _ h9)))
    case y => exact ord_cons (fun q9 h9 => (by have a9 := (by assumption : NLt _ _) q9 h9; show @LT.lt Nat _ _ _; omega)) hord

end
section
theorem sq_bd {u : Int} (h : 0 ≤ u ∧ u ≤ 1280) : 0 ≤ u * u ∧ u * u ≤ 1638400 :=
  ⟨Int.mul_nonneg h.1 h.1, Int.mul_le_mul h.2 h.2 h.1 (by decide)⟩
theorem sq_one {u : Int} (h : 1 ≤ u) : 1 ≤ u * u := by
  have := Int.mul_le_mul h h (by decide) (by omega)
  omega
theorem hd_bd {a : Int} (h : 1 ≤ a ∧ a ≤ 6) : 0 ≤ a * (a + 1) ∧ a * (a + 1) ≤ 72 := by
  have h1 : a * (a + 1) ≤ 6 * 7 := Int.mul_le_mul h.2 (by omega) (by omega) (by decide)
  exact ⟨Int.mul_nonneg (by omega) (by omega), by omega⟩
theorem hd_two {a : Int} (h : 1 ≤ a ∧ a ≤ 6) : 2 ≤ a * (a + 1) := by
  have h1 : 1 * 2 ≤ a * (a + 1) := Int.mul_le_mul h.1 (by omega) (by decide) (by omega)
  omega
theorem rec_turn_9 {u v x p : Int} {l : List Nat} (R : Rec u v x 9 l)
    (hP : (p = 0 ∧ v * v * (sA l * (sA l + 1)) * (sC l * (sC l + 1)) ≤ u * u * (sC l * (sC l + 1)) * (sB l * (sB l + 1)) ∧ x * x * (sB l * (sB l + 1)) * (sA l * (sA l + 1)) ≤ u * u * (sC l * (sC l + 1)) * (sB l * (sB l + 1))) ∨
      (p = 1 ∧ u * u * (sC l * (sC l + 1)) * (sB l * (sB l + 1)) ≤ v * v * (sA l * (sA l + 1)) * (sC l * (sC l + 1)) ∧ x * x * (sB l * (sB l + 1)) * (sA l * (sA l + 1)) ≤ v * v * (sA l * (sA l + 1)) * (sC l * (sC l + 1))) ∨
      (p = 2 ∧ u * u * (sC l * (sC l + 1)) * (sB l * (sB l + 1)) ≤ x * x * (sB l * (sB l + 1)) * (sA l * (sA l + 1)) ∧ v * v * (sA l * (sA l + 1)) * (sC l * (sC l + 1)) ≤ x * x * (sB l * (sB l + 1)) * (sA l * (sA l + 1)))) :
    Rec u v x 9 (l ++ [letter p]) ∧ (p = 0 ∨ p = 1 ∨ p = 2) := by
  have eR : clR u 9 l = u * u * (sC l * (sC l + 1)) * (sB l * (sB l + 1)) := by simp [clR, worthZ, hardZ]
  have eG : clG v 9 l = v * v * (sA l * (sA l + 1)) * (sC l * (sC l + 1)) := by simp [clG, worthZ, hardZ]
  have eB : clB x 9 l = x * x * (sB l * (sB l + 1)) * (sA l * (sA l + 1)) := by simp [clB, worthZ, hardZ]
  rw [← eR, ← eG, ← eB] at hP
  rcases hP with ⟨rfl, h1, h2⟩ | ⟨rfl, h1, h2⟩ | ⟨rfl, h1, h2⟩
  · exact ⟨.red R h1 h2, by omega⟩
  · exact ⟨.green R h1 h2, by omega⟩
  · exact ⟨.blue R h1 h2, by omega⟩
set_option rowWalk.seconds 200 in
set_option maxRecDepth 100000 in
set_option maxHeartbeats 400000000 in
theorem con_deal9 {w : World} {u v x : Int} {nt : Nat} (hu0 : 0 ≤ u ∧ u ≤ 1280) (hv0 : 0 ≤ v ∧ v ≤ 1280) (hx0 : 1 ≤ x ∧ x ≤ 1280) (ht : RngOk nt) :
  Con w 140 40
   (fun news vs => ∃ vl t1 t2 t3 n tt tw, vs = [.ref vl, .int (nt : Int) tt, .int 9 tw] ∧ (vl, listOf #[.int u t1, .int v t2, .int x t3] n) ∈ news)
   (fun d => Rec u v x 9 d.2.2.2.2 ∧ d.2.2.2.2.length = nt ∧ DatAll d.2.2.2.1 d.2.2.1 (stepsD d.2.2.2.2)) (fun d => (d.1, listOf d.2.2.1.toArray d.2.1) :: d.2.2.2.1) (fun d : Addr × Nat × List Value × List (Addr × Obj) × List Nat => .ref d.1) := by
  unfold Con
  w_top off
  k_fill
  intro p loose mean mg mb dp un gd cn cs ca ccd cl outer A₀ base h₀ L m news s vs Q E B F X N T hk hR hd hu hret
  obtain ⟨vl, t1, t2, t3, n, tt, tw, rfl, hv⟩ := hR
  refine wpAny_call ?_
  k_dflt (refine' code_defC ?k1 ?k2 ?k3 ?k4 ?k5 ?kA ?kF ?kK ?k6 ?k7 ?k8 ?k9 ?kB ?kD ?_ ?c2 ?c3 ?c4; (case kA => exact rfl); (case kF => exact rfl); (case kK => assumption); (case k1 => k_asm); (case k2 => k_asm); (case k3 => k_asm); (case k4 => k_asm); (case k5 => k_asm); (case k6 => k_is); (case k7 => k_is); (case k8 => ktr_room); (case k9 => first | exact BindsTo.of_eq rfl | exact binds_K (by k_in) rfl (by k_is) rfl rfl rfl | fail "k_enter: no rule for these arguments"); (case kB => exact rfl); (case kD => decide +kernel); (case c2 => exact rfl); (case c3 => exact rfl); (case c4 => exact rfl); k_whole; intro g' L' h' tk' cells' FG' F' N' Y' B' X' T' l1; (have nlt9 := NLt.mk l1); (try k_lt l1); k_cells Y'; (try simp only [List.cons_append, List.nil_append] at N'); (try dsimp only); (try k_lift B'); (try k_fold))
  k_with_none
  k_with "call ref" => (k_here; (with_reducible show wpAny _ _ (call (Value.ref 21) _) _ _ _); (try simp only [Int.reduceToNat, List.getD_cons_zero, List.getD_cons_succ]); k_dflt (refine' con_use (con_hls ?cb1z0 ?cb2z0 ?cb3z0 ?cb4z0) ?k1z0 ?k2z0 ?k3z0 ?k4z0 ?k5z0 ?kKz0 ?kRz0 ?kdz0 ?kuz0 ?_; (case k1z0 => k_asm); (case k2z0 => k_asm); (case k3z0 => k_asm); (case k4z0 => k_asm); (case k5z0 => k_asm); (case kKz0 => first | exact rfl | assumption); (case kRz0 => exact ⟨_, _, _, rfl⟩); (case kdz0 => ktr_room); (case kuz0 => ktr_units); (case cb1z0 => omega); (case cb2z0 => omega); (case cb3z0 => omega); (case cb4z0 => omega)); intro d9 h' tk' hP9 F' N' l'; obtain ⟨da9, dh9, dl9, ds9, dt9, du9, dv9⟩ := d9; (replace l' := lt1 l'); (try simp only [List.cons_append, List.nil_append] at N'); (try dsimp only at hP9 N' l'); (try dsimp only); (try k_lt l'); (try k_sweep); (try k_fold))
  k_with "call ref" => (k_here; (with_reducible show wpAny _ _ (call (Value.ref 123) _) _ _ _); k_dflt (refine' con_use (con_sentL ?cb1z1) ?k1z1 ?k2z1 ?k3z1 ?k4z1 ?k5z1 ?kKz1 ?kRz1 ?kdz1 ?kuz1 ?_; (case k1z1 => k_asm); (case k2z1 => k_asm); (case k3z1 => k_asm); (case k4z1 => k_asm); (case k5z1 => k_asm); (case kKz1 => first | exact rfl | assumption); (case kRz1 => exact ⟨_, rfl⟩); (case kdz1 => ktr_room); (case kuz1 => ktr_units); (case cb1z1 => first | omega | (simp only [List.length_append, List.length_cons, List.length_nil]; omega))); intro d9 h' tk' hP9 F' N' l'; obtain ⟨dx9, dt9⟩ := d9; clear l'; (try simp only [List.nil_append] at N'); (try dsimp only at hP9 N'); (try dsimp only); subst hP9; (try k_sweep); (try k_fold))
  k_with "call ref" => (k_here; (with_reducible show wpAny _ _ (call (Value.ref 109) [Value.str (sentOf _) _]) _ _ _); k_dflt (refine' con_use (con_p257 ?cb1z2) ?k1z2 ?k2z2 ?k3z2 ?k4z2 ?k5z2 ?kKz2 ?kRz2 ?kdz2 ?kuz2 ?_; (case k1z2 => k_asm); (case k2z2 => k_asm); (case k3z2 => k_asm); (case k4z2 => k_asm); (case k5z2 => k_asm); (case kKz2 => first | exact rfl | assumption); (case kRz2 => exact ⟨_, rfl⟩); (case kdz2 => ktr_room); (case kuz2 => ktr_units); (case cb1z2 => first | omega | (simp only [List.length_append, List.length_cons, List.length_nil]; omega))); intro d9 h' tk' hP9 F' N' l'; obtain ⟨dx9, dt9⟩ := d9; clear l'; (try simp only [List.nil_append] at N'); (try dsimp only at hP9 N'); (try dsimp only); subst hP9; (try k_sweep); (try k_fold))
  k_with "CompRest" => (with_unfolding_all first | (refine LCg.CompRest.succ ?_; intro v' I' oI' C' oC' D' m' h' tk' E' hv' hC' hx' F' N' off' ne'; clear ne'; (first | lcg_open hv' | (obtain ⟨t9', hv9'⟩ := hv'; subst hv9')); (try k_sweep)) | refine LCg.CompRest.zero ?_)
  k_with "CompEnd" => (k_here; refine LCg.CompEnd.intro (by assumption) (by assumption) _ (fun _ h => h) (by assumption) (by first | k_mem | lcg_src) ?_; (rename LCg.Off3 _ _ _ _ => off9); clear off9)
  k_with "FinE" => ((unfold LCg.FinE); intro D' h' tk' F' N' o1'; (try simp only [List.nil_append, List.cons_append] at N'); (try dsimp only); (try k_sweep))
  k_with "eval ListComp" => (k_here; (with_reducible show wpAny _ _ (eval (Expr.ListComp _ [⟨_, Expr.Name (Str.ofString "seats") _, _, _⟩] _ _) _) _ _ _); k_dflt (refine comp_tup (F₀ := by k_asm) (by with_unfolding_all rfl) (by decide) (by rfl) (by decide) (by rfl) ?_); walk1; k_dflt (refine ⟨_, _, _, _, rfl, rfl, by k_asm, by k_asm, by k_mem, by first | size_fits | exact Nat.le_of_ble_eq_true rfl, ?_⟩); intro g'; lcg_lit)
  k_with "CompSrc" => (k_here; k_dflt (first | (refine LCg.CompSrc.ledger (by rfl) (by k_asm) (by k_asm) (by k_mem) (by first | size_fits | exact Nat.le_of_ble_eq_true rfl) ?_; intro g'; lcg_lit) | (refine LCg.CompSrc.range (by rfl) (by k_asm) (by k_asm) (by assumption) (by first | decide | rfl) (by first | rfl | decide) (by first | size_fits | exact Nat.le_of_ble_eq_true rfl) ?_; intro g'; lcg_lit)))
  k_with "subscriptTail Constant" => (k_here; (with_reducible show wpAny _ _ (subscriptTail _ _ (Value.str (Str.ofString "r\"b") _) (Value.int _ _)) _ _ _); k_dflt (refine' item_rb ?kcz8 ?_ ?ksz8 ?ktz8; (case kcz8 => omega); (case ksz8 => with_unfolding_all rfl); (case ktz8 => intro _; with_unfolding_all rfl); k_whole))
  k_with "binaryOp Add str str" => (k_here; (with_reducible show wpAny _ _ (binaryOp Operator.Add (Value.str ⟨List.toArray _⟩ _) (Value.str ⟨#[letter _]⟩ _)) _ _ _); (refine add_rec ?kcz9 ?_; (case kcz9 => omega)); intro _ _)
  k_with "call builtin:str.count" => (k_here; (with_reducible show wpAny _ _ (call (Value.builtin "str.count") [Value.str ⟨List.toArray _⟩ _, Value.str (Str.ofString _) _]) _ _ _); first | refine count_rec (c := 114) (by decide) ?_ | refine count_rec (c := 34) (by decide) ?_ | refine count_rec (c := 98) (by decide) ?_)
  have hrg := rng_small ht
  k_with "pyIter ref" => k_dflt (refine' deal_start (u := u) (v := v) (x := x) (way := 9) ?d1 ?d2 hrg ?d3 ?d4 hv ?d5 ?d6 ?d7 ?d8 ?d9 ?da ?db ?dc ?dd; (case d1 => exact rfl); (case d2 => assumption); (case d3 => k_asm); (case d4 => k_asm); (case d5 => assumption); (case d6 => omega); (case d7 => exact ⟨_, by assumption⟩); (case d8 => exact ⟨_, by assumption⟩); (case d9 => exact rfl); (case da => exact rfl); (case db => exact rfl)); rotate_left; (intro c9 T9 h tk hok hf hsep htl F' N'; obtain ⟨l9, sa, rt, vs, n9, w1, w2, oh, ow⟩ := c9; (try dsimp only at F' N' hok hf); unfold DMap at F'); rotate_left; (intro c9 T8 T9 i9 t9 h tk hi hok hf hf9 hsep F' N'; obtain ⟨l9, sa, rt, vs, n9, w1, w2, oh, ow⟩ := c9; obtain ⟨⟨ta, tb, tc, k9, hseat⟩, hst, hvt⟩ := hf9; obtain ⟨hlen, hrec, ⟨cv1, hcell1⟩, ⟨cv2, hcell2⟩⟩ := hok; (dsimp only at hlen hrec hcell1 hcell2 hseat hst F' N' hf); simp only [DMap] at F'; have hsb := seat_bd hlen (by have := ht.2; omega); have hl50 : l9.length ≤ 50 := (by have := ht.2; omega); have hvs : vs.length ≤ 50 := (by rw [hst.length]; unfold stepsD; rw [List.length_map, List.length_range]; exact hl50); have hU9 : 0 ≤ u * u ∧ u * u ≤ 1638400 := sq_bd (by omega); have hV9 : 0 ≤ v * v ∧ v * v ≤ 1638400 := sq_bd (by omega); have hX9 : 0 ≤ x * x ∧ x * x ≤ 1638400 := sq_bd (by omega); have hA9 : 0 ≤ sA l9 * (sA l9 + 1) ∧ sA l9 * (sA l9 + 1) ≤ 72 := hd_bd (by omega); have hB9 : 0 ≤ sB l9 * (sB l9 + 1) ∧ sB l9 * (sB l9 + 1) ≤ 72 := hd_bd (by omega); have hC9 : 0 ≤ sC l9 * (sC l9 + 1) ∧ sC l9 * (sC l9 + 1) ≤ 72 := hd_bd (by omega); have hB2 : 2 ≤ sB l9 * (sB l9 + 1) := hd_two (by omega); have hA2 : 2 ≤ sA l9 * (sA l9 + 1) := hd_two (by omega))
  k_with "call ref" => (with_reducible show wpAny _ _ (call (Value.ref 135) _) _ _ _); k_dflt (refine' con_use (con_party ?cb1 ?cb2 ?cb3 ?cb4) ?k1 ?k2 ?k3 ?k4 ?k5 ?kK ?kR ?kd ?ku ?_; (case k1 => k_asm); (case k2 => k_asm); (case k3 => k_asm); (case k4 => k_asm); (case k5 => k_asm); (case kK => first | exact rfl | assumption); (case kR => exact ⟨_, _, _, _, _, rfl, by k_mem⟩); (case kd => ktr_room); (case ku => ktr_units); (case cb1 => exact claim_ok hU9 hC9 hB9); (case cb2 => exact claim_ok hV9 hA9 hC9); (case cb3 => exact claim_ok hX9 hB9 hA9); (case cb4 => exact Or.inr (Or.inr (claim_four (sq_one hx0.1) hB2 hA2)))); intro d9 h' tk' hP9 F' N' l'; obtain ⟨dp9, dt9⟩ := d9; clear l'; (try simp only [List.nil_append] at N'); (try dsimp only at N'); (try dsimp only); (k_dflt (replace hP9 := rec_turn_9 hrec hP9)); obtain ⟨hrec9, hp9⟩ := hP9; (try k_sweep); (try k_fold)
  k_steps
  · k_dflt (refine' d_end (l := l9) (cc := letter _) ?f1 ?f2 ?f3 ?f4 ?f5 ?f6 ?g1 ?g2 ?g3 ?g4 ?g5 ?g6 ?g7 ?g8 hlen hrec9 ?g9 ?ga hf)
    (case f1 => k_asm)
    (case f2 => k_asm)
    (case f3 => exact rfl)
    (case f4 => exact rfl)
    (case f5 => exact rfl)
    (case f6 => intro y c1 c2 c3 c4 c5; simp only [c1, c2, c3, c4, c5, if_false])
    (case g1 => kst_entry)
    (case g2 => kst_entry)
    (case g3 => kst_entry)
    (case g4 => kst_entry)
    (case g5 => kst_entry)
    (case g6 => intro p9 h9; kst_mem)
    (case g7 => tbn_conj)
    (case g8 => omega)
    (case g9 => assumption)
    (case ga => assumption)
  · obtain ⟨tups, htu, hord, htd⟩ := htl
    subst htu
    refine' hret ⟨_, n9, vs, tups, l9⟩ _ _ ⟨hok.rc, hok.len, htd⟩ (by k_asm) (cb_drop (by k_asm) ?x) ?y
    case x =>
      intro p9 h9
      rcases List.mem_cons.mp h9 with rfl | h9
      · exact .head _
      · exact .tail _ (.tail _ (.tail _ (.tail _ h9)))
    case y => exact ord_cons (fun q9 h9 => (by have a9 := (by assumption : NLt _ _) q9 h9; show @LT.lt Nat _ _ _; omega)) hord

end
section
theorem con_dealA {w : World} {u v x way z : Int} {nt : Nat} (hz : z = (nt : Int)) (hu0 : 0 ≤ u ∧ u ≤ 1280) (hv0 : 0 ≤ v ∧ v ≤ 1280) (hx0 : 1 ≤ x ∧ x ≤ 1280) (ht : RngOk nt) (hw0 : 0 ≤ way ∧ way ≤ 9) :
  Con w 140 40
   (fun news vs => ∃ vl t1 t2 t3 n tt tw, vs = [.ref vl, .int z tt, .int way tw] ∧ (vl, listOf #[.int u t1, .int v t2, .int x t3] n) ∈ news)
   (fun d => Rec u v x way d.2.2.2.2 ∧ d.2.2.2.2.length = nt ∧ DatAll d.2.2.2.1 d.2.2.1 (stepsD d.2.2.2.2)) (fun d => (d.1, listOf d.2.2.1.toArray d.2.1) :: d.2.2.2.1) (fun d : Addr × Nat × List Value × List (Addr × Obj) × List Nat => .ref d.1) := by
  subst hz
  by_cases h9 : way = 9
  · subst h9
    exact con_deal9 hu0 hv0 hx0 ht
  · exact con_deal hu0 hv0 hx0 ht hw0.1 (by omega)
theorem q_true {Q : Value → Shared → Prop} {b : Bool} {s : Shared} (hb : b = true) (h : Q (.bool true) s) : Q (.bool b) s := by rw [hb]; exact h
theorem dat_up {T news : List (Addr × Obj)} {vs : List Value} {ds : List Dat} (h : DatAll T vs ds) (hs : ∀ p ∈ T, p ∈ news) : DatAll news vs ds := h.mono hs
theorem last_item {T : List (Addr × Obj)} {vs : List Value} {l : List Nat} (h : DatAll T vs (stepsD l)) (hl : 1 ≤ l.length) :
    ∃ q ta tb tc k, vs[vs.length - 1]? = some (.ref q) ∧ 1 ≤ vs.length ∧ vs.length ≤ l.length ∧ (q, tupOf #[.int (sA l) ta, .int (sB l) tb, .int (sC l) tc] k) ∈ T := by
  have hlen : (stepsD l).length = l.length := by unfold stepsD; rw [List.length_map, List.length_range]
  have hv := h.length
  have hi : l.length - 1 < (stepsD l).length := by omega
  obtain ⟨v', hv', hd⟩ := h.get hi
  have e : (stepsD l)[l.length - 1]'hi = seatD l := by
    have e1 : (stepsD l)[l.length - 1]'hi = seatD (l.take (l.length - 1 + 1)) := by simp [stepsD]
    rw [e1, show l.length - 1 + 1 = l.length by omega, List.take_length]
  rw [e] at hd
  obtain ⟨q, ta, tb, tc, k, rfl, hm⟩ := seat_ref hd
  refine ⟨q, ta, tb, tc, k, ?_, by omega, by omega, hm⟩
  rw [show vs.length - 1 = l.length - 1 by omega]
  exact hv'
section
variable {prog : Program} {w : World} {A : Around} {E : Value → Shared → Prop} {s : Shared} {h₀ : Heap} {L : Addr}
theorem last_step {value slice : Expr} {news T : List (Addr × Obj)} {sl : Addr} {vs : List Value} {n : Nat} {l : List Nat} {k : Int} {u : Tok} {Q : Value → Shared → Prop} (N : News h₀ L s.heap news) (hm : (sl, listOf vs.toArray n) ∈ news) (hd : DatAll T vs (stepsD l)) (hk : k = -1) (hl : 1 ≤ l.length)
    (hT : ∀ p ∈ T, p ∈ news) (h : ∀ q ta tb tc k, (q, tupOf #[.int (sA l) ta, .int (sB l) tb, .int (sC l) tc] k) ∈ news → Q (.ref q) s)
    (hs : subscripted slice false (.ref sl) (.int k u) = operate [.ref sl, .int k u] (getItem (.ref sl) (.int k u)) := by with_unfolding_all rfl) :
    wpAny (model prog w) A (subscriptTail value slice (.ref sl) (.int k u)) Q E s := by
  subst hk
  obtain ⟨q, ta, tb, tc, k, hv, h1, h2, hq⟩ := last_item hd hl
  refine kde_neg (j := vs.length - 1) ⟨_, (N _ hm).1, rfl, _, rfl⟩ (by decide) (by decide) ?_ hv (h q ta tb tc k (hT _ hq)) hs
  unfold seqIndex?
  simp
  omega
end
local macro_rules | `(tactic| k_mem) => `(tactic| ((with_reducible refine mem_of_mem ?_); ktn_app; first | (refine List.mem_append.mpr (Or.inl ?_); k_mem) | (refine List.mem_append.mpr (Or.inr ?_); k_mem)))
set_option rowWalk.seconds 100 in
set_option maxRecDepth 100000 in
set_option maxHeartbeats 400000000 in
theorem con_fair {w : World} {u v x way : Int} {nt : Nat} (hu0 : 1 ≤ u ∧ u ≤ 640) (hv0 : 1 ≤ v ∧ v ≤ 640) (hx0 : 1 ≤ x ∧ x ≤ 640) (ht : 3 ≤ nt ∧ nt ≤ 5) (hw0 : 0 ≤ way ∧ way ≤ 9) :
  Con w 159 60
   (fun news vs => ∃ vl t1 t2 t3 n tt tw, vs = [.ref vl, .int (nt : Int) tt, .int way tw] ∧ (vl, listOf #[.int u t1, .int v t2, .int x t3] n) ∈ news)
   (fun _ => True) (fun _ => []) (fun _ : Unit => .bool true) := by
  unfold Con
  w_top off
  k_fill
  intro p loose mean mg mb dp un gd cn cs ca ccd cl outer A₀ base h₀ L m news s vs Q E B F X N T hk hR hd hu hret
  obtain ⟨vl, t1, t2, t3, n, tt, tw, rfl, hv⟩ := hR
  refine wpAny_call ?_
  k_dflt ktr_enter
  k_with_none
  k_with "call ref" => (k_here; (with_reducible show wpAny _ _ (call (Value.ref 21) _) _ _ _); (try simp only [Int.reduceToNat, List.getD_cons_zero, List.getD_cons_succ]); k_dflt (refine' con_use (con_hls ?cb1z0 ?cb2z0 ?cb3z0 ?cb4z0) ?k1z0 ?k2z0 ?k3z0 ?k4z0 ?k5z0 ?kKz0 ?kRz0 ?kdz0 ?kuz0 ?_; (case k1z0 => k_asm); (case k2z0 => k_asm); (case k3z0 => k_asm); (case k4z0 => k_asm); (case k5z0 => k_asm); (case kKz0 => first | exact rfl | assumption); (case kRz0 => exact ⟨_, _, _, rfl⟩); (case kdz0 => ktr_room); (case kuz0 => ktr_units); (case cb1z0 => omega); (case cb2z0 => omega); (case cb3z0 => omega); (case cb4z0 => omega)); intro d9 h' tk' hP9 F' N' l'; obtain ⟨da9, dh9, dl9, ds9, dt9, du9, dv9⟩ := d9; (replace l' := lt1 l'); (try simp only [List.cons_append, List.nil_append] at N'); (try dsimp only at hP9 N' l'); (try dsimp only); (try k_lt l'); (try k_sweep); (try k_fold))
  k_with "call ref" => (k_here; (with_reducible show wpAny _ _ (call (Value.ref 123) _) _ _ _); k_dflt (refine' con_use (con_sentL ?cb1z1) ?k1z1 ?k2z1 ?k3z1 ?k4z1 ?k5z1 ?kKz1 ?kRz1 ?kdz1 ?kuz1 ?_; (case k1z1 => k_asm); (case k2z1 => k_asm); (case k3z1 => k_asm); (case k4z1 => k_asm); (case k5z1 => k_asm); (case kKz1 => first | exact rfl | assumption); (case kRz1 => exact ⟨_, rfl⟩); (case kdz1 => ktr_room); (case kuz1 => ktr_units); (case cb1z1 => first | omega | (simp only [List.length_append, List.length_cons, List.length_nil]; omega))); intro d9 h' tk' hP9 F' N' l'; obtain ⟨dx9, dt9⟩ := d9; clear l'; (try simp only [List.nil_append] at N'); (try dsimp only at hP9 N'); (try dsimp only); subst hP9; (try k_sweep); (try k_fold))
  k_with "call ref" => (k_here; (with_reducible show wpAny _ _ (call (Value.ref 109) [Value.str (sentOf _) _]) _ _ _); k_dflt (refine' con_use (con_p257 ?cb1z2) ?k1z2 ?k2z2 ?k3z2 ?k4z2 ?k5z2 ?kKz2 ?kRz2 ?kdz2 ?kuz2 ?_; (case k1z2 => k_asm); (case k2z2 => k_asm); (case k3z2 => k_asm); (case k4z2 => k_asm); (case k5z2 => k_asm); (case kKz2 => first | exact rfl | assumption); (case kRz2 => exact ⟨_, rfl⟩); (case kdz2 => ktr_room); (case kuz2 => ktr_units); (case cb1z2 => first | omega | (simp only [List.length_append, List.length_cons, List.length_nil]; omega))); intro d9 h' tk' hP9 F' N' l'; obtain ⟨dx9, dt9⟩ := d9; clear l'; (try simp only [List.nil_append] at N'); (try dsimp only at hP9 N'); (try dsimp only); subst hP9; (try k_sweep); (try k_fold))
  k_with "CompRest" => (with_unfolding_all first | (refine LCg.CompRest.succ ?_; intro v' I' oI' C' oC' D' m' h' tk' E' hv' hC' hx' F' N' off' ne'; clear ne'; (first | lcg_open hv' | (obtain ⟨t9', hv9'⟩ := hv'; subst hv9')); (try k_sweep)) | refine LCg.CompRest.zero ?_)
  k_with "CompEnd" => (k_here; refine LCg.CompEnd.intro (by assumption) (by assumption) _ (fun _ h => h) (by assumption) (by first | k_mem | lcg_src) ?_; (rename LCg.Off3 _ _ _ _ => off9); clear off9)
  k_with "FinE" => ((unfold LCg.FinE); intro D' h' tk' F' N' o1'; (try simp only [List.nil_append, List.cons_append] at N'); (try dsimp only); (try k_sweep))
  k_with "eval ListComp" => (k_here; (with_reducible show wpAny _ _ (eval (Expr.ListComp _ [⟨_, Expr.Name (Str.ofString "seats") _, _, _⟩] _ _) _) _ _ _); k_dflt (refine comp_tup (F₀ := by k_asm) (by with_unfolding_all rfl) (by decide) (by rfl) (by decide) (by rfl) ?_); walk1; k_dflt (refine ⟨_, _, _, _, rfl, rfl, by k_asm, by k_asm, by k_mem, by first | size_fits | exact Nat.le_of_ble_eq_true rfl, ?_⟩); intro g'; lcg_lit)
  k_with "CompSrc" => (k_here; k_dflt (first | (refine LCg.CompSrc.ledger (by rfl) (by k_asm) (by k_asm) (by k_mem) (by first | size_fits | exact Nat.le_of_ble_eq_true rfl) ?_; intro g'; lcg_lit) | (refine LCg.CompSrc.range (by rfl) (by k_asm) (by k_asm) (by assumption) (by first | decide | rfl) (by first | rfl | decide) (by first | size_fits | exact Nat.le_of_ble_eq_true rfl) ?_; intro g'; lcg_lit)))
  k_with "subscriptTail Constant" => (k_here; (with_reducible show wpAny _ _ (subscriptTail _ _ (Value.str (Str.ofString "r\"b") _) (Value.int _ _)) _ _ _); k_dflt (refine' item_rb ?kcz8 ?_ ?ksz8 ?ktz8; (case kcz8 => omega); (case ksz8 => with_unfolding_all rfl); (case ktz8 => intro _; with_unfolding_all rfl); k_whole))
  k_with "binaryOp Add str str" => (k_here; (with_reducible show wpAny _ _ (binaryOp Operator.Add (Value.str ⟨List.toArray _⟩ _) (Value.str ⟨#[letter _]⟩ _)) _ _ _); (refine add_rec ?kcz9 ?_; (case kcz9 => omega)); intro _ _)
  k_with "call builtin:str.count" => (k_here; (with_reducible show wpAny _ _ (call (Value.builtin "str.count") [Value.str ⟨List.toArray _⟩ _, Value.str (Str.ofString _) _]) _ _ _); first | refine count_rec (c := 114) (by decide) ?_ | refine count_rec (c := 34) (by decide) ?_ | refine count_rec (c := 98) (by decide) ?_)
  k_with "call ref" => (k_here; (with_reducible show wpAny _ _ (call (Value.ref 140) _) _ _ _); k_dflt (refine' con_use (con_dealA ?cb1z11 ?cb2z11 ?cb3z11 ?cb4z11 ?cb5z11 ?cb6z11) ?k1z11 ?k2z11 ?k3z11 ?k4z11 ?k5z11 ?kKz11 ?kRz11 ?kdz11 ?kuz11 ?_; (case k1z11 => k_asm); (case k2z11 => k_asm); (case k3z11 => k_asm); (case k4z11 => k_asm); (case k5z11 => k_asm); (case kKz11 => first | exact rfl | assumption); (case kRz11 => exact ⟨_, _, _, _, _, _, _, rfl, by k_mem⟩); (case kdz11 => ktr_room); (case kuz11 => ktr_units); (case cb1z11 => first | exact (Int.natCast_succ _).symm | exact rfl); (case cb2z11 => first | omega | (simp; omega)); (case cb3z11 => first | omega | (simp; omega)); (case cb4z11 => first | omega | (simp; omega)); (case cb5z11 => exact ⟨by omega, by omega⟩); (case cb6z11 => omega)); intro d9 h' tk' hP9 F' N' l'; obtain ⟨sl9, n9, vs9, tups9, l9⟩ := d9; (dsimp only at hP9); obtain ⟨hr9, hl9, hd9⟩ := hP9; clear l'; (try simp only [List.cons_append, List.nil_append] at N'); (try dsimp only at N'); (try dsimp only); (try k_sweep); (try k_fold))
  k_with "call ref" => (k_here; (with_reducible show wpAny _ _ (call (Value.ref 152) _) _ _ _); k_dflt (refine' con_use (con_least ?cb1z12 ?cb2z12 ?cb3z12 ?cb4z12 ?cb5z12 ?cb6z12) ?k1z12 ?k2z12 ?k3z12 ?k4z12 ?k5z12 ?kKz12 ?kRz12 ?kdz12 ?kuz12 ?_; (case k1z12 => k_asm); (case k2z12 => k_asm); (case k3z12 => k_asm); (case k4z12 => k_asm); (case k5z12 => k_asm); (case kKz12 => first | exact rfl | assumption); (case kRz12 => exact ⟨_, _, _, _, _, _, _, _, _, rfl, by k_mem, by k_mem, dat_up (by assumption) (by intro p9 h9; kst_mem)⟩); (case kdz12 => ktr_room); (case kuz12 => ktr_units); (case cb6z12 => assumption); (case cb1z12 => omega); (case cb2z12 => omega); (case cb3z12 => omega); (case cb4z12 => omega); (case cb5z12 => omega)); intro d9 h' tk' hP9 F' N' l'; clear l' hP9; (try simp only [List.cons_append, List.nil_append] at N'); (try dsimp only at N'); (try dsimp only); (try k_sweep); (try k_fold))
  k_with "subscriptTail" => (k_here; (with_reducible show wpAny _ _ (subscriptTail _ _ (Value.ref _) (Value.int _ _)) _ _ _); k_dflt (refine' last_step ?f1z13 ?f2z13 ?f3z13 ?f4z13 ?f5z13 ?f6z13 ?_ ?f7z13; (case f1z13 => k_asm); (case f2z13 => k_mem); (case f3z13 => assumption); (case f4z13 => exact rfl); (case f5z13 => omega); (case f6z13 => intro p9 h9; kst_mem); (case f7z13 => with_unfolding_all rfl)); intro q9 ta9 tb9 tc9 k9 hq9)
  k_steps
  all_goals have hf := fair_of_recs (by omega) (by omega) (by omega) hw0 (by assumption : Rec u v x way _) (by assumption : Rec (u + v) 0 x way _) (by omega)
  · refine q_true ?_ (hret () _ _ trivial (by k_asm) (cb_drop (by k_asm) (by intro p9 h9; kst_mem)) (by intro _ _ _ h; cases h))
    apply decide_eq_true
    split <;> omega
  · exfalso; omega
  · exfalso; omega

end
section
theorem ints4 {cs : List Value} {ns : List Int} (h : IntsAre cs ns) (hl : ns.length = 4) : ∃ a b c d ta tb tc td, cs = [.int a ta, .int b tb, .int c tc, .int d td] ∧ ns = [a, b, c, d] := by
  cases h with
  | nil => simp at hl
  | cons a ta h => cases h with
    | nil => simp at hl
    | cons b tb h => cases h with
      | nil => simp at hl
      | cons c tc h => cases h with
        | nil => simp at hl
        | cons d td h => cases h with
          | nil => exact ⟨a, b, c, d, ta, tb, tc, td, rfl, rfl⟩
          | cons => simp at hl
theorem con_votes_use {w : World} {n1 n2 n3 : Int} {p : Program} {loose : List Str} {mean : ExcName → Option Value} {mg mb : Str → Option Value} {dp un : Nat} {gd : Option (List Code)} {cn : Str} {cs : Scope} {a : Addr} {ccd : Value} {cl : List (Str × Addr)} {outer : List Env} {A₀ : Around} {base h₀ : Heap} {L : Addr} {m : Str → Option Value} {all : List (Addr × Obj)} {s : Shared} {l q : Addr} {to : Obj} {t1 t2 t3 : Tok} {k : Nat} {Q E : Value → Shared → Prop}
    (hn1 : 1 ≤ n1 ∧ n1 ≤ 640) (hn2 : 1 ≤ n2 ∧ n2 ≤ 640) (hn3 : 1 ≤ n3 ∧ n3 ≤ 640)
    (B : Below A₀ base outer h₀) (F : Fr h₀ L s.heap m) (X : (hd.heap_39 w.params).In h₀) (N : News h₀ L s.heap all) (T : Top p loose mean mg mb h₀) (hk : cs.kind = .function) (C9 : CodeHd h₀ 127 125)
    (m0 : (125, tabObj #[]) ∈ all) (ml : (l, listOf #[.int n1 t1, .int n2 t2, .int n3 t3] k) ∈ all) (mt : (q, to) ∈ all) (nl : @Ne Nat l 125) (nq : @Ne Nat q 125) (hd : dp + 60 < recursionLimit) (hu : un + 10 * 60 < cLine)
    (h : ∀ (d : Addr) (u1 u2 u3 : Tok) (k' : Nat) (ps : Array Value) h' tk', Fr h₀ L h' m → News h₀ L h' [(d, listOf #[.int n1 u1, .int n2 u2, .int n3 u3] k'), (125, tabObj ps), (l, listOf #[.int n1 t1, .int n2 t2, .int n3 t3] k), (q, to)] → Q (.ref d) { s with heap := h', toks := tk' }) :
    wpAny (model PySem.Challenge.rw_kl0516_01.row.prog w) (ktrTop dp un gd cn cs L a ccd cl outer) (call (.ref 128) [.ref l]) Q E s := by
  have N' : News h₀ L s.heap ((125, tabObj #[]) :: [(l, listOf #[.int n1 t1, .int n2 t2, .int n3 t3] k), (q, to)]) := by
    intro p hp
    simp only [List.mem_cons, List.not_mem_nil, or_false] at hp
    rcases hp with rfl | rfl | rfl
    · exact N _ m0
    · exact N _ ml
    · exact N _ mt
  refine con_votes hn1 hn2 hn3 _ _ _ _ _ _ _ _ _ _ _ _ _ _ _ _ _ _ _ _ _ _ _ _ _ _ _ _ B F X N' T hk C9 ?_ (.head _) hd hu (fun d u1 u2 u3 k' ps h' tk' F' N' _ => h d u1 u2 u3 k' ps h' tk' F' N')
  intro p hp
  simp only [List.mem_cons, List.not_mem_nil, or_false] at hp
  rcases hp with rfl | rfl
  · exact nl
  · exact nq
theorem con_fairZ {w : World} {u v x way z : Int} (hu0 : 1 ≤ u ∧ u ≤ 640) (hv0 : 1 ≤ v ∧ v ≤ 640) (hx0 : 1 ≤ x ∧ x ≤ 640) (ht : 3 ≤ z ∧ z ≤ 5) (hw0 : 0 ≤ way ∧ way ≤ 9) :
  Con w 159 60
   (fun news vs => ∃ vl t1 t2 t3 n tt tw, vs = [.ref vl, .int z tt, .int way tw] ∧ (vl, listOf #[.int u t1, .int v t2, .int x t3] n) ∈ news)
   (fun _ => True) (fun _ => []) (fun _ : Unit => .bool true) := by
  obtain ⟨nt, rfl⟩ := Int.eq_ofNat_of_zero_le (show 0 ≤ z by omega)
  exact con_fair hu0 hv0 hx0 (by omega) hw0
theorem turns_bd (z : Int) : 3 ≤ 3 + (z.fmod 27).fdiv 9 ∧ 3 + (z.fmod 27).fdiv 9 ≤ 5 := by
  have h1 := Int.fmod_nonneg_of_pos z (show (0 : Int) < 27 by decide)
  have h2 := Int.fmod_lt_of_pos z (show (0 : Int) < 27 by decide)
  rw [Int.fdiv_eq_ediv_of_nonneg _ (by decide)]
  omega
theorem way_bd (z : Int) : 0 ≤ z.fmod 9 ∧ z.fmod 9 ≤ 9 := by
  have h1 := Int.fmod_nonneg_of_pos z (show (0 : Int) < 9 by decide)
  have h2 := Int.fmod_lt_of_pos z (show (0 : Int) < 9 by decide)
  omega
theorem num_bd (z : Int) : 1 ≤ 1 + z.fmod 640 ∧ 1 + z.fmod 640 ≤ 640 := by
  have h1 := Int.fmod_nonneg_of_pos z (show (0 : Int) < 640 by decide)
  have h2 := Int.fmod_lt_of_pos z (show (0 : Int) < 640 by decide)
  omega
set_option rowWalk.seconds 100 in
set_option maxRecDepth 100000 in
set_option maxHeartbeats 400000000 in
theorem top : PySem.Challenge.rw_kl0516_01.Holds := Mine.hd (by
  k_go0
  (all_goals try k_fold)
  k_with_none
  k_with "call ref" => (k_here; (with_reducible show wpAny _ _ (call (Value.ref 21) _) _ _ _); (try simp only [Int.reduceToNat, List.getD_cons_zero, List.getD_cons_succ]); k_dflt (refine' con_use (con_hls ?cb1z0 ?cb2z0 ?cb3z0 ?cb4z0) ?k1z0 ?k2z0 ?k3z0 ?k4z0 ?k5z0 ?kKz0 ?kRz0 ?kdz0 ?kuz0 ?_; (case k1z0 => k_asm); (case k2z0 => k_asm); (case k3z0 => k_asm); (case k4z0 => k_asm); (case k5z0 => k_asm); (case kKz0 => first | exact rfl | assumption); (case kRz0 => exact ⟨_, _, _, rfl⟩); (case kdz0 => ktr_room); (case kuz0 => ktr_units); (case cb1z0 => omega); (case cb2z0 => omega); (case cb3z0 => omega); (case cb4z0 => omega)); intro d9 h' tk' hP9 F' N' l'; obtain ⟨da9, dh9, dl9, ds9, dt9, du9, dv9⟩ := d9; (replace l' := lt1 l'); (try simp only [List.cons_append, List.nil_append] at N'); (try dsimp only at hP9 N' l'); (try dsimp only); (try k_lt l'); (try k_sweep); (try k_fold))
  k_with "call ref" => (k_here; (with_reducible show wpAny _ _ (call (Value.ref 123) _) _ _ _); k_dflt (refine' con_use (con_sentL ?cb1z1) ?k1z1 ?k2z1 ?k3z1 ?k4z1 ?k5z1 ?kKz1 ?kRz1 ?kdz1 ?kuz1 ?_; (case k1z1 => k_asm); (case k2z1 => k_asm); (case k3z1 => k_asm); (case k4z1 => k_asm); (case k5z1 => k_asm); (case kKz1 => first | exact rfl | assumption); (case kRz1 => exact ⟨_, rfl⟩); (case kdz1 => ktr_room); (case kuz1 => ktr_units); (case cb1z1 => first | omega | (simp only [List.length_append, List.length_cons, List.length_nil]; omega))); intro d9 h' tk' hP9 F' N' l'; obtain ⟨dx9, dt9⟩ := d9; clear l'; (try simp only [List.nil_append] at N'); (try dsimp only at hP9 N'); (try dsimp only); subst hP9; (try k_sweep); (try k_fold))
  k_with "call ref" => (k_here; (with_reducible show wpAny _ _ (call (Value.ref 109) [Value.str (sentOf _) _]) _ _ _); k_dflt (refine' con_use (con_p257 ?cb1z2) ?k1z2 ?k2z2 ?k3z2 ?k4z2 ?k5z2 ?kKz2 ?kRz2 ?kdz2 ?kuz2 ?_; (case k1z2 => k_asm); (case k2z2 => k_asm); (case k3z2 => k_asm); (case k4z2 => k_asm); (case k5z2 => k_asm); (case kKz2 => first | exact rfl | assumption); (case kRz2 => exact ⟨_, rfl⟩); (case kdz2 => ktr_room); (case kuz2 => ktr_units); (case cb1z2 => first | omega | (simp only [List.length_append, List.length_cons, List.length_nil]; omega))); intro d9 h' tk' hP9 F' N' l'; obtain ⟨dx9, dt9⟩ := d9; clear l'; (try simp only [List.nil_append] at N'); (try dsimp only at hP9 N'); (try dsimp only); subst hP9; (try k_sweep); (try k_fold))
  k_with "CompRest" => (with_unfolding_all first | (refine LCg.CompRest.succ ?_; intro v' I' oI' C' oC' D' m' h' tk' E' hv' hC' hx' F' N' off' ne'; clear ne'; (first | lcg_open hv' | (obtain ⟨t9', hv9'⟩ := hv'; subst hv9')); (try k_sweep)) | refine LCg.CompRest.zero ?_)
  k_with "CompEnd" => (k_here; refine LCg.CompEnd.intro (by assumption) (by assumption) _ (fun _ h => h) (by assumption) (by first | k_mem | lcg_src) ?_; (rename LCg.Off3 _ _ _ _ => off9); clear off9)
  k_with "FinE" => ((unfold LCg.FinE); intro D' h' tk' F' N' o1'; (try simp only [List.nil_append, List.cons_append] at N'); (try dsimp only); (try k_sweep))
  k_with "eval ListComp" => (k_here; (with_reducible show wpAny _ _ (eval (Expr.ListComp _ [⟨_, Expr.Name (Str.ofString "seats") _, _, _⟩] _ _) _) _ _ _); k_dflt (refine comp_tup (F₀ := by k_asm) (by with_unfolding_all rfl) (by decide) (by rfl) (by decide) (by rfl) ?_); walk1; k_dflt (refine ⟨_, _, _, _, rfl, rfl, by k_asm, by k_asm, by k_mem, by first | size_fits | exact Nat.le_of_ble_eq_true rfl, ?_⟩); intro g'; lcg_lit)
  k_with "CompSrc" => (k_here; k_dflt (first | (refine LCg.CompSrc.ledger (by rfl) (by k_asm) (by k_asm) (by k_mem) (by first | size_fits | exact Nat.le_of_ble_eq_true rfl) ?_; intro g'; lcg_lit) | (refine LCg.CompSrc.range (by rfl) (by k_asm) (by k_asm) (by assumption) (by first | decide | rfl) (by first | rfl | decide) (by first | size_fits | exact Nat.le_of_ble_eq_true rfl) ?_; intro g'; lcg_lit)))
  k_with "subscriptTail Constant" => (k_here; (with_reducible show wpAny _ _ (subscriptTail _ _ (Value.str (Str.ofString "r\"b") _) (Value.int _ _)) _ _ _); k_dflt (refine' item_rb ?kcz8 ?_ ?ksz8 ?ktz8; (case kcz8 => omega); (case ksz8 => with_unfolding_all rfl); (case ktz8 => intro _; with_unfolding_all rfl); k_whole))
  k_with "binaryOp Add str str" => (k_here; (with_reducible show wpAny _ _ (binaryOp Operator.Add (Value.str ⟨List.toArray _⟩ _) (Value.str ⟨#[letter _]⟩ _)) _ _ _); (refine add_rec ?kcz9 ?_; (case kcz9 => omega)); intro _ _)
  k_with "call builtin:str.count" => (k_here; (with_reducible show wpAny _ _ (call (Value.builtin "str.count") [Value.str ⟨List.toArray _⟩ _, Value.str (Str.ofString _) _]) _ _ _); first | refine count_rec (c := 114) (by decide) ?_ | refine count_rec (c := 34) (by decide) ?_ | refine count_rec (c := 98) (by decide) ?_)
  k_with "exec For Tuple Call cons nil" => (k_here; (rename Fr _ _ _ _ => lF'); (with_unfolding_all refine' For_turns lF' ?_; k_whole))
  k_with "call ref" => (k_here; (with_reducible show wpAny _ _ (call (Value.ref 128) _) _ _ _); k_dflt (refine' con_votes_use ?n1z12 ?n2z12 ?n3z12 ?k1z12 ?k2z12 ?k3z12 ?k4z12 ?k5z12 ?kKz12 ?kCz12 ?m0z12 ?mlz12 ?mtz12 ?nlz12 ?nqz12 ?kdz12 ?kuz12 ?_; (case k1z12 => k_asm); (case k2z12 => k_asm); (case k3z12 => k_asm); (case k4z12 => k_asm); (case k5z12 => k_asm); (case kKz12 => first | exact rfl | assumption); (case kCz12 => assumption); (case m0z12 => k_mem); (case mlz12 => k_mem); (case mtz12 => exact .head _); (case n1z12 => exact num_bd _); (case n2z12 => exact num_bd _); (case n3z12 => exact num_bd _); (case nlz12 => k_ne); (case nqz12 => k_ne); (case kdz12 => ktr_room); (case kuz12 => ktr_units)); intro d9 ta9 tb9 tc9 k9 ps9 h' tk' F' N'; (try dsimp only at N'); (try dsimp only); (try k_sweep); (try k_fold))
  k_with "call ref" => (k_here; (with_reducible show wpAny _ _ (call (Value.ref 102) _) _ _ _); k_dflt (refine' con_use (con_p229 ?cb1z13 ?cb2z13) ?k1z13 ?k2z13 ?k3z13 ?k4z13 ?k5z13 ?kKz13 ?kRz13 ?kdz13 ?kuz13 ?_; (case k1z13 => k_asm); (case k2z13 => k_asm); (case k3z13 => k_asm); (case k4z13 => k_asm); (case k5z13 => k_asm); (case kKz13 => first | exact rfl | assumption); (case kRz13 => exact ⟨_, _, _, _, _, rfl, by k_mem⟩); (case kdz13 => ktr_room); (case kuz13 => ktr_units); (case cb1z13 => exact fmod_lo _ (by decide)); (case cb2z13 => exact fmod_hi _ (by decide))); intro d9 h' tk' hP9 F' N' l'; obtain ⟨da9, dt9, du9⟩ := d9; (have l9 := lt1 l'); (try k_lt l9); clear hP9 l'; (try simp only [List.cons_append, List.nil_append] at N'); (try dsimp only at N'); (try dsimp only); (try k_sweep); (try k_fold))
  k_with "call ref" => (k_here; (with_reducible show wpAny _ _ (call (Value.ref 159) _) _ _ _); k_dflt (refine' con_use (con_fairZ ?cb1z14 ?cb2z14 ?cb3z14 ?cb4z14 ?cb5z14) ?k1z14 ?k2z14 ?k3z14 ?k4z14 ?k5z14 ?kKz14 ?kRz14 ?kdz14 ?kuz14 ?_; (case k1z14 => k_asm); (case k2z14 => k_asm); (case k3z14 => k_asm); (case k4z14 => k_asm); (case k5z14 => k_asm); (case kKz14 => first | exact rfl | assumption); (case kRz14 => exact ⟨_, _, _, _, _, _, _, rfl, by k_mem⟩); (case kdz14 => ktr_room); (case kuz14 => ktr_units); (case cb1z14 => exact num_bd _); (case cb2z14 => exact num_bd _); (case cb3z14 => exact num_bd _); (case cb4z14 => exact turns_bd _); (case cb5z14 => exact way_bd _)); intro d9 h' tk' hP9 F' N' l'; clear l' hP9; (try simp only [List.cons_append, List.nil_append] at N'); (try dsimp only at N'); (try dsimp only); (try k_sweep); (try k_fold))
  k_with "call ref" => (k_here; (with_reducible show wpAny _ _ (call (Value.ref 159) [_, _, Value.int 9 _]) _ _ _); k_dflt (refine' con_use (con_fairZ (way := 9) ?cb1z15 ?cb2z15 ?cb3z15 ?cb4z15 ?cb5z15) ?k1z15 ?k2z15 ?k3z15 ?k4z15 ?k5z15 ?kKz15 ?kRz15 ?kdz15 ?kuz15 ?_; (case k1z15 => k_asm); (case k2z15 => k_asm); (case k3z15 => k_asm); (case k4z15 => k_asm); (case k5z15 => k_asm); (case kKz15 => first | exact rfl | assumption); (case kRz15 => exact ⟨_, _, _, _, _, _, _, rfl, by k_mem⟩); (case kdz15 => ktr_room); (case kuz15 => ktr_units); (case cb1z15 => exact num_bd _); (case cb2z15 => exact num_bd _); (case cb3z15 => exact num_bd _); (case cb4z15 => exact turns_bd _); (case cb5z15 => decide)); intro d9 h' tk' hP9 F' N' l'; clear l' hP9; (try simp only [List.cons_append, List.nil_append] at N'); (try dsimp only at N'); (try dsimp only); (try k_sweep); (try k_fold))
  k_steps
  k_dflt (refine' cells_loop (ns := [227, 353, 97, 4]) ?dm8 ?dn8 ?do8 ?dp8 ?dt8 ?ds8 ?du8 ?dv8 ?dq8 ?dr8)
  (case do8 => assumption)
  (case dp8 => assumption)
  (case dm8 => exact rfl)
  (case dn8 => exact rfl)
  (case dt8 => assumption)
  (case ds8 => exact IntsAre.cons _ _ (IntsAre.cons _ _ (IntsAre.cons _ _ (IntsAre.cons _ _ IntsAre.nil))))
  (case du8 => rfl)
  (case dv8 => exact rfl)
  rotate_left
  (intro u8 cs8 ns8 k8 h tk hcs8 hns8 F' N'; unfold CMap at F'; obtain ⟨a8, b8, c8, e8, ta8, tb8, tc8, te8, rfl, rfl⟩ := ints4 hcs8 hns8; clear hcs8 hns8)
  rotate_left
  (intro I8 i8 x8 tx8 u8 h tk T8 t8 oE8 oI8 cs8 ns8 k8 hDI8 hlI8 hnl8 hcs8 hns8 hT8 F' N'; unfold CMap at F')
  k_steps
  · k_dflt (refine' cpost_next ?w1 ?w2 ?w3 ?w4 ?w5; (case w1 => k_asm); (case w2 => exact rfl); (case w3 => assumption); (case w4 => (simp only [List.length_set]; exact hns8)); (case w5 => k_asm)))

end
end
end Mine
theorem PySem.Challenge.cw_kl0516_01_holds : PySem.Challenge.rw_kl0516_01.Holds := by
  exact Mine.top

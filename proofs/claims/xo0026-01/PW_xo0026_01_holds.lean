import PyProof.Rows.All
import Wide.All
import OpenK.AllK
import Wide.FinOn
import Lean
import PySem.Challenge.RW_xo0026_01
open PySem PySem.W PyProof.Rows
set_option Elab.async false
set_option maxRecDepth 100000
set_option maxHeartbeats 8000000
set_option linter.unusedSimpArgs false
set_option linter.unusedVariables false
set_option rowWalk.seconds 0
set_option compiler.extract_closed false
namespace Mine
abbrev prog₀ : Program := PySem.Challenge.pw_xo0026_01
noncomputable def view : Program := { prog₀ with main := { prog₀.main with body := [0, 2, 3, 4, 6, 8, 9, 10, 12, 14, 15, 16, 17, 18, 19, 20, 21, 22].filterMap fun i => prog₀.main.body[i]? } }
section
local macro_rules | `(tactic| o_law) => `(tactic| refine holds_law (by decide +kernel) fun said => ?_)
local macro_rules | `(tactic| o_head $H) => `(tactic| (
  refine holds_open (q := view) (loose := [PySem.Str.ofString "IPV4_RE"]) (Xt := fun s => xlAt view [] s && recOk (RowW.records (PySem.Challenge.rw_xo0026_01).row.toRowW) s) (XP := XL view []) (Yf := Hook.obs $H) (Ya := Hook.val $H) (YP := Hook.says $H) (N := 3278) ?hl (Hook.of $H) (Hook.keeps $H) (fun s e => xl_of s (Bool.and_eq_true_iff.mp e).1) XL.keeps (by rfl) (by rfl) (by rfl) (fun s e => recFacts_of (Bool.and_eq_true_iff.mp e).2) (by rfl) ‹_› (by decide +kernel) ⟨rfl, rfl, rfl, rfl, rfl, by decide +kernel⟩ ?hw ?hc
  (case hl => intro w; kernel_rfl)))
open_top hd for PySem.Challenge.rw_xo0026_01
end
theorem some_cx : Nonempty (World × Shared × Shared × (Str → Option Value) × (Str → Option Value) × Addr × Value × Value) :=
  ⟨{ draws := fun _ _ => 0, params := { strHash := fun _ => 0, shareClass := fun _ => 0, mergeTok := fun t => t, idOf := fun _ => 0, idOfShared := fun _ _ => 0, followText := fun _ => false, idOfImm := fun _ => 0 } }, {}, {}, fun _ => none, fun _ => none, (0 : Nat), .none, .none⟩
section
variable {G Y : World → Shared → Shared → (Str → Option Value) → (Str → Option Value) → Prop} {R : World → Shared → Shared → (Str → Option Value) → (Str → Option Value) → Addr → Obj → Value → Value → Value → Prop} {H : Prop}
noncomputable def cex (_ : (∀ w s₀ s₁ mg mb, G w s₀ s₁ mg mb → Y w s₀ s₁ mg mb → ∀ fa o pm cd doc, R w s₀ s₁ mg mb fa o pm cd doc) → H) : World × Shared × Shared × (Str → Option Value) × (Str → Option Value) × Addr × Value × Value :=
  @Classical.epsilon _ some_cx fun c => ¬ (G c.1 c.2.1 c.2.2.1 c.2.2.2.1 c.2.2.2.2.1 → Y c.1 c.2.1 c.2.2.1 c.2.2.2.1 c.2.2.2.2.1 → ∀ o cd, R c.1 c.2.1 c.2.2.1 c.2.2.2.1 c.2.2.2.2.1 c.2.2.2.2.2.1 o c.2.2.2.2.2.2.1 cd c.2.2.2.2.2.2.2)
theorem close (f : (∀ w s₀ s₁ mg mb, G w s₀ s₁ mg mb → Y w s₀ s₁ mg mb → ∀ fa o pm cd doc, R w s₀ s₁ mg mb fa o pm cd doc) → H) (w : World) (s₀ s₁ : Shared) (mg mb : Str → Option Value) (fa : Addr) (pm doc : Value) (e : (w, s₀, s₁, mg, mb, fa, pm, doc) = cex f) (h : G w s₀ s₁ mg mb → Y w s₀ s₁ mg mb → ∀ o cd, R w s₀ s₁ mg mb fa o pm cd doc) : H :=
  f fun w' s₀' s₁' mg' mb' g y fa' o' pm' cd' doc' => Classical.byContradiction fun n => by
    have k := @Classical.epsilon_spec _ (fun c : World × Shared × Shared × (Str → Option Value) × (Str → Option Value) × Addr × Value × Value => ¬ (G c.1 c.2.1 c.2.2.1 c.2.2.2.1 c.2.2.2.2.1 → Y c.1 c.2.1 c.2.2.1 c.2.2.2.1 c.2.2.2.2.1 → ∀ o cd, R c.1 c.2.1 c.2.2.1 c.2.2.2.1 c.2.2.2.2.1 c.2.2.2.2.2.1 o c.2.2.2.2.2.2.1 cd c.2.2.2.2.2.2.2)) ⟨(w', s₀', s₁', mg', mb', fa', pm', doc'), fun q => n (q g y o' cd')⟩
    change ¬ (G (cex f).1 (cex f).2.1 (cex f).2.2.1 (cex f).2.2.2.1 (cex f).2.2.2.2.1 → Y (cex f).1 (cex f).2.1 (cex f).2.2.1 (cex f).2.2.2.1 (cex f).2.2.2.2.1 → ∀ o cd, R (cex f).1 (cex f).2.1 (cex f).2.2.1 (cex f).2.2.2.1 (cex f).2.2.2.2.1 (cex f).2.2.2.2.2.1 o (cex f).2.2.2.2.2.2.1 cd (cex f).2.2.2.2.2.2.2) at k
    rw [← e] at k
    exact k h
end
noncomputable def c0 : World × Shared × Shared × (Str → Option Value) × (Str → Option Value) × Addr × Value × Value := cex hd
noncomputable def w : World := c0.1
noncomputable def lS0 : Shared := c0.2.1
noncomputable def lS1 : Shared := c0.2.2.1
noncomputable def lMg : Str → Option Value := c0.2.2.2.1
noncomputable def lMb : Str → Option Value := c0.2.2.2.2.1
noncomputable def lFa : Addr := c0.2.2.2.2.2.1
noncomputable def lPm : Value := c0.2.2.2.2.2.2.1
noncomputable def lDoc : Value := c0.2.2.2.2.2.2.2
local macro_rules | `(tactic| walk_at $s:str) => `(tactic| k_extra $s)
local macro_rules | `(tactic| omega) => `(tactic| (k_extra "om"))
local macro_rules | `(tactic| k_mem) => `(tactic| assumption)
local macro_rules | `(tactic| lcg_sub) => `(tactic| (intro p hp; (repeat (refine List.mem_cons_of_mem _ ?_)); exact hp))
local macro_rules | `(tactic| is_list) => `(tactic| exact News.isList (by k_asm) (by k_mem))
local macro_rules | `(tactic| k_all) => `(tactic| assumption)
local macro_rules | `(tactic| k_all) => `(tactic| (refine List.forall_mem_cons.mpr ⟨?_, ?_⟩; ((show @Ne Nat _ _); first | assumption | exact Ne.symm ‹_› | omega); k_all))
theorem pk1 {t r : Prop} (h : t ∧ r) : t := h.1
theorem pk2 {t p r : Prop} (h : p ∧ t ∧ r) : t := h.2.1
theorem pk3 {t p q r : Prop} (h : p ∧ q ∧ t ∧ r) : t := h.2.2.1
theorem pk4 {t p q u r : Prop} (h : p ∧ q ∧ u ∧ t ∧ r) : t := h.2.2.2.1
theorem pk5 {t p q u v r : Prop} (h : p ∧ q ∧ u ∧ v ∧ t ∧ r) : t := h.2.2.2.2.1
theorem pk6 {t p q u v x r : Prop} (h : p ∧ q ∧ u ∧ v ∧ x ∧ t ∧ r) : t := h.2.2.2.2.2.1
theorem pk7 {t p q u v x y r : Prop} (h : p ∧ q ∧ u ∧ v ∧ x ∧ y ∧ t ∧ r) : t := h.2.2.2.2.2.2.1
theorem pk8 {t p q u v x y z r : Prop} (h : p ∧ q ∧ u ∧ v ∧ x ∧ y ∧ z ∧ t ∧ r) : t := h.2.2.2.2.2.2.2.1
theorem pk9 {t p q u v x y z p1 r : Prop} (h : p ∧ q ∧ u ∧ v ∧ x ∧ y ∧ z ∧ p1 ∧ t ∧ r) : t := h.2.2.2.2.2.2.2.2.1
theorem pk10 {t p q u v x y z p1 q1 r : Prop} (h : p ∧ q ∧ u ∧ v ∧ x ∧ y ∧ z ∧ p1 ∧ q1 ∧ t ∧ r) : t := h.2.2.2.2.2.2.2.2.2.1
theorem pk11 {t p q u v x y z p1 q1 u1 r : Prop} (h : p ∧ q ∧ u ∧ v ∧ x ∧ y ∧ z ∧ p1 ∧ q1 ∧ u1 ∧ t ∧ r) : t := h.2.2.2.2.2.2.2.2.2.2.1
theorem pk12 {t p q u v x y z p1 q1 u1 v1 r : Prop} (h : p ∧ q ∧ u ∧ v ∧ x ∧ y ∧ z ∧ p1 ∧ q1 ∧ u1 ∧ v1 ∧ t ∧ r) : t := h.2.2.2.2.2.2.2.2.2.2.2.1
theorem pk13 {t p q u v x y z p1 q1 u1 v1 x1 r : Prop} (h : p ∧ q ∧ u ∧ v ∧ x ∧ y ∧ z ∧ p1 ∧ q1 ∧ u1 ∧ v1 ∧ x1 ∧ t ∧ r) : t := h.2.2.2.2.2.2.2.2.2.2.2.2.1
theorem pk14 {t p q u v x y z p1 q1 u1 v1 x1 y1 r : Prop} (h : p ∧ q ∧ u ∧ v ∧ x ∧ y ∧ z ∧ p1 ∧ q1 ∧ u1 ∧ v1 ∧ x1 ∧ y1 ∧ t ∧ r) : t := h.2.2.2.2.2.2.2.2.2.2.2.2.2.1
theorem pl2 {t p : Prop} (h : p ∧ t) : t := h.2
theorem pl3 {t p q : Prop} (h : p ∧ q ∧ t) : t := h.2.2
theorem pl4 {t p q u : Prop} (h : p ∧ q ∧ u ∧ t) : t := h.2.2.2
theorem pl5 {t p q u v : Prop} (h : p ∧ q ∧ u ∧ v ∧ t) : t := h.2.2.2.2
theorem pl6 {t p q u v x : Prop} (h : p ∧ q ∧ u ∧ v ∧ x ∧ t) : t := h.2.2.2.2.2
theorem pl7 {t p q u v x y : Prop} (h : p ∧ q ∧ u ∧ v ∧ x ∧ y ∧ t) : t := h.2.2.2.2.2.2
theorem fst_ne {x d : Addr} {o : Obj} (h : @Ne Nat x d) : @Ne Nat (x, o).1 d := h
theorem lts1 {a : Nat} : a < a + 1 := Nat.lt_add_of_pos_right (n := a) (k := 1) (by decide)
theorem lts2 {a : Nat} : a < a + 1 + 1 := Nat.lt_add_of_pos_right (n := a) (k := 2) (by decide)
theorem lts3 {a : Nat} : a < a + 1 + 1 + 1 := Nat.lt_add_of_pos_right (n := a) (k := 3) (by decide)
theorem lts4 {a : Nat} : a < a + 1 + 1 + 1 + 1 := Nat.lt_add_of_pos_right (n := a) (k := 4) (by decide)
theorem lts5 {a : Nat} : a < a + 1 + 1 + 1 + 1 + 1 := Nat.lt_add_of_pos_right (n := a) (k := 5) (by decide)
theorem lts6 {a : Nat} : a < a + 1 + 1 + 1 + 1 + 1 + 1 := Nat.lt_add_of_pos_right (n := a) (k := 6) (by decide)
theorem lts7 {a : Nat} : a < a + 1 + 1 + 1 + 1 + 1 + 1 + 1 := Nat.lt_add_of_pos_right (n := a) (k := 7) (by decide)
theorem cj1 {a d x : Nat} {r : Prop} (_ : x < d ∧ r) (k : @Ne Nat a d) : @Ne Nat a d := k
theorem cj2 {a d x : Nat} {r : Prop} (_ : x < a ∧ r) (k : @Ne Nat a d) : @Ne Nat a d := k
theorem cj3 {a d x : Nat} {r : Prop} (_ : @Ne Nat x d ∧ r) (k : @Ne Nat a d) : @Ne Nat a d := k
theorem cj4 {a d x : Nat} {r : Prop} (_ : @Ne Nat a x ∧ r) (k : @Ne Nat a d) : @Ne Nat a d := k
theorem cj5 {a d x : Nat} {r : Prop} (_ : @Ne Nat x a ∧ r) (k : @Ne Nat a d) : @Ne Nat a d := k
theorem cj6 {a d x : Nat} {r : Prop} (_ : @Ne Nat d x ∧ r) (k : @Ne Nat a d) : @Ne Nat a d := k
theorem cj7 {a d x : Nat} {r : Prop} (_ : x < d ∧ r) (k : a < d) : a < d := k
theorem len1S {α : Type} {ys : List α} {n : Nat} (h : ys.length = n + 1) : ∃ a t, ys = a :: t ∧ t.length = n := by
  cases ys with
  | nil => cases h
  | cons a t => exact ⟨a, t, rfl, Nat.succ.inj h⟩
theorem len5 {α : Type} {ys : List α} (h : ys.length = 5) : ∃ a b c d e, ys = [a, b, c, d, e] := by
  obtain ⟨a, t1, e1, h⟩ := len1S h
  obtain ⟨b, t2, e2, h⟩ := len1S h
  obtain ⟨c, t3, e3, h⟩ := len1S h
  obtain ⟨d, t4, e4, h⟩ := len1S h
  obtain ⟨e, t5, e5, h⟩ := len1S h
  exact ⟨a, b, c, d, e, e1.trans (congrArg (List.cons a) (e2.trans (congrArg (List.cons b) (e3.trans (congrArg (List.cons c) (e4.trans (congrArg (List.cons d) (e5.trans (congrArg (List.cons e) (List.eq_nil_of_length_eq_zero h))))))))))⟩
theorem kl1 {a1 D : Addr} {o1 : Obj} {r : List (Addr × Obj)} (h : ∀ p ∈ (a1, o1) :: r, @LT.lt Nat _ p.1 D) : @LT.lt Nat _ a1 D ∧ AllLt D r := allLt_of h
theorem kl2 {a1 a2 D : Addr} {o1 o2 : Obj} {r : List (Addr × Obj)} (h : ∀ p ∈ (a1, o1) :: (a2, o2) :: r, @LT.lt Nat _ p.1 D) : @LT.lt Nat _ a1 D ∧ @LT.lt Nat _ a2 D ∧ AllLt D r := allLt_of h
theorem kl3 {a1 a2 a3 D : Addr} {o1 o2 o3 : Obj} {r : List (Addr × Obj)} (h : ∀ p ∈ (a1, o1) :: (a2, o2) :: (a3, o3) :: r, @LT.lt Nat _ p.1 D) : @LT.lt Nat _ a1 D ∧ @LT.lt Nat _ a2 D ∧ @LT.lt Nat _ a3 D ∧ AllLt D r := allLt_of h
theorem kl4 {a1 a2 a3 a4 D : Addr} {o1 o2 o3 o4 : Obj} {r : List (Addr × Obj)} (h : ∀ p ∈ (a1, o1) :: (a2, o2) :: (a3, o3) :: (a4, o4) :: r, @LT.lt Nat _ p.1 D) : @LT.lt Nat _ a1 D ∧ @LT.lt Nat _ a2 D ∧ @LT.lt Nat _ a3 D ∧ @LT.lt Nat _ a4 D ∧ AllLt D r := allLt_of h
theorem kl5 {a1 a2 a3 a4 a5 D : Addr} {o1 o2 o3 o4 o5 : Obj} {r : List (Addr × Obj)} (h : ∀ p ∈ (a1, o1) :: (a2, o2) :: (a3, o3) :: (a4, o4) :: (a5, o5) :: r, @LT.lt Nat _ p.1 D) : @LT.lt Nat _ a1 D ∧ @LT.lt Nat _ a2 D ∧ @LT.lt Nat _ a3 D ∧ @LT.lt Nat _ a4 D ∧ @LT.lt Nat _ a5 D ∧ AllLt D r := allLt_of h
theorem kl6 {a1 a2 a3 a4 a5 a6 D : Addr} {o1 o2 o3 o4 o5 o6 : Obj} {r : List (Addr × Obj)} (h : ∀ p ∈ (a1, o1) :: (a2, o2) :: (a3, o3) :: (a4, o4) :: (a5, o5) :: (a6, o6) :: r, @LT.lt Nat _ p.1 D) : @LT.lt Nat _ a1 D ∧ @LT.lt Nat _ a2 D ∧ @LT.lt Nat _ a3 D ∧ @LT.lt Nat _ a4 D ∧ @LT.lt Nat _ a5 D ∧ @LT.lt Nat _ a6 D ∧ AllLt D r := allLt_of h
theorem kl7 {a1 a2 a3 a4 a5 a6 a7 D : Addr} {o1 o2 o3 o4 o5 o6 o7 : Obj} {r : List (Addr × Obj)} (h : ∀ p ∈ (a1, o1) :: (a2, o2) :: (a3, o3) :: (a4, o4) :: (a5, o5) :: (a6, o6) :: (a7, o7) :: r, @LT.lt Nat _ p.1 D) : @LT.lt Nat _ a1 D ∧ @LT.lt Nat _ a2 D ∧ @LT.lt Nat _ a3 D ∧ @LT.lt Nat _ a4 D ∧ @LT.lt Nat _ a5 D ∧ @LT.lt Nat _ a6 D ∧ @LT.lt Nat _ a7 D ∧ AllLt D r := allLt_of h
theorem kl8 {a1 a2 a3 a4 a5 a6 a7 a8 D : Addr} {o1 o2 o3 o4 o5 o6 o7 o8 : Obj} {r : List (Addr × Obj)} (h : ∀ p ∈ (a1, o1) :: (a2, o2) :: (a3, o3) :: (a4, o4) :: (a5, o5) :: (a6, o6) :: (a7, o7) :: (a8, o8) :: r, @LT.lt Nat _ p.1 D) : @LT.lt Nat _ a1 D ∧ @LT.lt Nat _ a2 D ∧ @LT.lt Nat _ a3 D ∧ @LT.lt Nat _ a4 D ∧ @LT.lt Nat _ a5 D ∧ @LT.lt Nat _ a6 D ∧ @LT.lt Nat _ a7 D ∧ @LT.lt Nat _ a8 D ∧ AllLt D r := allLt_of h
theorem kl9 {a1 a2 a3 a4 a5 a6 a7 a8 a9 D : Addr} {o1 o2 o3 o4 o5 o6 o7 o8 o9 : Obj} {r : List (Addr × Obj)} (h : ∀ p ∈ (a1, o1) :: (a2, o2) :: (a3, o3) :: (a4, o4) :: (a5, o5) :: (a6, o6) :: (a7, o7) :: (a8, o8) :: (a9, o9) :: r, @LT.lt Nat _ p.1 D) : @LT.lt Nat _ a1 D ∧ @LT.lt Nat _ a2 D ∧ @LT.lt Nat _ a3 D ∧ @LT.lt Nat _ a4 D ∧ @LT.lt Nat _ a5 D ∧ @LT.lt Nat _ a6 D ∧ @LT.lt Nat _ a7 D ∧ @LT.lt Nat _ a8 D ∧ @LT.lt Nat _ a9 D ∧ AllLt D r := allLt_of h
theorem kl10 {a1 a2 a3 a4 a5 a6 a7 a8 a9 a10 D : Addr} {o1 o2 o3 o4 o5 o6 o7 o8 o9 o10 : Obj} {r : List (Addr × Obj)} (h : ∀ p ∈ (a1, o1) :: (a2, o2) :: (a3, o3) :: (a4, o4) :: (a5, o5) :: (a6, o6) :: (a7, o7) :: (a8, o8) :: (a9, o9) :: (a10, o10) :: r, @LT.lt Nat _ p.1 D) : @LT.lt Nat _ a1 D ∧ @LT.lt Nat _ a2 D ∧ @LT.lt Nat _ a3 D ∧ @LT.lt Nat _ a4 D ∧ @LT.lt Nat _ a5 D ∧ @LT.lt Nat _ a6 D ∧ @LT.lt Nat _ a7 D ∧ @LT.lt Nat _ a8 D ∧ @LT.lt Nat _ a9 D ∧ @LT.lt Nat _ a10 D ∧ AllLt D r := allLt_of h
theorem kl11 {a1 a2 a3 a4 a5 a6 a7 a8 a9 a10 a11 D : Addr} {o1 o2 o3 o4 o5 o6 o7 o8 o9 o10 o11 : Obj} {r : List (Addr × Obj)} (h : ∀ p ∈ (a1, o1) :: (a2, o2) :: (a3, o3) :: (a4, o4) :: (a5, o5) :: (a6, o6) :: (a7, o7) :: (a8, o8) :: (a9, o9) :: (a10, o10) :: (a11, o11) :: r, @LT.lt Nat _ p.1 D) : @LT.lt Nat _ a1 D ∧ @LT.lt Nat _ a2 D ∧ @LT.lt Nat _ a3 D ∧ @LT.lt Nat _ a4 D ∧ @LT.lt Nat _ a5 D ∧ @LT.lt Nat _ a6 D ∧ @LT.lt Nat _ a7 D ∧ @LT.lt Nat _ a8 D ∧ @LT.lt Nat _ a9 D ∧ @LT.lt Nat _ a10 D ∧ @LT.lt Nat _ a11 D ∧ AllLt D r := allLt_of h
theorem kl12 {a1 a2 a3 a4 a5 a6 a7 a8 a9 a10 a11 a12 D : Addr} {o1 o2 o3 o4 o5 o6 o7 o8 o9 o10 o11 o12 : Obj} {r : List (Addr × Obj)} (h : ∀ p ∈ (a1, o1) :: (a2, o2) :: (a3, o3) :: (a4, o4) :: (a5, o5) :: (a6, o6) :: (a7, o7) :: (a8, o8) :: (a9, o9) :: (a10, o10) :: (a11, o11) :: (a12, o12) :: r, @LT.lt Nat _ p.1 D) : @LT.lt Nat _ a1 D ∧ @LT.lt Nat _ a2 D ∧ @LT.lt Nat _ a3 D ∧ @LT.lt Nat _ a4 D ∧ @LT.lt Nat _ a5 D ∧ @LT.lt Nat _ a6 D ∧ @LT.lt Nat _ a7 D ∧ @LT.lt Nat _ a8 D ∧ @LT.lt Nat _ a9 D ∧ @LT.lt Nat _ a10 D ∧ @LT.lt Nat _ a11 D ∧ @LT.lt Nat _ a12 D ∧ AllLt D r := allLt_of h
theorem kl13 {a1 a2 a3 a4 a5 a6 a7 a8 a9 a10 a11 a12 a13 D : Addr} {o1 o2 o3 o4 o5 o6 o7 o8 o9 o10 o11 o12 o13 : Obj} {r : List (Addr × Obj)} (h : ∀ p ∈ (a1, o1) :: (a2, o2) :: (a3, o3) :: (a4, o4) :: (a5, o5) :: (a6, o6) :: (a7, o7) :: (a8, o8) :: (a9, o9) :: (a10, o10) :: (a11, o11) :: (a12, o12) :: (a13, o13) :: r, @LT.lt Nat _ p.1 D) : @LT.lt Nat _ a1 D ∧ @LT.lt Nat _ a2 D ∧ @LT.lt Nat _ a3 D ∧ @LT.lt Nat _ a4 D ∧ @LT.lt Nat _ a5 D ∧ @LT.lt Nat _ a6 D ∧ @LT.lt Nat _ a7 D ∧ @LT.lt Nat _ a8 D ∧ @LT.lt Nat _ a9 D ∧ @LT.lt Nat _ a10 D ∧ @LT.lt Nat _ a11 D ∧ @LT.lt Nat _ a12 D ∧ @LT.lt Nat _ a13 D ∧ AllLt D r := allLt_of h
theorem kl14 {a1 a2 a3 a4 a5 a6 a7 a8 a9 a10 a11 a12 a13 a14 D : Addr} {o1 o2 o3 o4 o5 o6 o7 o8 o9 o10 o11 o12 o13 o14 : Obj} {r : List (Addr × Obj)} (h : ∀ p ∈ (a1, o1) :: (a2, o2) :: (a3, o3) :: (a4, o4) :: (a5, o5) :: (a6, o6) :: (a7, o7) :: (a8, o8) :: (a9, o9) :: (a10, o10) :: (a11, o11) :: (a12, o12) :: (a13, o13) :: (a14, o14) :: r, @LT.lt Nat _ p.1 D) : @LT.lt Nat _ a1 D ∧ @LT.lt Nat _ a2 D ∧ @LT.lt Nat _ a3 D ∧ @LT.lt Nat _ a4 D ∧ @LT.lt Nat _ a5 D ∧ @LT.lt Nat _ a6 D ∧ @LT.lt Nat _ a7 D ∧ @LT.lt Nat _ a8 D ∧ @LT.lt Nat _ a9 D ∧ @LT.lt Nat _ a10 D ∧ @LT.lt Nat _ a11 D ∧ @LT.lt Nat _ a12 D ∧ @LT.lt Nat _ a13 D ∧ @LT.lt Nat _ a14 D ∧ AllLt D r := allLt_of h
theorem kl15 {a1 a2 a3 a4 a5 a6 a7 a8 a9 a10 a11 a12 a13 a14 a15 D : Addr} {o1 o2 o3 o4 o5 o6 o7 o8 o9 o10 o11 o12 o13 o14 o15 : Obj} {r : List (Addr × Obj)} (h : ∀ p ∈ (a1, o1) :: (a2, o2) :: (a3, o3) :: (a4, o4) :: (a5, o5) :: (a6, o6) :: (a7, o7) :: (a8, o8) :: (a9, o9) :: (a10, o10) :: (a11, o11) :: (a12, o12) :: (a13, o13) :: (a14, o14) :: (a15, o15) :: r, @LT.lt Nat _ p.1 D) : @LT.lt Nat _ a1 D ∧ @LT.lt Nat _ a2 D ∧ @LT.lt Nat _ a3 D ∧ @LT.lt Nat _ a4 D ∧ @LT.lt Nat _ a5 D ∧ @LT.lt Nat _ a6 D ∧ @LT.lt Nat _ a7 D ∧ @LT.lt Nat _ a8 D ∧ @LT.lt Nat _ a9 D ∧ @LT.lt Nat _ a10 D ∧ @LT.lt Nat _ a11 D ∧ @LT.lt Nat _ a12 D ∧ @LT.lt Nat _ a13 D ∧ @LT.lt Nat _ a14 D ∧ @LT.lt Nat _ a15 D ∧ AllLt D r := allLt_of h
theorem kl16 {a1 a2 a3 a4 a5 a6 a7 a8 a9 a10 a11 a12 a13 a14 a15 a16 D : Addr} {o1 o2 o3 o4 o5 o6 o7 o8 o9 o10 o11 o12 o13 o14 o15 o16 : Obj} {r : List (Addr × Obj)} (h : ∀ p ∈ (a1, o1) :: (a2, o2) :: (a3, o3) :: (a4, o4) :: (a5, o5) :: (a6, o6) :: (a7, o7) :: (a8, o8) :: (a9, o9) :: (a10, o10) :: (a11, o11) :: (a12, o12) :: (a13, o13) :: (a14, o14) :: (a15, o15) :: (a16, o16) :: r, @LT.lt Nat _ p.1 D) : @LT.lt Nat _ a1 D ∧ @LT.lt Nat _ a2 D ∧ @LT.lt Nat _ a3 D ∧ @LT.lt Nat _ a4 D ∧ @LT.lt Nat _ a5 D ∧ @LT.lt Nat _ a6 D ∧ @LT.lt Nat _ a7 D ∧ @LT.lt Nat _ a8 D ∧ @LT.lt Nat _ a9 D ∧ @LT.lt Nat _ a10 D ∧ @LT.lt Nat _ a11 D ∧ @LT.lt Nat _ a12 D ∧ @LT.lt Nat _ a13 D ∧ @LT.lt Nat _ a14 D ∧ @LT.lt Nat _ a15 D ∧ @LT.lt Nat _ a16 D ∧ AllLt D r := allLt_of h
local macro_rules | `(tactic| k_lt $h:ident) => `(tactic| (first | replace $h := kl16 $h | replace $h := kl15 $h | replace $h := kl14 $h | replace $h := kl13 $h | replace $h := kl12 $h | replace $h := kl11 $h | replace $h := kl10 $h | replace $h := kl9 $h | replace $h := kl8 $h | replace $h := kl7 $h | replace $h := kl6 $h | replace $h := kl5 $h | replace $h := kl4 $h | replace $h := kl3 $h | replace $h := kl2 $h | replace $h := kl1 $h))
theorem ex2 {α1 α2 : Type} {P : α1 → α2 → Prop} (a1 : α1) (a2 : α2) (h : P a1 a2) : ∃ a1 a2, P a1 a2 := ⟨a1, a2, h⟩
theorem ex3 {α1 α2 α3 : Type} {P : α1 → α2 → α3 → Prop} (a1 : α1) (a2 : α2) (a3 : α3) (h : P a1 a2 a3) : ∃ a1 a2 a3, P a1 a2 a3 := ⟨a1, a2, a3, h⟩
theorem ex4 {α1 α2 α3 α4 : Type} {P : α1 → α2 → α3 → α4 → Prop} (a1 : α1) (a2 : α2) (a3 : α3) (a4 : α4) (h : P a1 a2 a3 a4) : ∃ a1 a2 a3 a4, P a1 a2 a3 a4 := ⟨a1, a2, a3, a4, h⟩
theorem ex5 {α1 α2 α3 α4 α5 : Type} {P : α1 → α2 → α3 → α4 → α5 → Prop} (a1 : α1) (a2 : α2) (a3 : α3) (a4 : α4) (a5 : α5) (h : P a1 a2 a3 a4 a5) : ∃ a1 a2 a3 a4 a5, P a1 a2 a3 a4 a5 := ⟨a1, a2, a3, a4, a5, h⟩
theorem ex6 {α1 α2 α3 α4 α5 α6 : Type} {P : α1 → α2 → α3 → α4 → α5 → α6 → Prop} (a1 : α1) (a2 : α2) (a3 : α3) (a4 : α4) (a5 : α5) (a6 : α6) (h : P a1 a2 a3 a4 a5 a6) : ∃ a1 a2 a3 a4 a5 a6, P a1 a2 a3 a4 a5 a6 := ⟨a1, a2, a3, a4, a5, a6, h⟩
theorem ex7 {α1 α2 α3 α4 α5 α6 α7 : Type} {P : α1 → α2 → α3 → α4 → α5 → α6 → α7 → Prop} (a1 : α1) (a2 : α2) (a3 : α3) (a4 : α4) (a5 : α5) (a6 : α6) (a7 : α7) (h : P a1 a2 a3 a4 a5 a6 a7) : ∃ a1 a2 a3 a4 a5 a6 a7, P a1 a2 a3 a4 a5 a6 a7 := ⟨a1, a2, a3, a4, a5, a6, a7, h⟩
theorem ex8 {α1 α2 α3 α4 α5 α6 α7 α8 : Type} {P : α1 → α2 → α3 → α4 → α5 → α6 → α7 → α8 → Prop} (a1 : α1) (a2 : α2) (a3 : α3) (a4 : α4) (a5 : α5) (a6 : α6) (a7 : α7) (a8 : α8) (h : P a1 a2 a3 a4 a5 a6 a7 a8) : ∃ a1 a2 a3 a4 a5 a6 a7 a8, P a1 a2 a3 a4 a5 a6 a7 a8 := ⟨a1, a2, a3, a4, a5, a6, a7, a8, h⟩
theorem ex9 {α1 α2 α3 α4 α5 α6 α7 α8 α9 : Type} {P : α1 → α2 → α3 → α4 → α5 → α6 → α7 → α8 → α9 → Prop} (a1 : α1) (a2 : α2) (a3 : α3) (a4 : α4) (a5 : α5) (a6 : α6) (a7 : α7) (a8 : α8) (a9 : α9) (h : P a1 a2 a3 a4 a5 a6 a7 a8 a9) : ∃ a1 a2 a3 a4 a5 a6 a7 a8 a9, P a1 a2 a3 a4 a5 a6 a7 a8 a9 := ⟨a1, a2, a3, a4, a5, a6, a7, a8, a9, h⟩
theorem lt5_cases {i : Nat} (h : i < 5) : i = 0 ∨ i = 1 ∨ i = 2 ∨ i = 3 ∨ i = 4 := (by decide : ∀ i, i < 5 → (i = 0 ∨ i = 1 ∨ i = 2 ∨ i = 3 ∨ i = 4)) i h
theorem at5 {P : Nat → Prop} (h0 : P 0) (h1 : P 1) (h2 : P 2) (h3 : P 3) (h4 : P 4) : ∀ i, i < 5 → P i := fun _ hi =>
  (lt5_cases hi).elim (fun e => e ▸ h0) fun o => o.elim (fun e => e ▸ h1) fun o => o.elim (fun e => e ▸ h2) fun o => o.elim (fun e => e ▸ h3) fun e => e ▸ h4
theorem lt3_cases {i : Nat} (h : i < 3) : i = 0 ∨ i = 1 ∨ i = 2 := (by decide : ∀ i, i < 3 → (i = 0 ∨ i = 1 ∨ i = 2)) i h
theorem i5_cases {i : Int} (h : 0 ≤ i) (h5 : i < 5) : i = 0 ∨ i = 1 ∨ i = 2 ∨ i = 3 ∨ i = 4 := by
  obtain ⟨n, rfl⟩ := Int.eq_ofNat_of_zero_le h
  exact (lt5_cases (Int.ofNat_lt.mp h5)).imp (congrArg Int.ofNat) (Or.imp (congrArg Int.ofNat) (Or.imp (congrArg Int.ofNat) (Or.imp (congrArg Int.ofNat) (congrArg Int.ofNat))))
theorem i3_cases {i : Int} (h : 0 ≤ i) (h5 : i < 3) : i = 0 ∨ i = 1 ∨ i = 2 := by
  obtain ⟨n, rfl⟩ := Int.eq_ofNat_of_zero_le h
  exact (lt3_cases (Int.ofNat_lt.mp h5)).imp (congrArg Int.ofNat) (Or.imp (congrArg Int.ofNat) (congrArg Int.ofNat))
theorem sub_step {n i : Nat} (h : i < n) : n - (i + 1) < n - i := Nat.sub_succ_lt_self _ _ h
theorem sub_step1 {n i : Nat} (h : i < n) : n + 1 - (i + 1) < n + 1 - i := Nat.sub_succ_lt_self _ _ (Nat.lt_succ_of_lt h)
theorem up1 {a b : Nat} (h : a < b) : a < b + 1 := Nat.lt_of_lt_of_le h (Nat.le_add_right b 1)
theorem up2 {a b : Nat} (h : a < b) : a < b + 1 + 1 := Nat.lt_of_lt_of_le h (Nat.le_add_right b 2)
theorem up3 {a b : Nat} (h : a < b) : a < b + 1 + 1 + 1 := Nat.lt_of_lt_of_le h (Nat.le_add_right b 3)
theorem up4 {a b : Nat} (h : a < b) : a < b + 1 + 1 + 1 + 1 := Nat.lt_of_lt_of_le h (Nat.le_add_right b 4)
theorem le_s1 {a b : Nat} (h : a + 1 < b) : a ≤ b := Nat.le_of_lt (Nat.lt_of_succ_lt h)
theorem neg5 {i : Nat} : -((5 : Nat) : Int) ≤ (i : Int) := by omega
theorem len2a {i n : Nat} (h : i < 5) (e : n = 2 * i) : n ≤ 16777216 := by omega
theorem len2b {i n : Nat} (h : i < 5) (e : n = 2 * i) : n + 1 ≤ 16777216 := by omega
theorem all5 {f : Nat → Bool} (h0 : f 0 = true) (h1 : f 1 = true) (h2 : f 2 = true) (h3 : f 3 = true) (h4 : f 4 = true) : (List.range 5).all f = true := by
  rw [show List.range 5 = [0, 1, 2, 3, 4] from rfl, List.all_cons, List.all_cons, List.all_cons, List.all_cons, List.all_cons, h0, h1, h2, h3, h4]
  rfl
theorem off_base_0 : True := by
  w_top off
  k_with_none
  k_with "subl" => ((repeat' (first | refine List.forall_mem_cons.mpr ⟨by (repeat (first | exact List.Mem.head _ | refine List.Mem.tail _ ?_ | refine List.mem_append_right _ ?_)), ?_⟩ | refine List.forall_mem_append.mpr ⟨?_, ?_⟩)); all_goals (intro _ hpw219; (repeat (first | exact hpw219 | refine List.Mem.tail _ ?_ | exact List.mem_append_left _ hpw219 | refine List.mem_append_right _ ?_))))
  k_with "pk" => (with_reducible first | exact pk1 ‹_› | exact pk2 ‹_› | exact pk3 ‹_› | exact pk4 ‹_› | exact pk5 ‹_› | exact pk6 ‹_› | exact pk7 ‹_› | exact pk8 ‹_› | exact pk9 ‹_› | exact pk10 ‹_› | exact pk11 ‹_› | exact pk12 ‹_› | exact pk13 ‹_› | exact pk14 ‹_› | exact pl2 ‹_› | exact pl3 ‹_› | exact pl4 ‹_› | exact pl5 ‹_› | exact pl6 ‹_› | exact pl7 ‹_›)
  k_with "suc" => (with_reducible first | exact lts1 | exact lts2 | exact lts3 | exact lts4 | exact lts5 | exact lts6 | exact lts7)
  k_with "hop" => (with_reducible first | exact ‹_› | k_extra "pk" | (refine Nat.lt_trans ?_ (by first | assumption | k_extra "pk"); k_extra "hop"))
  k_with "om" => (first | (with_reducible first | ((show @Ne Nat _ _); (try dsimp only); first | exact ‹_› | exact Ne.symm ‹_› | exact Nat.ne_of_lt (by k_extra "suc") | exact Nat.ne_of_gt (by k_extra "suc") | ((fail_if_success (fail_if_success refine cj2 ‹_› ?_)); exact Nat.ne_of_gt (by k_extra "pk")) | ((fail_if_success (fail_if_success refine cj1 ‹_› ?_)); exact Nat.ne_of_lt (by k_extra "pk")) | ((fail_if_success (fail_if_success refine cj3 ‹_› ?_)); k_extra "pk") | ((fail_if_success (fail_if_success refine cj4 ‹_› ?_)); k_extra "pk") | ((fail_if_success (fail_if_success refine cj5 ‹_› ?_)); exact Ne.symm (by k_extra "pk")) | ((fail_if_success (fail_if_success refine cj6 ‹_› ?_)); exact Ne.symm (by k_extra "pk")) | exact Nat.ne_of_gt ‹_› | exact Nat.ne_of_lt ‹_›) | ((show _ ∨ _); first | exact lt5_cases ‹_› | exact i5_cases ‹_› ‹_› | exact i3_cases ‹_› ‹_›) | ((show @LT.lt Nat _ _ _); first | exact ‹_› | exact sub_step ‹_› | exact sub_step1 ‹_› | k_extra "suc" | ((fail_if_success (fail_if_success refine cj7 ‹_› ?_)); k_extra "pk")) | ((show @LE.le Nat _ _ _); (try dsimp only); first | exact (by decide) | exact Nat.le_of_lt ‹_› | exact Nat.le_of_lt (by k_extra "suc") | (refine Nat.le_trans ‹_› ?_; decide) | (refine Nat.le_trans (Nat.le_of_eq (Eq.symm ‹_›)) (Nat.le_trans ‹_› ?_); decide) | exact le_s1 (by k_extra "pk") | exact len2a ‹_› ‹_› | exact len2b ‹_› ‹_›) | ((show @LE.le Int _ _ _); exact neg5) | ((show @LT.lt Int _ _ _); exact Int.ofNat_lt.mpr ‹_›)) | lia)
  trivial
theorem lift {prog : Program} {α : Type} {t : Sem α} {Q : α → Shared → Prop} {E : Value → Shared → Prop} {s : Shared} {dp un dp' un' : Nat} {hd : Option Value} {fr : Option (List Env)} {gd : Option (List Code)}
    (h1 : dp ≤ dp') (h2 : un ≤ un') (h : wpAny (model prog w) { handled := hd, depth := dp', frames := fr, guards := gd, units := un' } t Q E s) : wpAny (model prog w) { handled := hd, depth := dp, frames := fr, guards := gd, units := un } t Q E s :=
  fun Γ p hΓ => h Γ p ⟨hΓ.1, Nat.le_trans hΓ.2.1 h1, hΓ.2.2.1, hΓ.2.2.2.1, Nat.le_trans hΓ.2.2.2.2 h2⟩

noncomputable def Turned (news : List (Addr × Obj)) (G : Value → Prop) (y : Value) (news' : List (Addr × Obj)) : Prop := news' = news ∧ G y
theorem rest_each {prog : Program} {A : Around} {h₀ : Heap} {L : Addr} {m : Str → Option Value} {env : Env} {elt : Expr} {x : Str} {scope : Scope} {cl : List (Str × Addr)} {s : Shared} {S : List (Addr × Obj) → Prop} {P : Nat → Value → Prop} {Fin : List Value → List (Addr × Obj) → Prop} {news : List (Addr × Obj)} {n : Nat}
    (G : Nat → Value → Prop)
    (turn : ∀ i v I oI C oC D m₂ ys h tk (E' : Value → Shared → Prop), i < n → P i v → LCg.NsObj oC m₂ → m₂ x = some v → Fr h₀ L h m → News h₀ L h ((I, oI) :: (C, oC) :: (D, LCg.lst ys) :: news) → LCg.Off3 I C D news → ((@Ne Nat I C) ∧ (@Ne Nat I D) ∧ (@Ne Nat C D)) →
      wpAny (model prog w) A (eval elt (compEnvC scope cl C env)) (LCg.CompEnd h₀ L m { s with heap := h, toks := tk } I oI C oC D (LCg.lst ys) S (Turned news (G i))) E' { s with heap := h, toks := tk })
    (fin : ∀ ys, ys.length = n → (∀ i y, ys[i]? = some y → G i y) → Fin ys news) : LCg.CompRest prog w A h₀ L m env elt x scope cl s S P Fin n 0 [] news := by
  have key : ∀ (j i : Nat) (ys : List Value), i + j = n → ys.length = i → (∀ i y, ys[i]? = some y → G i y) → LCg.CompRest prog w A h₀ L m env elt x scope cl s S P Fin j i ys news := by
    intro j
    induction j with
    | zero => intro i ys hi hy hg; exact LCg.CompRest.zero (fin ys (by omega) hg)
    | succ j ih =>
      intro i ys hi hy hg
      refine LCg.CompRest.succ ?_
      intro v I oI C oC D m₂ h tk E' hv hC hx F N off ne
      refine wpAny_mono (turn i v I oI C oC D m₂ ys h tk E' (by omega) hv hC hx F N off ne) (fun y s₂ hq => ?_) fun _ _ e => e
      obtain ⟨h', tk', nw, e, F', N', off', hS, hn, hG⟩ := hq
      rw [hn] at N' off' hS
      refine ⟨h', tk', news, e, F', N', off', hS, ih (i + 1) _ (by omega) (by rw [List.length_append, List.length_singleton, hy]) fun i' y' he => ?_⟩
      rcases Nat.lt_trichotomy i' ys.length with h1 | h1 | h1
      · exact hg i' y' (by rwa [List.getElem?_append_left h1] at he)
      · subst h1
        rw [List.getElem?_append_right (Nat.le_refl _), Nat.sub_self] at he
        cases he
        rw [hy]; exact hG
      · rw [List.getElem?_eq_none (by rw [List.length_append, List.length_singleton]; omega)] at he
        cases he
  exact key n 0 [] (by omega) rfl (fun i y he => by cases he)
theorem turned {news : List (Addr × Obj)} {G : Value → Prop} {y : Value} (h : G y) : Turned news G y news := ⟨rfl, h⟩

theorem ints_of {ys : List Value} {lo hi : Int} : (∀ (i : Nat) y, ys[i]? = some y → ∃ r t, y = Value.int r t ∧ lo ≤ r ∧ r < hi) → ∃ ms, IntsAre ys ms ∧ ∀ r ∈ ms, lo ≤ r ∧ r < hi := by
  induction ys with
  | nil => intro _; exact ⟨[], .nil, fun _ h => nomatch h⟩
  | cons y r ih =>
    intro h
    obtain ⟨v, t, rfl, h1, h2⟩ := h 0 y rfl
    obtain ⟨ms, hm, hb⟩ := ih fun i z e => h (i + 1) z (by simpa using e)
    refine ⟨v :: ms, .cons _ _ hm, fun x hx => ?_⟩
    rcases List.mem_cons.mp hx with rfl | hx
    · exact ⟨h1, h2⟩
    · exact hb x hx
theorem sum_bounds {ms : List Int} {hi : Int} (h0 : 0 ≤ hi) (h : ∀ r ∈ ms, 0 ≤ r ∧ r < hi) : 0 ≤ ms.sum ∧ ms.sum ≤ hi * ms.length := by
  induction ms with
  | nil => simp
  | cons x r ih =>
    have h1 := h x (.head _)
    have h2 := ih fun y hy => h y (.tail _ hy)
    rw [List.sum_cons, List.length_cons, Int.natCast_add, Int.mul_add]
    omega
theorem comp_turned {h₀ : Heap} {L I C D : Addr} {m : Str → Option Value} {s₁ : Shared} {oI oC oD : Obj} {S : List (Addr × Obj) → Prop} {news : List (Addr × Obj)} {G : Value → Prop} {y : Value} {h' : Heap} {tk : Nat} {all : List (Addr × Obj)}
    (F : Fr h₀ L h' m) (N : News h₀ L h' all) (sub : ∀ p ∈ (I, oI) :: (C, oC) :: (D, oD) :: news, p ∈ all) (off : LCg.Off3 I C D news) (hS : S news) (r : G y) :
    LCg.CompEnd h₀ L m s₁ I oI C oC D oD S (Turned news G) y { s₁ with heap := h', toks := tk } := LCg.CompEnd.intro F N news sub off hS ⟨rfl, r⟩
theorem five {ys : List Value} {B : Int} (h : ys.length = 5) (g : ∀ (i : Nat) y, ys[i]? = some y → ∃ r t, y = Value.int r t ∧ 0 ≤ r ∧ r < B) :
    ∃ d0 d1 d2 d3 d4 t0 t1 t2 t3 t4, ys = [.int d0 t0, .int d1 t1, .int d2 t2, .int d3 t3, .int d4 t4] ∧ (0 ≤ d0 ∧ d0 < B) ∧ (0 ≤ d1 ∧ d1 < B) ∧ (0 ≤ d2 ∧ d2 < B) ∧ (0 ≤ d3 ∧ d3 < B) ∧ (0 ≤ d4 ∧ d4 < B) := by
  obtain ⟨a, b, c, d, e, rfl⟩ := len5 h
  obtain ⟨d0, t0, e0, h0⟩ := g 0 a rfl
  obtain ⟨d1, t1, e1, h1⟩ := g 1 b rfl
  obtain ⟨d2, t2, e2, h2⟩ := g 2 c rfl
  obtain ⟨d3, t3, e3, h3⟩ := g 3 d rfl
  obtain ⟨d4, t4, e4, h4⟩ := g 4 e rfl
  exact ⟨d0, d1, d2, d3, d4, t0, t1, t2, t3, t4, by rw [e0, e1, e2, e3, e4], h0, h1, h2, h3, h4⟩
theorem ne_all {d e : Addr} {news : List (Addr × Obj)} (h : AllLt d news) (he : @LE.le Nat _ d e) : ∀ p ∈ news, p.1 ≠ e := fun p hp => Nat.ne_of_lt (Nat.lt_of_lt_of_le (ktn_ltOf h p hp) he)
local macro_rules | `(tactic| k_all) => `(tactic| exact ne_all (And.right (by with_reducible assumption)) (Nat.le_refl _))
noncomputable def tab (dress : Int) : List Str := if dress = 0 then ["a", "b \"", "c\\", "#d", "<e"] else if dress = 1 then ["a", "b\\ \"", "c\\\\", "#d", "<e"] else ["a", "b \\\"", "c\\\\", "#d", "<e"]
noncomputable def ends : List Str := [".x.y", ".local", ".u.7", ".z", ".x.y."]
noncomputable def word (dress k d : Int) : Str := (tab dress).getD ((d.fdiv 5).fmod 5).toNat Str.empty ++ Str.ofString (toString k) ++ ends.getD (d.fmod 5).toNat Str.empty
theorem ne_all' {d e : Addr} {news : List (Addr × Obj)} (h : ∀ p ∈ news, p.1 < d) (he : @LE.le Nat _ d e) : ∀ p ∈ news, p.1 ≠ e := fun p hp => Nat.ne_of_lt (Nat.lt_of_lt_of_le (h p hp) he)
local macro_rules | `(tactic| k_all) => `(tactic| first | exact ne_all ‹_› (by first | exact Nat.le_refl _ | omega) | exact ne_all' ‹_› (by first | exact Nat.le_refl _ | omega))
noncomputable def Short (x : Str) (n : Nat) : Prop := x.length ≤ n
theorem Short.app {x y : Str} {a b : Nat} (hx : Short x a) (hy : Short y b) : Short (x ++ y) (a + b) := by unfold Short at *; rw [PySem.Str.length_append]; omega
section
variable {prog : Program} {A : Around} {E : Value → Shared → Prop} {s : Shared}
theorem item_ints {value slice : PySem.Expr} {l : Addr} {vs : List Value} {ns : List Int} {k : Int} {u : Tok} {Q : Value → Shared → Prop} (hl : s.heap.IsList l vs.toArray) (hi : IntsAre vs ns) (h0 : 0 ≤ k) (h1 : k < (ns.length : Int)) (h63 : k < 2 ^ 63)
    (h : ∀ t, Q (.int (ns.getD k.toNat 0) t) s)
    (hs : subscripted slice false (.ref l) (.int k u) = operate [.ref l, .int k u] (getItem (.ref l) (.int k u))) :
    wpAny (model prog w) A (subscriptTail value slice (.ref l) (.int k u)) Q E s := by
  have hk : k.toNat < ns.length := by omega
  obtain ⟨t, ht⟩ := hi.get k.toNat _ (List.getElem?_eq_getElem hk)
  refine item_litK hl h0 h63 ht ?_ hs
  have e : ns.getD k.toNat 0 = ns[k.toNat] := by rw [List.getD_eq_getElem?_getD, List.getElem?_eq_getElem hk]; rfl
  rw [← e]
  exact h t
theorem item_tab {value slice : PySem.Expr} {l l0 l1 l2 : Addr} {vs0 vs1 vs2 : List Value} {k : Int} {u : Tok} {Q : Value → Shared → Prop} (hl : s.heap.IsList l [.ref l0, .ref l1, .ref l2].toArray) (h0 : 0 ≤ k) (h3 : k < 3)
    (i0 : s.heap.IsList l0 vs0.toArray) (i1 : s.heap.IsList l1 vs1.toArray) (i2 : s.heap.IsList l2 vs2.toArray) (s0 : StrsAre vs0 (tab 0)) (s1 : StrsAre vs1 (tab 1)) (s2 : StrsAre vs2 (tab 2))
    (q : ∀ lx vs, s.heap.IsList lx vs.toArray → StrsAre vs (tab k) → Q (.ref lx) s)
    (hs : subscripted slice false (.ref l) (.int k u) = operate [.ref l, .int k u] (getItem (.ref l) (.int k u))) :
    wpAny (model prog w) A (subscriptTail value slice (.ref l) (.int k u)) Q E s := by
  have : k = 0 ∨ k = 1 ∨ k = 2 := by omega
  rcases this with e | e | e
  · exact item_litK hl h0 (by omega) (v := .ref l0) (by rw [e]; rfl) (q l0 vs0 i0 (by rw [e]; exact s0)) hs
  · exact item_litK hl h0 (by omega) (v := .ref l1) (by rw [e]; rfl) (q l1 vs1 i1 (by rw [e]; exact s1)) hs
  · exact item_litK hl h0 (by omega) (v := .ref l2) (by rw [e]; rfl) (q l2 vs2 i2 (by rw [e]; exact s2)) hs
theorem tab_len {k : Int} (h0 : 0 ≤ k) (h3 : k < 3) : (tab k).length = 5 := by
  have : k = 0 ∨ k = 1 ∨ k = 2 := by omega
  rcases this with rfl | rfl | rfl <;> rfl
theorem getD_short {ws : List Str} {n i : Nat} (h : ws.all (fun x => decide (x.length ≤ n)) = true) : (ws.getD i Str.empty).length ≤ n := by
  rw [List.getD_eq_getElem?_getD]
  cases e : ws[i]? with
  | none => exact Nat.zero_le _
  | some x => exact of_decide_eq_true (List.all_eq_true.mp h x (List.mem_of_getElem? e))
theorem tab_short {k : Int} {i : Nat} : ((tab k).getD i Str.empty).length ≤ 10 := by
  refine getD_short ?_
  unfold tab
  split
  · decide +kernel
  · split <;> decide +kernel
theorem digit_short {k : Int} (h0 : 0 ≤ k) (h5 : k < 5) : (Str.ofString (toString k)).length ≤ 10 := by
  have : k = 0 ∨ k = 1 ∨ k = 2 ∨ k = 3 ∨ k = 4 := by omega
  rcases this with rfl | rfl | rfl | rfl | rfl <;> decide +kernel
theorem str_digit {k : Int} {t : Tok} {Q : Value → Shared → Prop} (h0 : 0 ≤ k) (h5 : k < 5) (h : ∀ t' tk, Short (Str.ofString (toString k)) 10 → Q (.str (Str.ofString (toString k)) t') { s with toks := tk }) : wpAny (model prog w) A (call (.type "str") [.int k t]) Q E s :=
  str_of_int_fit (N := 5) (by split <;> omega) (by decide) fun _ => h _ _ (digit_short h0 h5)
theorem add_short {x y : Str} {t u : Tok} {a b : Nat} {Q : Value → Shared → Prop} (hx : Short x a) (hy : Short y b) (h : ∀ t' tk, Short (x ++ y) (a + b) → Q (.str (x ++ y) t') { s with toks := tk }) (hab : a + b ≤ 5000 := by decide) : wpAny (model prog w) A (binaryOp .Add (.str x t) (.str y u)) Q E s :=
  PyProof.Rows.add_str (fun t' tk => h t' tk (Short.app hx hy)) (by unfold Short at hx hy; rw [sizeLine_eq]; omega)
theorem item_strs {value slice : PySem.Expr} {l : Addr} {vs : List Value} {ws : List Str} {i : Int} {u : Tok} {Q : Value → Shared → Prop} (hl : s.heap.IsList l vs.toArray) (hw : StrsAre vs ws) (hs : ws.all (fun x => decide (x.length ≤ 10)) = true) (h0 : 0 ≤ i) (h1 : i < (ws.length : Int)) (hfit : i < 2 ^ 63)
    (h : ∀ t', Short (ws.getD i.toNat Str.empty) 10 → Q (.str (ws.getD i.toNat Str.empty) t') s)
    (hs' : subscripted slice false (.ref l) (.int i u) = operate [.ref l, .int i u] (getItem (.ref l) (.int i u))) :
    wpAny (model prog w) A (subscriptTail value slice (.ref l) (.int i u)) Q E s := KTb.item_list hl hw h0 h1 hfit (fun t' _ => h t' (getD_short hs)) hs'
theorem tab_all {k : Int} : (tab k).all (fun x => decide (x.length ≤ 10)) = true := by
  unfold tab
  split
  · decide +kernel
  · split <;> decide +kernel
theorem app_short {x y : Str} {a b c : Nat} (hx : x.length ≤ a) (hy : y.length ≤ b) (h : a + b ≤ c) : (x ++ y).length ≤ c := by rw [PySem.Str.length_append]; omega
theorem word_short {dress k d : Int} (h0 : 0 ≤ k) (h5 : k < 5) : (word dress k d).length ≤ 30 :=
  app_short (app_short tab_short (digit_short h0 h5) (Nat.le_refl _)) (getD_short (n := 10) (by decide +kernel)) (by decide)
end
theorem five_strs {ys : List Value} {f : Nat → Str} (h : ys.length = 5) (g : ∀ (i : Nat) y, ys[i]? = some y → ∃ t, y = Value.str (f i) t) :
    ∃ t0 t1 t2 t3 t4, ys = [.str (f 0) t0, .str (f 1) t1, .str (f 2) t2, .str (f 3) t3, .str (f 4) t4] := by
  obtain ⟨a, b, c, d, e, rfl⟩ := len5 h
  obtain ⟨t0, e0⟩ := g 0 a rfl
  obtain ⟨t1, e1⟩ := g 1 b rfl
  obtain ⟨t2, e2⟩ := g 2 c rfl
  obtain ⟨t3, e3⟩ := g 3 d rfl
  obtain ⟨t4, e4⟩ := g 4 e rfl
  exact ⟨t0, t1, t2, t3, t4, by rw [e0, e1, e2, e3, e4]⟩
theorem five_ints {ys : List Value} {f : Nat → Int} (h : ys.length = 5) (g : ∀ (i : Nat) y, ys[i]? = some y → ∃ t, y = Value.int (f i) t) :
    ∃ t0 t1 t2 t3 t4, ys = [.int (f 0) t0, .int (f 1) t1, .int (f 2) t2, .int (f 3) t3, .int (f 4) t4] := by
  obtain ⟨a, b, c, d, e, rfl⟩ := len5 h
  obtain ⟨t0, e0⟩ := g 0 a rfl
  obtain ⟨t1, e1⟩ := g 1 b rfl
  obtain ⟨t2, e2⟩ := g 2 c rfl
  obtain ⟨t3, e3⟩ := g 3 d rfl
  obtain ⟨t4, e4⟩ := g 4 e rfl
  exact ⟨t0, t1, t2, t3, t4, by rw [e0, e1, e2, e3, e4]⟩
theorem mem_pick {items : Array Value} {lo hi st : Option Int} {v : Value} (h : v ∈ (slicePick items lo hi st).toList) : v ∈ items.toList := by
  unfold slicePick at h
  simp only [List.mem_filterMap] at h
  obtain ⟨i, _, e⟩ := h
  exact Array.mem_toList_iff.mpr (Array.mem_of_getElem? (by simpa using e))
theorem ints_mem {zs vs : List Value} {ns : List Int} (hi : IntsAre vs ns) (h : ∀ v ∈ zs, v ∈ vs) : ∃ ms, IntsAre zs ms := by
  have hv : ∀ v ∈ vs, ∃ r t, v = .int r t := by
    clear h
    induction hi with
    | nil => intro v hv; cases hv
    | cons k t _ ih =>
      intro v hv
      rcases List.mem_cons.mp hv with rfl | hv
      · exact ⟨_, _, rfl⟩
      · exact ih v hv
  induction zs with
  | nil => exact ⟨[], .nil⟩
  | cons z r ih =>
    obtain ⟨ms, hm⟩ := ih fun v hv => h v (.tail _ hv)
    obtain ⟨x, t, rfl⟩ := hv z (h z (.head _))
    exact ⟨x :: ms, .cons _ _ hm⟩
theorem pick_length_le {items : Array Value} {lo hi st : Option Int} : (slicePick items lo hi st).size ≤ (sliceRange (sliceBounds lo hi st items.size).1 (sliceBounds lo hi st items.size).2.1 (sliceBounds lo hi st items.size).2.2).length := by
  unfold slicePick
  rw [List.size_toArray]
  exact List.length_filterMap_le _ _
section
variable {prog : Program} {A : Around} {E : Value → Shared → Prop} {s : Shared} {h₀ : Heap} {L l : Addr} {m : Str → Option Value} {news : List (Addr × Obj)} {value slice : PySem.Expr} {vs : List Value} {ns : List Int} {vl vu vk : Value} {lo hi st : Option Int} {ops : List Value} {Q : Value → Shared → Prop}
theorem slice3_ints (F : Fr h₀ L s.heap m) (N : News h₀ L s.heap news) (hl : s.heap.IsList l vs.toArray) (pl : IsPart vl lo) (pu : IsPart vu hi) (pk : IsPart vk st) (h0 : st ≠ some 0) (hi' : IntsAre vs ns) (h63 : ns.length ≤ 63)
    (h : ∀ D zs ms h', IntsAre zs ms → zs.length ≤ 1000 → Fr h₀ L h' m → News h₀ L h' ((D, listOf zs.toArray 0) :: news) → (∀ p ∈ news, p.1 < D) → Q (.ref D) { s with heap := h' })
    (hz : (sliceRange (sliceBounds lo hi st vs.toArray.size).1 (sliceBounds lo hi st vs.toArray.size).2.1 (sliceBounds lo hi st vs.toArray.size).2.2).length ≤ 1000)
    (hs : subscripted slice false (.ref l) (.ref s.heap.objs.size) = operate ops (getItem (.ref l) (.ref s.heap.objs.size))) (ht : ∀ r, letTemporaryGo value (.ref l) r = pure ()) :
    wpAny (model prog w) A (subscriptTail value slice (.ref l) (.ref s.heap.objs.size)) Q E { s with heap := s.heap.push { cls := .type "slice", data := .fields #[vl, vu, vk] } } := by
  obtain ⟨ms, hm⟩ := ints_mem (zs := (slicePick vs.toArray lo hi st).toList) hi' fun v hv => by simpa using mem_pick hv
  refine kmk_slice3_lit F N hl pl pu pk h0 (zs := (slicePick vs.toArray lo hi st).toList) rfl (fun D h' F' N' l1 => h D _ ms h' hm ?_ F' N' l1) hs ht ?_
  · rw [Array.length_toList]
    exact Nat.le_trans pick_length_le hz
  · rw [List.size_toArray, hi'.length, sizeLine_eq]; omega
end
theorem slice_len {k : Int} {n : Nat} (hn : n ≤ 63) : (sliceRange (sliceBounds (some k) (some 60) (some 5) n).1 (sliceBounds (some k) (some 60) (some 5) n).2.1 (sliceBounds (some k) (some 60) (some 5) n).2.2).length ≤ 1000 := by
  have h1 : (sliceBounds (some k) (some 60) (some 5) n).2.2 = 5 := rfl
  have h2 : 0 ≤ (sliceBounds (some k) (some 60) (some 5) n).1 := by
    simp only [sliceBounds, Option.getD_some]
    split <;> omega
  have h3 : (sliceBounds (some k) (some 60) (some 5) n).2.1 ≤ 63 := by
    simp only [sliceBounds, Option.getD_some]
    split <;> split <;> omega
  rw [h1]
  generalize (sliceBounds (some k) (some 60) (some 5) n).1 = x at h2
  generalize (sliceBounds (some k) (some 60) (some 5) n).2.1 = y at h3
  unfold sliceRange
  rw [List.length_map, List.length_range, if_pos (by decide)]
  split <;> omega
section
variable {mg mb : Str → Option Value} {mean : ExcName → Option Value} {loose : List Str} {dp un : Nat} {gd : Option (List Code)} {cn : Str} {cs : Scope} {a : Addr} {ccd : Value} {cl : List (Str × Addr)} {outer : List Env} {A₀ : Around} {base h₀ : Heap} {L : Addr} {m : Str → Option Value} {s : Shared} {Q E : Value → Shared → Prop}
theorem own_bound {k : Int} (h0 : 0 ≤ k) (h5 : k < 5) : 0 ≤ ([130, 36, 90, 21, 12] : List Int).getD k.toNat 0 ∧ ([130, 36, 90, 21, 12] : List Int).getD k.toNat 0 ≤ 130 := by
  have : k = 0 ∨ k = 1 ∨ k = 2 ∨ k = 3 ∨ k = 4 := by omega
  rcases this with rfl | rfl | rfl | rfl | rfl <;> decide
theorem draw_bound {k : Int} {ms : List Int} (h0 : 0 ≤ k) (h5 : k < 5) (hm : ms.length ≤ 1000) :
    0 ≤ ([130, 36, 90, 21, 12] : List Int).getD k.toNat 0 + (ms.map fun k' => k'.fmod (10 ^ Int.toNat 6)).sum ∧ ([130, 36, 90, 21, 12] : List Int).getD k.toNat 0 + (ms.map fun k' => k'.fmod (10 ^ Int.toNat 6)).sum < 2000000000 := by
  have h1 := own_bound h0 h5
  have h2 := sum_bounds (ms := ms.map fun k' => k'.fmod (10 ^ Int.toNat 6)) (hi := 1000000) (by decide) fun r hr => by
    obtain ⟨x, _, rfl⟩ := List.mem_map.mp hr
    have e : (10 ^ Int.toNat 6 : Int) = 1000000 := by decide
    rw [e, Int.fmod_eq_emod_of_nonneg _ (by decide)]
    exact ⟨Int.emod_nonneg _ (by decide), Int.emod_lt_of_pos _ (by decide)⟩
  rw [List.length_map] at h2
  exact ⟨by omega, by omega⟩
theorem off_draws_1 : True := by
  w_top off
  k_with "my_enter" => k_dflt (first | (refine' code_def ?k1w914 ?k2w914 ?k3w914 ?k4w914 ?k5w914 ?kAw914 ?kFw914 ?kKw914 ?k6w914 ?k7w914 ?k8w914 ?k9w914 ?kBw914 ?_ ?c2w914 ?c3w914 ?c4w914 ?c5w914; (case kAw914 => exact rfl); (case kFw914 => exact rfl); (case kKw914 => assumption); (case k1w914 => k_asm); (case k2w914 => k_asm); (case k3w914 => k_asm); (case k4w914 => k_asm); (case k5w914 => k_asm); (case k6w914 => k_is); (case k7w914 => k_is); (case k8w914 => k_room); (case k9w914 => first | exact BindsTo.of_eq rfl | exact binds_K (by k_in) rfl (by k_is) rfl rfl rfl); (case c5w914 => decide); (case kBw914 => exact locs rfl); (case c2w914 => exact rfl); (case c3w914 => exact rfl); (case c4w914 => exact rfl); k_whole; intro _ _ _ _ _ N'w914 B'w914 _ _; (try dsimp only); (try k_lift B'w914); (try k_fold)) | (refine' code_defC ?k1w914 ?k2w914 ?k3w914 ?k4w914 ?k5w914 ?kAw914 ?kFw914 ?kKw914 ?k6w914 ?k7w914 ?k8w914 ?k9w914 ?kBw914 ?kDw914 ?_ ?c2w914 ?c3w914 ?c4w914; (case kAw914 => exact rfl); (case kFw914 => exact rfl); (case kKw914 => assumption); (case k1w914 => k_asm); (case k2w914 => k_asm); (case k3w914 => k_asm); (case k4w914 => k_asm); (case k5w914 => k_asm); (case k6w914 => k_is); (case k7w914 => k_is); (case k8w914 => k_room); (case k9w914 => first | exact BindsTo.of_eq rfl | exact binds_K (by k_in) rfl (by k_is) rfl rfl rfl); (case kBw914 => exact rfl); (case kDw914 => decide +kernel); (case c2w914 => exact rfl); (case c3w914 => exact rfl); (case c4w914 => exact rfl); k_whole; intro _ _ _ _ _ _ _ N'w914 Y'w914 B'w914 _ _ l1w914; (try k_lt l1w914); k_cells Y'w914; (try simp only [List.cons_append, List.nil_append] at N'w914); (try dsimp only); (try k_lift B'w914); (try k_fold)))
  k_with "my_unrolled" => (k_dflt (first | (refine LCg.CompSrc.ledger (by rfl) (by k_asm) (by k_asm) (by k_mem) (by first | size_fits | exact Nat.le_of_ble_eq_true rfl) ?_; intro _; lcg_lit) | (refine LCg.CompSrc.base (by rfl) (by k_asm) (by k_asm) ‹_› (by first | size_fits | exact Nat.le_of_ble_eq_true rfl) ?_; intro _; lcg_lit) | (refine LCg.CompSrc.range (by rfl) (by k_asm) (by k_asm) ‹_› (by first | decide | rfl) (by first | rfl | decide) (by first | size_fits | exact Nat.le_of_ble_eq_true rfl) ?_; intro _; lcg_lit)))
  k_with "my_comp" => k_dflt (refine LCg.ListComp_U (F₀ := by k_asm) (by with_unfolding_all rfl) (by decide) (by rfl) (by decide) (by rfl) ?_)
  k_with "my_compA" => k_dflt (refine LCg.Assign_ListComp_U (F₀ := by k_asm) (by rfl) (by with_unfolding_all rfl) (by with_unfolding_all rfl) (by decide) (by rfl) (by decide) (by rfl) (by rfl) (by rfl) ?_)
  k_with "CompRest" => (with_unfolding_all first | (refine LCg.CompRest.succ ?_; intro _ _ _ _ _ _ _ _ _ _ hv'w186 _ hx'w186 _ _ off'w186 _; (first | lcg_open hv'w186 | (obtain ⟨_, hv9'w186⟩ := hv'w186; subst hv9'w186; (try simp only [Int.zero_add, Int.natCast_zero, Int.natCast_one, Int.reduceAdd, Nat.reduceAdd, Int.cast_ofNat_Int] at hx'w186))); (try simp only [LCg.Off3, and_true] at off'w186)) | refine LCg.CompRest.zero ?_)
  k_with "eval ListComp" => (k_here; k_extra "my_comp")
  k_with "exec Assign cons ListComp" => (k_here; k_extra "my_compA")
  k_with "CompSrc" => k_extra "my CompSrc"
  k_with "CompEnd" => k_extra "my CompEnd"
  k_with "my turn" => (intro i'w981 _ _ _ _ _ _ _ _ _ _ _ _ hv'w981 _ hx'w981 _ _ off'w981 _; obtain ⟨_, hv9'w981⟩ := hv'w981; subst hv9'w981; (try simp only [Int.zero_add] at hx'w981); (have h0'w981 := Int.natCast_nonneg i'w981); (have hI'w981 : (i'w981 : Int) < 5 := by omega); (try simp only [LCg.Off3, and_true] at off'w981); (try k_fold))
  k_with "subscriptTail Name Slice ref ref" => k_extra "my slice"
  k_with "turn ends" => (k_here; k_dflt (refine comp_turned (by k_asm) (by k_asm) (by lcg_sub) (by first | assumption | (simp only [LCg.Off3, and_true]; done) | (simp only [LCg.Off3, and_true]; assumption) | lcg_off) (by lcg_src) ?_))
  k_with "binaryOp Add str str" => (k_here; (with_reducible show wpAny _ _ (binaryOp Operator.Add (Value.str _ _) (Value.str _ _)) _ _ _); (refine add_short (by with_reducible assumption) (by with_reducible assumption) ?_); intro _ _ _)
  k_with "call type:str" => (k_here; (with_reducible show wpAny _ _ (call (Value.type "str") [Value.int _ _]) _ _ _); (refine str_digit ‹_› ‹_› ?_); intro _ _ _)
  k_with "lex white" => (k_here; k_dflt (refine lex_white ‹_› ?_; intro _))
  k_with "FnAt" => k_dflt (exact FnAt.of (by k_asm) (by k_mem))
  k_with "run mem" => (k_extra "in run"; done)
  k_with "draws CompSrc" => (k_here; k_dflt (first | (refine LCg.CompSrc.range (n := 5) (by rfl) (by k_asm) (by k_asm) ‹_› (by first | decide | rfl) (by first | rfl | decide) (by first | size_fits | exact Nat.le_of_ble_eq_true rfl) ?_; intro _; refine rest_each (fun _ y => ∃ r t, y = Value.int r t ∧ 0 ≤ r ∧ r < 2000000000) ?_ ?_; (k_extra "my turn"); rotate_left; (intro _ _ _)) | (refine LCg.CompSrc.ledger (by rfl) (by k_asm) (by k_asm) (by k_mem) (by simp only [List.size_toArray, sizeLine_eq]; omega) ?_; intro _; refine rest_each (fun _ y => ∃ r t, y = Value.int r t ∧ 0 ≤ r ∧ r < 1000000) ?_ ?_; (intro i'w210 v'w210 _ _ _ _ _ _ _ _ _ _ _ hv'w210 _ _ _ _ off'w210 _; obtain ⟨_, _, _, e9'w210⟩ := IntsAre.at ‹_› i'w210 v'w210 (by simpa using hv'w210); subst e9'w210; (try simp only [LCg.Off3, and_true] at off'w210); (try k_fold)); rotate_left; (intro _ _ _))))
  k_with "draws slice" => (k_here; (with_reducible show wpAny _ _ (subscriptTail _ (PySem.Expr.Slice _ _ (some _) _) (Value.ref _) (Value.ref _)) _ _ _); k_dflt (refine' slice3_ints ?Fw189 ?Nw189 ?lw189 ?pw189 ?qw189 ?kw189 ?ow189 ?iw189 ?ww189 ?_ ?zw189 ?sw189 ?tw189; (case Fw189 => k_asm); (case Nw189 => k_asm); (case lw189 => kmk_list); (case pw189 => kmk_part); (case qw189 => kmk_part); (case kw189 => kmk_part); (case ow189 => decide); (case iw189 => assumption); (case ww189 => assumption); (case zw189 => exact slice_len (by (rw [List.size_toArray]; (have h9'w189 := IntsAre.length ‹_›); omega))); (case sw189 => with_unfolding_all rfl); (case tw189 => kmk_pure); intro _ _ _ _ _ _ _ _ l1w189; (try k_lt l1w189); (try k_sweep)))
  trivial
theorem c_draws {l : Addr} {vs : List Value} {ns : List Int} {news : List (Addr × Obj)} (B : Below A₀ base outer h₀) (F : Fr h₀ L s.heap m) (X : (hd.heap_1 w.params).In h₀) (N : News h₀ L s.heap news) (T : Top topProg loose mean mg mb h₀) (hk : cs.kind = .function) (h1 : dp ≤ 330) (h2 : un ≤ 200)
    (hl : base.IsList l vs.toArray) (hi : IntsAre vs ns) (h63 : ns.length ≤ 63)
    (ret : ∀ D d0 d1 d2 d3 d4 t0 t1 t2 t3 t4 n h' tk', Fr h₀ L h' m → News h₀ L h' ((D, PySem.W.listOf (List.toArray [.int d0 t0, .int d1 t1, .int d2 t2, .int d3 t3, .int d4 t4]) n) :: news) →
      (0 ≤ d0 ∧ d0 < 2000000000) → (0 ≤ d1 ∧ d1 < 2000000000) → (0 ≤ d2 ∧ d2 < 2000000000) → (0 ≤ d3 ∧ d3 < 2000000000) → (0 ≤ d4 ∧ d4 < 2000000000) → LCg.Off1 D news → Q (.ref D) { s with heap := h', toks := tk' }) :
    wpAny (model PySem.Challenge.rw_xo0026_01.row.prog w) (ktrTop dp un gd cn cs L a ccd cl outer) (call (.ref 217) [.ref l]) Q E s := by
  refine lift h1 h2 ?_
  revert X; k_fill; intro X
  refine wpAny_call ?_
  k_with "my CompSrc" => k_extra "draws CompSrc"
  k_with "my CompEnd" => k_extra "turn ends"
  k_with "my slice" => k_extra "draws slice"
  k_extra "my_enter"
  k_steps
  · obtain ⟨d0, d1, d2, d3, d4, t0, t1, t2, t3, t4, rfl, b0, b1, b2, b3, b4⟩ := five (B := 2000000000) ‹_› ‹_›
    refine ret _ d0 d1 d2 d3 d4 t0 t1 t2 t3 t4 _ _ _ ‹_› (cb_drop ‹_› (by lcg_sub)) b0 b1 b2 b3 b4 ?_
    simp only [LCg.Off1] at *
    simp only [*]
  · exact (draw_bound ‹_› (by omega) (by omega)).1
  · exact (draw_bound ‹_› (by omega) (by omega)).2
end
noncomputable def wordsO (dress d0 d1 d2 d3 d4 : Int) (t0 t1 t2 t3 t4 : Tok) (n : Nat) : Obj := PySem.W.listOf (List.toArray [.str (word dress 0 d0) t0, .str (word dress 1 d1) t1, .str (word dress 2 d2) t2, .str (word dress 3 d3) t3, .str (word dress 4 d4) t4]) n
section
variable {mg mb : Str → Option Value} {mean : ExcName → Option Value} {loose : List Str} {dp un : Nat} {gd : Option (List Code)} {cn : Str} {cs : Scope} {a : Addr} {ccd : Value} {cl : List (Str × Addr)} {outer : List Env} {A₀ : Around} {base h₀ : Heap} {L : Addr} {m : Str → Option Value} {s : Shared} {Q E : Value → Shared → Prop}
theorem off_words_1 : True := by
  w_top off
  k_with_none
  k_with "subl" => ((repeat' (first | refine List.forall_mem_cons.mpr ⟨by (repeat (first | exact List.Mem.head _ | refine List.Mem.tail _ ?_ | refine List.mem_append_right _ ?_)), ?_⟩ | refine List.forall_mem_append.mpr ⟨?_, ?_⟩)); all_goals (intro _ hpw219; (repeat (first | exact hpw219 | refine List.Mem.tail _ ?_ | exact List.mem_append_left _ hpw219 | refine List.mem_append_right _ ?_))))
  k_with "pk" => (with_reducible first | exact pk1 ‹_› | exact pk2 ‹_› | exact pk3 ‹_› | exact pk4 ‹_› | exact pk5 ‹_› | exact pk6 ‹_› | exact pk7 ‹_› | exact pk8 ‹_› | exact pk9 ‹_› | exact pk10 ‹_› | exact pk11 ‹_› | exact pk12 ‹_› | exact pk13 ‹_› | exact pk14 ‹_› | exact pl2 ‹_› | exact pl3 ‹_› | exact pl4 ‹_› | exact pl5 ‹_› | exact pl6 ‹_› | exact pl7 ‹_›)
  k_with "suc" => (with_reducible first | exact lts1 | exact lts2 | exact lts3 | exact lts4 | exact lts5 | exact lts6 | exact lts7)
  k_with "hop" => (with_reducible first | exact ‹_› | k_extra "pk" | (refine Nat.lt_trans ?_ (by first | assumption | k_extra "pk"); k_extra "hop"))
  k_with "om" => (first | (with_reducible first | ((show @Ne Nat _ _); (try dsimp only); first | exact ‹_› | exact Ne.symm ‹_› | exact Nat.ne_of_lt (by k_extra "suc") | exact Nat.ne_of_gt (by k_extra "suc") | ((fail_if_success (fail_if_success refine cj2 ‹_› ?_)); exact Nat.ne_of_gt (by k_extra "pk")) | ((fail_if_success (fail_if_success refine cj1 ‹_› ?_)); exact Nat.ne_of_lt (by k_extra "pk")) | ((fail_if_success (fail_if_success refine cj3 ‹_› ?_)); k_extra "pk") | ((fail_if_success (fail_if_success refine cj4 ‹_› ?_)); k_extra "pk") | ((fail_if_success (fail_if_success refine cj5 ‹_› ?_)); exact Ne.symm (by k_extra "pk")) | ((fail_if_success (fail_if_success refine cj6 ‹_› ?_)); exact Ne.symm (by k_extra "pk")) | exact Nat.ne_of_gt ‹_› | exact Nat.ne_of_lt ‹_›) | ((show _ ∨ _); first | exact lt5_cases ‹_› | exact i5_cases ‹_› ‹_› | exact i3_cases ‹_› ‹_›) | ((show @LT.lt Nat _ _ _); first | exact ‹_› | exact sub_step ‹_› | exact sub_step1 ‹_› | k_extra "suc" | ((fail_if_success (fail_if_success refine cj7 ‹_› ?_)); k_extra "pk")) | ((show @LE.le Nat _ _ _); (try dsimp only); first | exact (by decide) | exact Nat.le_of_lt ‹_› | exact Nat.le_of_lt (by k_extra "suc") | (refine Nat.le_trans ‹_› ?_; decide) | (refine Nat.le_trans (Nat.le_of_eq (Eq.symm ‹_›)) (Nat.le_trans ‹_› ?_); decide) | exact le_s1 (by k_extra "pk") | exact len2a ‹_› ‹_› | exact len2b ‹_› ‹_›) | ((show @LE.le Int _ _ _); exact neg5) | ((show @LT.lt Int _ _ _); exact Int.ofNat_lt.mpr ‹_›)) | lia)
  k_with "my_enter" => k_dflt (first | (refine' code_def ?k1w914 ?k2w914 ?k3w914 ?k4w914 ?k5w914 ?kAw914 ?kFw914 ?kKw914 ?k6w914 ?k7w914 ?k8w914 ?k9w914 ?kBw914 ?_ ?c2w914 ?c3w914 ?c4w914 ?c5w914; (case kAw914 => exact rfl); (case kFw914 => exact rfl); (case kKw914 => assumption); (case k1w914 => k_asm); (case k2w914 => k_asm); (case k3w914 => k_asm); (case k4w914 => k_asm); (case k5w914 => k_asm); (case k6w914 => k_is); (case k7w914 => k_is); (case k8w914 => k_room); (case k9w914 => first | exact BindsTo.of_eq rfl | exact binds_K (by k_in) rfl (by k_is) rfl rfl rfl); (case c5w914 => decide); (case kBw914 => exact locs rfl); (case c2w914 => exact rfl); (case c3w914 => exact rfl); (case c4w914 => exact rfl); k_whole; intro _ _ _ _ _ N'w914 B'w914 _ _; (try dsimp only); (try k_lift B'w914); (try k_fold)) | (refine' code_defC ?k1w914 ?k2w914 ?k3w914 ?k4w914 ?k5w914 ?kAw914 ?kFw914 ?kKw914 ?k6w914 ?k7w914 ?k8w914 ?k9w914 ?kBw914 ?kDw914 ?_ ?c2w914 ?c3w914 ?c4w914; (case kAw914 => exact rfl); (case kFw914 => exact rfl); (case kKw914 => assumption); (case k1w914 => k_asm); (case k2w914 => k_asm); (case k3w914 => k_asm); (case k4w914 => k_asm); (case k5w914 => k_asm); (case k6w914 => k_is); (case k7w914 => k_is); (case k8w914 => k_room); (case k9w914 => first | exact BindsTo.of_eq rfl | exact binds_K (by k_in) rfl (by k_is) rfl rfl rfl); (case kBw914 => exact rfl); (case kDw914 => decide +kernel); (case c2w914 => exact rfl); (case c3w914 => exact rfl); (case c4w914 => exact rfl); k_whole; intro _ _ _ _ _ _ _ N'w914 Y'w914 B'w914 _ _ l1w914; (try k_lt l1w914); k_cells Y'w914; (try simp only [List.cons_append, List.nil_append] at N'w914); (try dsimp only); (try k_lift B'w914); (try k_fold)))
  k_with "my_unrolled" => (k_dflt (first | (refine LCg.CompSrc.ledger (by rfl) (by k_asm) (by k_asm) (by k_mem) (by first | size_fits | exact Nat.le_of_ble_eq_true rfl) ?_; intro _; lcg_lit) | (refine LCg.CompSrc.base (by rfl) (by k_asm) (by k_asm) ‹_› (by first | size_fits | exact Nat.le_of_ble_eq_true rfl) ?_; intro _; lcg_lit) | (refine LCg.CompSrc.range (by rfl) (by k_asm) (by k_asm) ‹_› (by first | decide | rfl) (by first | rfl | decide) (by first | size_fits | exact Nat.le_of_ble_eq_true rfl) ?_; intro _; lcg_lit)))
  k_with "my_comp" => k_dflt (refine LCg.ListComp_U (F₀ := by k_asm) (by with_unfolding_all rfl) (by decide) (by rfl) (by decide) (by rfl) ?_)
  k_with "my_compA" => k_dflt (refine LCg.Assign_ListComp_U (F₀ := by k_asm) (by rfl) (by with_unfolding_all rfl) (by with_unfolding_all rfl) (by decide) (by rfl) (by decide) (by rfl) (by rfl) (by rfl) ?_)
  k_with "CompRest" => (with_unfolding_all first | (refine LCg.CompRest.succ ?_; intro _ _ _ _ _ _ _ _ _ _ hv'w186 _ hx'w186 _ _ off'w186 _; (first | lcg_open hv'w186 | (obtain ⟨_, hv9'w186⟩ := hv'w186; subst hv9'w186; (try simp only [Int.zero_add, Int.natCast_zero, Int.natCast_one, Int.reduceAdd, Nat.reduceAdd, Int.cast_ofNat_Int] at hx'w186))); (try simp only [LCg.Off3, and_true] at off'w186)) | refine LCg.CompRest.zero ?_)
  k_with "eval ListComp" => (k_here; k_extra "my_comp")
  k_with "exec Assign cons ListComp" => (k_here; k_extra "my_compA")
  k_with "CompSrc" => k_extra "my CompSrc"
  k_with "subscriptTail" => k_extra "my strs"
  k_with "CompEnd" => k_extra "my CompEnd"
  k_with "my turn" => (intro i'w981 _ _ _ _ _ _ _ _ _ _ _ _ hv'w981 _ hx'w981 _ _ off'w981 _; obtain ⟨_, hv9'w981⟩ := hv'w981; subst hv9'w981; (try simp only [Int.zero_add] at hx'w981); (have h0'w981 := Int.natCast_nonneg i'w981); (have hI'w981 : (i'w981 : Int) < 5 := by omega); (try simp only [LCg.Off3, and_true] at off'w981); (try k_fold))
  k_with "turn ends" => (k_here; k_dflt (refine comp_turned (by k_asm) (by k_asm) (by lcg_sub) (by first | assumption | (simp only [LCg.Off3, and_true]; done) | (simp only [LCg.Off3, and_true]; assumption) | lcg_off) (by lcg_src) ?_))
  k_with "ints item" => (k_here; (with_reducible show wpAny _ _ (subscriptTail _ _ (Value.ref _) (Value.int _ _)) _ _ _); k_dflt (refine' item_ints ?k1w601 ?k2w601 ?k3w601 ?k4w601 ?k5w601 ?_ ?k6w601; (case k1w601 => first | exact News.isList (by k_asm) (by k_mem) | is_list); (case k2w601 => l_ints); (case k3w601 => omega); (case k4w601 => first | (simp only [List.length_cons, List.length_nil]; omega) | omega); (case k5w601 => omega); (case k6w601 => with_unfolding_all rfl); k_whole; intro _))
  k_with "subscriptTail Name Name ref int" => k_extra "my item"
  k_with "range5" => (k_here; k_dflt (refine LCg.CompSrc.range (n := 5) (by rfl) (by k_asm) (by k_asm) ‹_› (by first | decide | rfl) (by first | rfl | decide) (by first | size_fits | exact Nat.le_of_ble_eq_true rfl) ?_; intro _))
  k_with "my fin" => intro _ _ _
  k_with "tab item" => (k_here; (with_reducible show wpAny _ _ (subscriptTail _ _ (Value.ref _) (Value.int _ _)) _ _ _); k_dflt (refine' item_tab ?k1w613 ?k3w613 ?k4w613 ?i0w613 ?i1w613 ?i2w613 ?s0w613 ?s1w613 ?s2w613 ?_ ?k6w613; (case k1w613 => exact News.isList (by k_asm) (by k_mem)); (case i0w613 => exact News.isList (by k_asm) (by k_mem)); (case i1w613 => exact News.isList (by k_asm) (by k_mem)); (case i2w613 => exact News.isList (by k_asm) (by k_mem)); (case s0w613 => exact .cons _ _ (.cons _ _ (.cons _ _ (.cons _ _ (.cons _ _ .nil))))); (case s1w613 => exact .cons _ _ (.cons _ _ (.cons _ _ (.cons _ _ (.cons _ _ .nil))))); (case s2w613 => exact .cons _ _ (.cons _ _ (.cons _ _ (.cons _ _ (.cons _ _ .nil))))); (case k3w613 => omega); (case k4w613 => omega); (case k6w613 => with_unfolding_all rfl); k_whole; intro _ _ _ _))
  k_with "strs item" => (k_here; (with_reducible show wpAny _ _ (subscriptTail _ _ (Value.ref _) (Value.int _ _)) _ _ _); k_dflt (refine' item_strs ?k1w287 ?k2w287 ?kaw287 ?k3w287 ?k4w287 ?k5w287 ?_ ?k6w287; (case k1w287 => first | with_reducible assumption | exact News.isList (by k_asm) (by k_mem)); (case k2w287 => first | assumption | exact .cons _ _ (.cons _ _ (.cons _ _ (.cons _ _ (.cons _ _ .nil))))); (case kaw287 => first | with_reducible exact tab_all | decide +kernel); (case k3w287 => k_extra "an index"); (case k4w287 => k_extra "an index"); (case k5w287 => k_extra "an index"); (case k6w287 => with_unfolding_all rfl); k_whole; intro _ _))
  k_with "an index" => ((try rw [tab_len ‹_› ‹_›]); first | with_reducible exact fmod_lo _ (by decide) | exact Int.lt_of_lt_of_le (fmod_hi _ (by decide)) (by decide) | omega)
  k_with "binaryOp Add str str" => (k_here; (with_reducible show wpAny _ _ (binaryOp Operator.Add (Value.str _ _) (Value.str _ _)) _ _ _); (refine add_short (by with_reducible assumption) (by with_reducible assumption) ?_); intro _ _ _)
  k_with "call type:str" => (k_here; (with_reducible show wpAny _ _ (call (Value.type "str") [Value.int _ _]) _ _ _); (refine str_digit ‹_› ‹_› ?_); intro _ _ _)
  k_with "subscriptTail Name BinOp ref int" => k_extra "my strs"
  k_with "subscriptTail Subscript" => k_extra "my strs"
  k_with "lex white" => (k_here; k_dflt (refine lex_white ‹_› ?_; intro _))
  k_with "FnAt" => k_dflt (exact FnAt.of (by k_asm) (by k_mem))
  k_with "run mem" => (k_extra "in run"; done)
  trivial
theorem c_words {l : Addr} {news : List (Addr × Obj)} {dress d0 d1 d2 d3 d4 : Int} {t0 t1 t2 t3 t4 tk : Tok} {n : Nat} (B : Below A₀ base outer h₀) (F : Fr h₀ L s.heap m) (X : (hd.heap_1 w.params).In h₀) (N : News h₀ L s.heap news) (T : Top topProg loose mean mg mb h₀) (hk : cs.kind = .function) (h1 : dp ≤ 330) (h2 : un ≤ 200)
    (hm : (l, PySem.W.listOf (List.toArray [.int d0 t0, .int d1 t1, .int d2 t2, .int d3 t3, .int d4 t4]) n) ∈ news) (hr0 : 0 ≤ dress) (hr3 : dress < 3)
    (ret : ∀ D t0 t1 t2 t3 t4 n h' tk', Fr h₀ L h' m → News h₀ L h' ((D, PySem.W.listOf (List.toArray [.str (word dress 0 d0) t0, .str (word dress 1 d1) t1, .str (word dress 2 d2) t2, .str (word dress 3 d3) t3, .str (word dress 4 d4) t4]) n) :: news) →
      LCg.Off1 D news → Q (.ref D) { s with heap := h', toks := tk' }) :
    wpAny (model PySem.Challenge.rw_xo0026_01.row.prog w) (ktrTop dp un gd cn cs L a ccd cl outer) (call (.ref 222) [.ref l, .int dress tk]) Q E s := by
  refine lift h1 h2 ?_
  revert X; k_fill; intro X
  refine wpAny_call ?_
  k_with "my CompSrc" => k_extra "range5"; refine rest_each (fun i y => ∃ t, y = Value.str (word dress (i : Int) (([d0, d1, d2, d3, d4] : List Int).getD i 0)) t) ?_ ?_; k_extra "my turn"; rotate_left; k_extra "my fin"
  k_with "my CompEnd" => k_extra "turn ends"
  k_with "my item" => first | k_extra "ints item" | k_extra "tab item"
  k_with "my strs" => k_extra "strs item"
  k_with "eval BinOp" => k_fold; walk_at "eval BinOp"
  k_with "eval List" => k_fold; walk_at "eval List"
  k_with "eval Subscript" => k_fold; walk_at "eval Subscript"
  k_extra "my_enter"
  k_steps
  obtain ⟨t0, t1, t2, t3, t4, rfl⟩ := five_strs (f := fun i => word dress (i : Int) (([d0, d1, d2, d3, d4] : List Int).getD i 0)) ‹_› ‹_›
  refine ret _ t0 t1 t2 t3 t4 _ _ _ ‹_› (cb_drop ‹_› (List.forall_mem_cons.mpr ⟨List.mem_cons_self, by lcg_sub⟩)) ?_
  simp only [LCg.Off1] at *
  simp only [*]
theorem c_wordsO {l : Addr} {news : List (Addr × Obj)} {dress d0 d1 d2 d3 d4 : Int} {t0 t1 t2 t3 t4 tk : Tok} {n : Nat} (B : Below A₀ base outer h₀) (F : Fr h₀ L s.heap m) (X : (hd.heap_1 w.params).In h₀) (N : News h₀ L s.heap news) (T : Top topProg loose mean mg mb h₀) (hk : cs.kind = .function) (h1 : dp ≤ 330) (h2 : un ≤ 200)
    (hm : (l, PySem.W.listOf (List.toArray [.int d0 t0, .int d1 t1, .int d2 t2, .int d3 t3, .int d4 t4]) n) ∈ news) (hr0 : 0 ≤ dress) (hr3 : dress < 3)
    (ret : ∀ D t0 t1 t2 t3 t4 n h' tk', Fr h₀ L h' m → News h₀ L h' ((D, wordsO dress d0 d1 d2 d3 d4 t0 t1 t2 t3 t4 n) :: news) →
      LCg.Off1 D news → Q (.ref D) { s with heap := h', toks := tk' }) :
    wpAny (model PySem.Challenge.rw_xo0026_01.row.prog w) (ktrTop dp un gd cn cs L a ccd cl outer) (call (.ref 222) [.ref l, .int dress tk]) Q E s :=
  c_words B F X N T hk h1 h2 hm hr0 hr3 ret
end
noncomputable def ahead (t : Int) : Int := t.fmod 2
noncomputable def way1 (t : Int) : Int := 1 - 2 * (t.fdiv 2).fmod 2
noncomputable def way2 (t : Int) : Int := 1 - 2 * (t.fdiv 4).fmod 2
noncomputable abbrev tupO (vs : List Value) : Obj := { cls := .type "tuple", data := .seq vs.toArray }
section
variable {mg mb : Str → Option Value} {mean : ExcName → Option Value} {loose : List Str} {dp un : Nat} {gd : Option (List Code)} {cn : Str} {cs : Scope} {a : Addr} {ccd : Value} {cl : List (Str × Addr)} {outer : List Env} {A₀ : Around} {base h₀ : Heap} {L : Addr} {m : Str → Option Value} {s : Shared} {Q E : Value → Shared → Prop}
theorem c_select {l : Addr} {news : List (Addr × Obj)} {d0 d1 d2 d3 d4 : Int} {t0 t1 t2 t3 t4 : Tok} {n : Nat} (B : Below A₀ base outer h₀) (F : Fr h₀ L s.heap m) (X : (hd.heap_1 w.params).In h₀) (N : News h₀ L s.heap news) (T : Top topProg loose mean mg mb h₀) (hk : cs.kind = .function) (h1 : dp ≤ 330) (h2 : un ≤ 200)
    (hm : (l, PySem.W.listOf (List.toArray [.int d0 t0, .int d1 t1, .int d2 t2, .int d3 t3, .int d4 t4]) n) ∈ news)
    (b0 : 0 ≤ d0 ∧ d0 < 2000000000) (b1 : 0 ≤ d1 ∧ d1 < 2000000000) (b2 : 0 ≤ d2 ∧ d2 < 2000000000) (b3 : 0 ≤ d3 ∧ d3 < 2000000000) (b4 : 0 ≤ d4 ∧ d4 < 2000000000)
    (ret : ∀ D T1 T2 ta tb tc td n h' tk' tot, tot = d0 + (d1 + (d2 + (d3 + d4))) → Fr h₀ L h' m → News h₀ L h' ((D, PySem.W.listOf (List.toArray [.ref T1, .ref T2]) n) :: (T2, tupO [.int (1 - ahead tot) tc, .int (way2 tot) td]) :: (T1, tupO [.int (ahead tot) ta, .int (way1 tot) tb]) :: news) →
      @LT.lt Nat _ T1 T2 → @LT.lt Nat _ T2 D → AllLt T1 news → Q (.ref D) { s with heap := h', toks := tk' }) :
    wpAny (model PySem.Challenge.rw_xo0026_01.row.prog w) (ktrTop dp un gd cn cs L a ccd cl outer) (call (.ref 236) [.ref l]) Q E s := by
  refine lift h1 h2 ?_
  revert X; k_fill; intro X
  refine wpAny_call ?_
  k_extra "my_enter"
  k_steps
  exact ret _ _ _ _ _ _ _ _ _ _ (d0 + (d1 + (d2 + (d3 + (d4 + 0))))) (by rw [Int.add_zero]) ‹_› ‹_› (by omega) (by omega) (by first | assumption | exact allLt_of ‹_›)
end
inductive BackG (GB : Array GenState → Prop) (h₀ : Heap) (L : Addr) (Jn : (Str → Option Value) → List (Addr × Obj) → Prop) (I : Addr) (oI : Obj) (s₁ : Shared) : Shared → Prop
  | mk (h' : Heap) (tk : Nat) (gs : Array GenState) (m' : Str → Option Value) (news' : List (Addr × Obj)) (gb : GB gs) (F : Fr h₀ L h' m') (N : News h₀ L h' ((I, oI) :: news')) (off : ∀ p ∈ news', p.1 ≠ I) (j : Jn m' news') :
      BackG GB h₀ L Jn I oI s₁ { s₁ with heap := h', toks := tk, gens := gs }
inductive LoopG (GB : Array GenState → Prop) (h₀ : Heap) (L : Addr) (J : Nat → (Str → Option Value) → List (Addr × Obj) → Prop) (I : Addr) (St : Nat → Heap → Prop) (n : Nat) (s₁ : Shared) (k : Nat) : Shared → Prop
  | mk (h : Heap) (tk : Nat) (gs : Array GenState) (m' : Str → Option Value) (news' : List (Addr × Obj)) (i : Nat) (gb : GB gs) (st : St i h) (F : Fr h₀ L h m') (N : News h₀ L h news') (off : ∀ p ∈ news', p.1 ≠ I) (j : J i m' news') (hi : i ≤ n) (e : k = n - i) :
      LoopG GB h₀ L J I St n s₁ k { s₁ with heap := h, toks := tk, gens := gs }
noncomputable def TurnG (GB : Array GenState → Prop) (h₀ : Heap) (L : Addr) (Jn : (Str → Option Value) → List (Addr × Obj) → Prop) (I : Addr) (oI : Obj) (s₁ : Shared) (Q : Flow → Shared → Prop) (f : Flow) (s₂ : Shared) : Prop := match f with
  | .ret v => Q (.ret v) s₂
  | .brk => Q .next s₂
  | _ => BackG GB h₀ L Jn I oI s₁ s₂
theorem TurnG.next {GB : Array GenState → Prop} {h₀ h' : Heap} {L : Addr} {Jn : (Str → Option Value) → List (Addr × Obj) → Prop} {I : Addr} {oI : Obj} {s₁ : Shared} {Q : Flow → Shared → Prop} {tk : Nat} {gs : Array GenState} {m' : Str → Option Value} {news' : List (Addr × Obj)}
    (gb : GB gs) (F : Fr h₀ L h' m') (N : News h₀ L h' ((I, oI) :: news')) (o : ∀ p ∈ news', p.1 ≠ I) (j : Jn m' news') : TurnG GB h₀ L Jn I oI s₁ Q .next { s₁ with heap := h', toks := tk, gens := gs } := .mk h' tk gs m' news' gb F N o j
theorem TurnG.ret {GB : Array GenState → Prop} {h₀ : Heap} {L : Addr} {Jn : (Str → Option Value) → List (Addr × Obj) → Prop} {I : Addr} {oI : Obj} {s₁ s : Shared} {Q : Flow → Shared → Prop} {v : Value} (h : Q (.ret v) s) : TurnG GB h₀ L Jn I oI s₁ Q (.ret v) s := h
noncomputable def TurnJ (h₀ : Heap) (L : Addr) (Jn : (Str → Option Value) → List (Addr × Obj) → Prop) (I : Addr) (oI : Obj) (s₁ : Shared) (Q : Flow → Shared → Prop) (f : Flow) (s₂ : Shared) : Prop := TurnG (fun gs => gs = s₁.gens) h₀ L Jn I oI s₁ Q f s₂
theorem TurnJ.next {h₀ h' : Heap} {L : Addr} {Jn : (Str → Option Value) → List (Addr × Obj) → Prop} {I : Addr} {oI : Obj} {s₁ : Shared} {Q : Flow → Shared → Prop} {tk : Nat} {m' : Str → Option Value} {news' : List (Addr × Obj)}
    (F : Fr h₀ L h' m') (N : News h₀ L h' ((I, oI) :: news')) (o : ∀ p ∈ news', p.1 ≠ I) (j : Jn m' news') : TurnJ h₀ L Jn I oI s₁ Q .next { s₁ with heap := h', toks := tk } := .mk h' tk s₁.gens m' news' rfl F N o j
section
variable {h₀ h h' h₂ : Heap} {L I : Addr} {m' : Str → Option Value} {news' : List (Addr × Obj)}
theorem keepG (hIL : I ≠ L) (hI0 : h₀.get? I = none) (F' : Fr h₀ L h m') (N' : News h₀ L h news') (off : ∀ p ∈ news', p.1 ≠ I) (hk : ∀ b o, b ∉ [I] → h.get? b = some o → h'.get? b = some o) : Fr h₀ L h' m' ∧ News h₀ L h' news' := by
  refine ⟨⟨F'.ns.at fun o x => hk _ o (fun e => hIL (List.mem_singleton.mp e).symm) x, fun b o e => hk b o (fun e' => ?_) (F'.keep b o e), F'.above⟩, fun p hp => ⟨hk _ _ (fun e => off p hp (List.mem_singleton.mp e)) (N' p hp).1, (N' p hp).2⟩⟩
  rw [List.mem_singleton.mp e', hI0] at e; cases e
theorem BackG.step {GB : Array GenState → Prop} {J : Nat → (Str → Option Value) → List (Addr × Obj) → Prop} {St : Nat → Heap → Prop} {n i t5 : Nat} {s₁ s₃ : Shared} {fp : List Addr} {oI : Obj} {h5 : Heap} {gs : Array GenState}
    (hfr : ∀ h6 : Heap, (∀ c ∈ fp, ∀ o, h₂.get? c = some o → h6.get? c = some o) → St (i + 1) h6) (hoI : h₂.get? I = some oI) (N₂ : News h₀ L h₂ news') (hJ : J i m' news')
    (hJm : ∀ b ∈ fp, b ≠ I → ∃ o, ∀ i m₁ news₁, J i m₁ news₁ → (b, o) ∈ news₁) (hin : i < n) (q : BackG GB h₀ L (J (i + 1)) I oI { s₁ with heap := h5, toks := t5, gens := gs } s₃) : ∃ k', k' < n - i ∧ LoopG GB h₀ L J I St n s₁ k' s₃ := by
  obtain ⟨h₆, tk₆, gs₆, m'', news'', gb₆, F₆, N₆, off₆, hJ₆⟩ := q
  refine ⟨n - (i + 1), by omega, .mk h₆ tk₆ gs₆ m'' news'' (i + 1) gb₆ (hfr h₆ fun c hc o e => ?_) F₆ (fun p hp => N₆ p (.tail _ hp)) off₆ hJ₆ hin rfl⟩
  by_cases hcI : c = I
  · subst hcI
    rw [hoI] at e
    cases e
    exact (N₆ (c, oI) (.head _)).1
  · obtain ⟨o', ho'⟩ := hJm c hc hcI
    have e1 : h₂.get? c = some o' := (N₂ _ (ho' _ _ _ hJ)).1
    rw [e] at e1
    cases e1
    exact (N₆ _ (.tail _ (ho' _ _ _ hJ₆))).1
end
section
variable {prog : Program} {A : Around} {E : Value → Shared → Prop} {s : Shared} {env : Env} {h₀ : Heap} {x : Str} {body : List Stmt} {Q : Flow → Shared → Prop}
theorem range_loop {r : Addr} {a₀ b₀ : Int} {t₀ u₀ v₀ : Tok} {n : Nat} {m₀ : Str → Option Value} {news : List (Addr × Obj)} (J : Nat → (Str → Option Value) → List (Addr × Obj) → Prop)
    (hh : A.handled = none) (hr : IsRange s.heap r a₀ b₀ 1 t₀ u₀ v₀) (hsmall : Builtin.Range.small a₀ b₀ 1 = true) (hn : Builtin.Range.rangeSize a₀ b₀ 1 = (n : Int)) (F : Fr h₀ env.locals s.heap m₀) (N : News h₀ env.locals s.heap news) (hj : J 0 m₀ news)
    (turn : ∀ (i : Nat) t m₁ news₁ h tk I oI, i < n → J i m₁ news₁ → (∀ p ∈ news₁, p.1 ≠ I) → Fr h₀ env.locals h (fun y => if y = x then some (.int (a₀ + (i : Int)) t) else m₁ y) → News h₀ env.locals h ((I, oI) :: news₁) →
      wpAny (model prog w) A (execs body env) (TurnJ h₀ env.locals (J (i + 1)) I oI { s with heap := h, toks := tk } Q) E { s with heap := h, toks := tk })
    (done : ∀ m₁ news₁ h tk, J n m₁ news₁ → Fr h₀ env.locals h m₁ → News h₀ env.locals h news₁ → Q .next { s with heap := h, toks := tk }) :
    wpAny (model prog w) A (pyIter (.ref r)) (fun it s₂ => LoopAtV prog w A h₀ env x body Q E it s₂) E s := by
  refine wpAny_pyIter_range hr hsmall ?_
  have W : Walks prog w A s.heap.objs.size [s.heap.objs.size] [s.heap.objs.size] n (fun i v => ∃ t, v = .int (a₀ + (i : Int)) t)
      (fun i h => IsRangeIter h s.heap.objs.size (a₀ + (i : Nat) * 1) ((n : Int) - (i : Nat)) 1) := LCg.range_walks hh a₀ n
  refine ex9 s.heap.objs.size _ _ n _ _ m₀ news J ⟨rfl, W, ?_, ?_, ?_, (by show IsRangeIter _ _ _ _ _; rw [hn]; simpa using Heap.get?_push_size _ rfl), F.push _, (fun p hp => ⟨Heap.get?_push_of_some _ (N p hp).1, (N p hp).2⟩), hj, ?_, ?_⟩
  · intro hm; exact absurd F.ns.lt ((List.mem_singleton.mp hm) ▸ Nat.lt_irrefl _)
  · intro b hb; rw [List.mem_singleton.mp hb]; exact next_is_new F
  · intro p hp hI; exact absurd (Heap.lt_size (N p hp).1) ((List.mem_singleton.mp hI) ▸ Nat.lt_irrefl _)
  · rintro i v m₁ news₁ s₁ own ⟨hh', tk', rfl⟩ hin ⟨t, rfl⟩ hJ hoff hown hownh hfp hst F₁ N₁
    obtain ⟨oI, hst'⟩ : ∃ oI, hh'.get? s.heap.objs.size = some oI := ⟨_, hst⟩
    have hmem := hfp s.heap.objs.size (List.mem_singleton.mpr rfl) (next_is_new F) _ hst'
    have hoff' : ∀ p ∈ news₁, p.1 ≠ s.heap.objs.size := fun p hp e => hoff p hp (List.mem_singleton.mpr e)
    refine wpAny_mono (turn i t m₁ news₁ hh' tk' s.heap.objs.size oI hin hJ hoff' F₁ (fun p hp => ?_)) (fun f s₂ q => ?_) fun _ _ e => e
    · rcases List.mem_cons.mp hp with rfl | hp
      · exact N₁ _ (List.mem_append_left _ hmem)
      · exact N₁ _ (List.mem_append_right _ hp)
    · have fin : BackG (fun gs => gs = s.gens) h₀ env.locals (J (i + 1)) s.heap.objs.size oI { s with heap := hh', toks := tk' } s₂ → LoopStepU h₀ env.locals [s.heap.objs.size] own (J (i + 1)) { s with heap := hh', toks := tk' } .next s₂ := by
        rintro ⟨h', tk, _, m', news', rfl, F', N', o', j'⟩
        refine ⟨rfl, h', tk, m', news', rfl, F', fun p hp => ?_, fun p hp hI => o' p hp (List.mem_singleton.mp hI), j'⟩
        rcases List.mem_append.mp hp with hp | hp
        · have e1 := List.mem_singleton.mp (hown p hp)
          have e2 := hownh p hp
          have e3 : p = (s.heap.objs.size, oI) := by
            refine Prod.ext e1 ?_
            rw [e1, hst'] at e2
            exact (Option.some.inj e2).symm
          rw [e3]; exact N' _ (.head _)
        · exact N' _ (.tail _ hp)
      cases f with
      | ret v => exact .ret q
      | brk => exact .brk q
      | next => exact .next (fin q)
      | cont => exact .cont (fin q)
  · rintro h' tk m' news' F' N' _ hJ
    exact done m' news' h' tk hJ F' N'

theorem list_loop {ax : Addr} {vs : List Value} {ol : Obj} {m₀ : Str → Option Value} {news : List (Addr × Obj)} (J : Nat → (Str → Option Value) → List (Addr × Obj) → Prop)
    (hh : A.handled = none) (hm : (ax, ol) ∈ news) (hc : ol.cls = .type "list") (hd : ∃ n, ol.data = .seq vs.toArray n) (F : Fr h₀ env.locals s.heap m₀) (N : News h₀ env.locals s.heap news) (hj : J 0 m₀ news) (hJm : ∀ i m₁ news₁, J i m₁ news₁ → (ax, ol) ∈ news₁)
    (turn : ∀ (i : Nat) v m₁ news₁ h tk I oI, vs[i]? = some v → J i m₁ news₁ → (∀ p ∈ news₁, p.1 ≠ I) → Fr h₀ env.locals h (fun y => if y = x then some v else m₁ y) → News h₀ env.locals h ((I, oI) :: news₁) →
      wpAny (model prog w) A (execs body env) (TurnJ h₀ env.locals (J (i + 1)) I oI { s with heap := h, toks := tk } Q) E { s with heap := h, toks := tk })
    (done : ∀ m₁ news₁ h tk, J vs.length m₁ news₁ → Fr h₀ env.locals h m₁ → News h₀ env.locals h news₁ → Q .next { s with heap := h, toks := tk }) :
    wpAny (model prog w) A (pyIter (.ref ax)) (fun it s₂ => LoopAtV prog w A h₀ env x body Q E it s₂) E s := by
  have hls : s.heap.IsList ax vs.toArray := ⟨ol, (N _ hm).1, hc, hd⟩
  have hlt : ax < s.heap.objs.size := Heap.lt_size (N _ hm).1
  have hne : ax ≠ s.heap.objs.size := Nat.ne_of_lt hlt
  refine wpAny_pyIter_list hls ?_
  have W := Walks.list (prog := prog) (w := w) hh s.heap.objs.size ax hne vs.toArray
  have hlen : vs.toArray.size = vs.length := List.size_toArray
  rw [hlen] at W
  have hax : ax ∉ ([s.heap.objs.size] : List Addr) := fun h => hne (List.mem_singleton.mp h)
  refine ex9 s.heap.objs.size _ _ vs.length _ _ m₀ news J ⟨rfl, W, ?_, ?_, ?_, ⟨⟨_, Heap.get?_push_size _ rfl, rfl, rfl⟩, hls.at fun o e => Heap.get?_push_of_some _ e⟩, F.push _, (fun p hp => ⟨Heap.get?_push_of_some _ (N p hp).1, (N p hp).2⟩), hj, ?_, ?_⟩
  · intro hL
    rcases List.mem_cons.mp hL with e | hL
    · exact absurd F.ns.lt (e ▸ Nat.lt_irrefl _)
    · exact (N _ hm).2.1 (List.mem_singleton.mp hL).symm
  · intro b hb; rw [List.mem_singleton.mp hb]; exact next_is_new F
  · intro p hp hI; exact absurd (Heap.lt_size (N p hp).1) ((List.mem_singleton.mp hI) ▸ Nat.lt_irrefl _)
  · rintro i v m₁ news₁ s₁ own ⟨hh', tk', rfl⟩ hin hP hJ hoff hown hownh hfp hst F₁ N₁
    obtain ⟨oI, heI, _⟩ := hst.1
    have hmem := hfp s.heap.objs.size (List.mem_cons_self) (next_is_new F) _ heI
    have hoff' : ∀ p ∈ news₁, p.1 ≠ s.heap.objs.size := fun p hp e => hoff p hp (List.mem_singleton.mpr e)
    refine wpAny_mono (turn i v m₁ news₁ hh' tk' s.heap.objs.size oI (by simpa using hP) hJ hoff' F₁ (fun p hp => ?_)) (fun f s₂ q => ?_) fun _ _ e => e
    · rcases List.mem_cons.mp hp with rfl | hp
      · exact N₁ _ (List.mem_append_left _ hmem)
      · exact N₁ _ (List.mem_append_right _ hp)
    · have fin : BackG (fun gs => gs = s.gens) h₀ env.locals (J (i + 1)) s.heap.objs.size oI { s with heap := hh', toks := tk' } s₂ → LoopStepU h₀ env.locals [s.heap.objs.size] own (J (i + 1)) { s with heap := hh', toks := tk' } .next s₂ := by
        rintro ⟨h', tk, _, m', news', rfl, F', N', o', j'⟩
        refine ⟨rfl, h', tk, m', news', rfl, F', fun p hp => ?_, fun p hp hI => o' p hp (List.mem_singleton.mp hI), j'⟩
        rcases List.mem_append.mp hp with hp | hp
        · have e2 := hownh p hp
          rcases List.mem_cons.mp (hown p hp) with e1 | e1
          · have e3 : p = (s.heap.objs.size, oI) := by
              refine Prod.ext e1 ?_
              rw [e1, heI] at e2
              exact (Option.some.inj e2).symm
            rw [e3]; exact N' _ (.head _)
          · have e1 := List.mem_singleton.mp e1
            have hz := N₁ _ (List.mem_append_right _ (hJm _ _ _ hJ))
            have e3 : p = (ax, ol) := by
              refine Prod.ext e1 ?_
              have hz' : hh'.get? ax = some ol := hz.1
              rw [e1, hz'] at e2
              exact (Option.some.inj e2).symm
            rw [e3]; exact N' _ (.tail _ (hJm _ _ _ j'))
        · exact N' _ (.tail _ hp)
      cases f with
      | ret v => exact .ret q
      | brk => exact .brk q
      | next => exact .next (fin q)
      | cont => exact .cont (fin q)
  · rintro h' tk m' news' F' N' _ hJ
    exact done m' news' h' tk hJ F' N'
end
noncomputable def words (dress : Int) (ds : List Int) : List Str := (List.range 5).map fun i : Nat => word dress (i : Int) (ds.getD i 0)
noncomputable def white (i : Int) : Str := Txt.item (Str.ofString " \n\t\r\n") i
noncomputable def piece (ds : List Int) (i : Nat) : Str := if ((ds.getD i 0).fdiv 75).fmod 2 = 1 then Str.ofString "\"" ++ word 2 (i : Int) (ds.getD i 0) ++ Str.ofString "\"" else word 1 (i : Int) (ds.getD i 0)
noncomputable def parts (ds : List Int) : Nat → List Str
  | 0 => []
  | i + 1 => parts ds i ++ [piece ds i, white (i : Int)]
theorem parts_length {ds : List Int} : ∀ i, (parts ds i).length = 2 * i
  | 0 => rfl
  | i + 1 => by show (parts ds i ++ _).length = _; rw [List.length_append, parts_length i]; simp; omega
theorem upd_self {x : Str} (m : Str → Option Value) : m = fun y => if y = x then m x else m y := by
  funext y; split
  · next h => rw [h]
  · rfl
theorem upd_upd {x : Str} {v u : Option Value} (m : Str → Option Value) : (fun y => if y = x then v else (if y = x then u else m y)) = fun y => if y = x then v else m y := by
  funext y; split <;> simp [*]
section
variable {prog : Program} {A : Around} {E : Value → Shared → Prop} {s : Shared} {env : Env} {h₀ : Heap} {body : List Stmt} {Q : Flow → Shared → Prop}
noncomputable def LexJ (m₀ : Str → Option Value) (wl : Addr) (rest : List (Addr × Obj)) (ds : List Int) (i : Nat) (m' : Str → Option Value) (news' : List (Addr × Obj)) : Prop :=
  ∃ pm vs n, (m' = fun y : Str => if y = "place" then pm else m₀ y) ∧ news' = (wl, PySem.W.listOf (List.toArray vs) n) :: rest ∧ StrsAre vs (parts ds i)
theorem lex_loop {ds : List Int} {r wl : Addr} {rest : List (Addr × Obj)} {t₀ u₀ v₀ : Tok} {m₀ : Str → Option Value}
    (hh : A.handled = none) (hr : IsRange s.heap r 0 5 1 t₀ u₀ v₀) (F : Fr h₀ env.locals s.heap m₀) (N : News h₀ env.locals s.heap ((wl, PySem.W.listOf (List.toArray []) 0) :: rest))
    (turn : ∀ (i : Nat) t vs n h tk I oI, i < 5 → vs.length = 2 * i → StrsAre vs (parts ds i) → @Ne Nat I wl → (∀ p ∈ rest, @Ne Nat I p.1) → Fr h₀ env.locals h (fun y => if y = "place" then some (.int (i : Int) t) else m₀ y) → News h₀ env.locals h ((I, oI) :: (wl, PySem.W.listOf (List.toArray vs) n) :: rest) →
      wpAny (model prog w) A (execs body env) (TurnJ h₀ env.locals (LexJ m₀ wl rest ds (i + 1)) I oI { s with heap := h, toks := tk } Q) E { s with heap := h, toks := tk })
    (done : ∀ pm vs n h tk, vs.length = 10 → StrsAre vs (parts ds 5) → Fr h₀ env.locals h (fun y => if y = "place" then pm else m₀ y) → News h₀ env.locals h ((wl, PySem.W.listOf (List.toArray vs) n) :: rest) → Q .next { s with heap := h, toks := tk }) :
    wpAny (model prog w) A (pyIter (.ref r)) (fun it s₂ => LoopAtV prog w A h₀ env "place" body Q E it s₂) E s := by
  refine range_loop (n := 5) (LexJ m₀ wl rest ds) hh hr rfl rfl F N ⟨_, _, _, upd_self m₀, rfl, .nil⟩ ?_ ?_
  · rintro i t m₁ news₁ h tk I oI hi ⟨pm, vs, n, rfl, rfl, hs⟩ off F' N'
    have e : (0 : Int) + (i : Int) = (i : Int) := Int.zero_add _
    rw [e, upd_upd] at F'
    refine turn i t vs n h tk I oI hi (by rw [hs.len_eq, parts_length]) hs (fun e => off _ (.head _) e.symm) (fun p hp e => off _ (.tail _ hp) e.symm) F' N'
  · rintro m₁ news₁ h tk ⟨pm, vs, n, rfl, rfl, hs⟩ F' N'
    exact done pm vs n h tk (by rw [hs.len_eq, parts_length]) hs F' N'
theorem lex_turn {ds : List Int} {wl I : Addr} {oI : Obj} {rest : List (Addr × Obj)} {m₀ : Str → Option Value} {i : Nat} {vs : List Value} {x : Str} {t u : Tok} {v : Option Value} {n : Nat} {h' : Heap} {tk : Nat}
    (F : Fr h₀ env.locals h' (fun y => if y = "place" then v else m₀ y)) (N : News h₀ env.locals h' ((I, oI) :: (wl, PySem.W.listOf ((List.toArray vs |>.push (Value.str x t)).push (Value.str (white (i : Int)) u)) n) :: rest)) (hs : StrsAre vs (parts ds i)) (hx : x = piece ds i) (h1 : @Ne Nat I wl) (h2 : ∀ p ∈ rest, @Ne Nat I p.1) :
    TurnJ h₀ env.locals (LexJ m₀ wl rest ds (i + 1)) I oI s Q .next { s with heap := h', toks := tk } := by
  refine .next (m' := _) (news' := _) F N (fun p hp => ?_) ⟨v, vs ++ [Value.str x t, Value.str (white (i : Int)) u], n, rfl, by simp, ?_⟩
  · rcases List.mem_cons.mp hp with rfl | hp
    · exact Ne.symm h1
    · exact Ne.symm (h2 p hp)
  · rw [hx]; exact hs.append' (.cons _ _ (.cons _ _ .nil))
end
theorem item_words {prog : Program} {A : Around} {E : Value → Shared → Prop} {s : Shared} {value slice : PySem.Expr} {l : Addr} {dress d0 d1 d2 d3 d4 : Int} {t0 t1 t2 t3 t4 : Tok} {i : Nat} {u : Tok} {Q : Value → Shared → Prop}
    (hl : s.heap.IsList l (List.toArray [.str (word dress 0 d0) t0, .str (word dress 1 d1) t1, .str (word dress 2 d2) t2, .str (word dress 3 d3) t3, .str (word dress 4 d4) t4])) (hi : i < 5)
    (h : ∀ t, Short (word dress (i : Int) (([d0, d1, d2, d3, d4] : List Int).getD i 0)) 30 → Q (.str (word dress (i : Int) (([d0, d1, d2, d3, d4] : List Int).getD i 0)) t) s)
    (hs : subscripted slice false (.ref l) (.int i u) = operate [.ref l, .int i u] (getItem (.ref l) (.int i u))) :
    wpAny (model prog w) A (subscriptTail value slice (.ref l) (.int (i : Int) u)) Q E s := by
  revert i
  refine @(at5 ?_ ?_ ?_ ?_ ?_) <;> exact fun h hs => item_litK hl (by decide) (by decide) (by rfl) (h _ (word_short (by decide) (by decide))) hs
theorem item_intsN {prog : Program} {A : Around} {E : Value → Shared → Prop} {s : Shared} {value slice : PySem.Expr} {l : Addr} {vs : List Value} {ns : List Int} {i : Nat} {u : Tok} {Q : Value → Shared → Prop} (hl : s.heap.IsList l vs.toArray) (hi : IntsAre vs ns) (h1 : i < ns.length) (h63 : i < 64)
    (h : ∀ t, Q (.int (ns.getD i 0) t) s)
    (hs : subscripted slice false (.ref l) (.int i u) = operate [.ref l, .int i u] (getItem (.ref l) (.int i u))) :
    wpAny (model prog w) A (subscriptTail value slice (.ref l) (.int (i : Int) u)) Q E s :=
  item_ints hl hi (Int.natCast_nonneg i) (by omega) (by omega) (fun t => h t) hs
theorem quote_short : Short (Str.ofString "\"") 1 := by unfold Short; decide +kernel
theorem white_length (i : Int) : (white i).length = 1 := rfl
theorem piece_short {ds : List Int} {i : Nat} (h : i < 5) : Short (piece ds i) 32 := by
  unfold piece
  split
  · exact Short.app (Short.app quote_short (word_short (by omega) (by omega))) quote_short
  · exact Nat.le_trans (word_short (by omega) (by omega)) (by decide)
theorem parts_weight {ds : List Int} : ∀ i, i ≤ 5 → ((parts ds i).map (·.length)).sum ≤ 33 * i
  | 0, _ => Nat.le_refl _
  | i + 1, h => by
    show ((parts ds i ++ [piece ds i, white (i : Int)]).map _).sum ≤ _
    rw [List.map_append, List.sum_append]
    have h1 := parts_weight (ds := ds) i (by omega)
    have h2 : (piece ds i).length ≤ 32 := piece_short (by omega)
    have h3 := white_length (i : Int)
    simp only [List.map_cons, List.map_nil, List.sum_cons, List.sum_nil, h3]
    omega
theorem piece_quoted {ds : List Int} {i : Nat} (h : ((ds.getD i 0).fdiv 75).fmod 2 = 1) : Str.ofString "\"" ++ word 2 (i : Int) (ds.getD i 0) ++ Str.ofString "\"" = piece ds i := (if_pos h).symm
theorem piece_bare {ds : List Int} {i : Nat} (h : ((ds.getD i 0).fdiv 75).fmod 2 ≠ 1) : word 1 (i : Int) (ds.getD i 0) = piece ds i := (if_neg h).symm
noncomputable def text (ds : List Int) : Str := Txt.join (Str.ofString "") (parts ds 5)
theorem text_join {ds : List Int} : text ds = Str.join (Str.ofString "") (parts ds 5) := StrLaws.glued_eq_join _ _
theorem text_length {ds : List Int} : (text ds).length ≤ 165 := by
  rw [text_join]
  have h1 := StrLaws.join_length_le (Str.ofString "") (parts ds 5)
  have h2 := parts_weight (ds := ds) 5 (Nat.le_refl _)
  have h3 : (Str.ofString "").length = 0 := rfl
  rw [h3] at h1
  omega
section
variable {prog : Program} {A : Around} {E : Value → Shared → Prop} {s : Shared} {h₀ : Heap} {L : Addr} {m : Str → Option Value} {news : List (Addr × Obj)}
theorem join_text {D : Addr} {vs : List Value} {ds : List Int} {t : Tok} {Q : Value → Shared → Prop} (hl : s.heap.IsList D vs.toArray) (hi : StrsAre vs (parts ds 5))
    (h : ∀ t' k, Q (.str (text ds) t') { s with toks := k }) : wpAny (model prog w) A (call (.builtin "str.join") [.str (Str.ofString "") t, .ref D]) Q E s :=
  join_listW hl (by simpa using hi) (by decide) (by have := parts_weight (ds := ds) 5 (Nat.le_refl _); rw [parts_length]; omega) h
theorem list_chars {x : Str} {t : Tok} {Q : Value → Shared → Prop} (hh : A.handled = none) (F : Fr h₀ L s.heap m) (N : News h₀ L s.heap news) (hx : x.length ≤ 1000)
    (h : ∀ D ys n h' tk, StrsAre ys (signs x) → Fr h₀ L h' m → News h₀ L h' ((D, PySem.W.listOf (List.toArray ys) n) :: news) → (∀ p ∈ news, p.1 < D) → Q (.ref D) { s with heap := h', toks := tk }) :
    wpAny (model prog w) A (call (.type "list") [.str x t]) Q E s := by
  refine call_list_str hh x t (hn := by rw [sizeLine_eq]; exact Nat.le_trans hx (by decide)) fun h' tk acc' c' hk hS' hacc => ?_
  refine h _ acc'.toList c' h' tk ?_ (F.keeps hk) (fun p hp => ?_) (fun p hp => Heap.lt_size (N p hp).1)
  · refine StrsAre.ofCarried (carriedAll_of_get _ _ (by simp [hacc.1, signs]) fun j v hv => ?_)
    obtain ⟨c, u, hc, rfl⟩ := hacc.2 j v (by simpa using hv)
    exact ⟨.str ⟨#[c]⟩, by simp [signs, hc], .str _ _⟩
  · rcases List.mem_cons.mp hp with rfl | hp
    · exact ⟨by simpa using hS', Ne.symm (Nat.ne_of_lt F.ns.lt), next_is_new F⟩
    · exact ⟨hk _ _ (N p hp).1, (N p hp).2⟩
end

noncomputable abbrev lexD (w : World) (a1 a2 a3 a4 a5 a6 : Tok) (ln : Int) (ins pbv : Value) : List DictEntry :=
  [{ hash := PyData.keyHash w.params (Str.ofString "lineno"), key := .str (Str.ofString "lineno") a1, val := .int ln a2 }, { hash := PyData.keyHash w.params (Str.ofString "instream"), key := .str (Str.ofString "instream") a3, val := ins },
    { hash := PyData.keyHash w.params (Str.ofString "whitespace"), key := .str (Str.ofString "whitespace") a4, val := .str (Str.ofString "\n\t\r ") a5 }, { hash := PyData.keyHash w.params (Str.ofString "pushback"), key := .str (Str.ofString "pushback") a6, val := pbv }]
noncomputable abbrev strD (w : World) (a1 a2 a3 a4 a5 a6 a7 : Tok) (ln : Int) (ins pbv rd : Value) : List DictEntry :=
  [{ hash := PyData.keyHash w.params (Str.ofString "lineno"), key := .str (Str.ofString "lineno") a1, val := .int ln a2 }, { hash := PyData.keyHash w.params (Str.ofString "instream"), key := .str (Str.ofString "instream") a3, val := ins },
    { hash := PyData.keyHash w.params (Str.ofString "whitespace"), key := .str (Str.ofString "whitespace") a4, val := .str (Str.ofString "\n\t\r ") a5 }, { hash := PyData.keyHash w.params (Str.ofString "pushback"), key := .str (Str.ofString "pushback") a6, val := pbv },
    { hash := PyData.keyHash w.params (Str.ofString "read"), key := .str (Str.ofString "read") a7, val := rd }]
noncomputable def Take (w : World) (f : Addr) (fd : FuncData) (c : Addr) (oc : Obj) (cell : Addr) (co : Obj) (left : Addr) : Prop :=
  ∀ (mg mb : Str → Option Value) (mean : ExcName → Option Value) (loose : List Str) (dp un : Nat) (gd : Option (List Code)) (cn : Str) (cs : Scope) (a : Addr) (ccd : Value) (cl : List (Str × Addr)) (outer : List Env) (A₀ : Around) (base h₀ : Heap) (L : Addr) (m : Str → Option Value) (s : Shared) (Q E : Value → Shared → Prop) (ys : List Value) (n : Nat) (news : List (Addr × Obj)) (t : Tok),
    Below A₀ base outer h₀ → Fr h₀ L s.heap m → (hd.heap_1 w.params).In h₀ → News h₀ L s.heap ((left, PySem.W.listOf (List.toArray ys) n) :: news) → Top topProg loose mean mg mb h₀ → cs.kind = .function → dp ≤ 330 → un ≤ 200 →
    (f, { cls := .type "function", data := .func fd }) ∈ news → (c, oc) ∈ news → (cell, co) ∈ news → (∀ p ∈ news, p.1 ≠ left) → ys.length ≤ 1000 →
    (∀ y r n' h' tk', ys = y :: r → Fr h₀ L h' m → News h₀ L h' ((left, PySem.W.listOf (List.toArray r) n') :: news) → Q y { s with heap := h', toks := tk' }) →
    (∀ t' h' tk', ys = [] → Fr h₀ L h' m → News h₀ L h' ((left, PySem.W.listOf (List.toArray []) n) :: news) → Q (.str (Str.ofString "") t') { s with heap := h', toks := tk' }) →
    wpAny (model PySem.Challenge.rw_xo0026_01.row.prog w) (ktrTop dp un gd cn cs L a ccd cl outer) (call (.ref f) [.int 1 t]) Q E s
theorem lex_shape {h₀ h : Heap} {L : Addr} {e1 e2 e3 e4 e5 e6 e7 e8 e9 : Addr × Obj} {rest : List (Addr × Obj)} (N : News h₀ L h (e1 :: e2 :: e3 :: e4 :: e5 :: e6 :: e7 :: e8 :: e9 :: rest)) : News h₀ L h (e1 :: e3 :: e9 :: e2 :: e4 :: e5 :: e6 :: e7 :: e8 :: rest) := fun p hp => N p (by revert p; k_extra "subl")
theorem lt_224 {d : Nat} {news : List (Addr × Obj)} (h : @LT.lt Nat _ 224 d ∧ AllLt d news) : AllLt d news := h.2
theorem pop0 {prog : Program} {A : Around} {E : Value → Shared → Prop} {s : Shared} {h₀ : Heap} {L D : Addr} {m : Str → Option Value} {news : List (Addr × Obj)} {y : Value} {r : List Value} {n : Nat} {u : Tok} {Q : Value → Shared → Prop}
    (F : Fr h₀ L s.heap m) (N : News h₀ L s.heap ((D, PySem.W.listOf (List.toArray (y :: r)) n) :: news)) (off : ∀ p ∈ news, p.1 ≠ D) (hz : r.length ≤ 1000)
    (h : ∀ h', Fr h₀ L h' m → News h₀ L h' ((D, PySem.W.listOf (List.toArray r) (n + 1)) :: news) → Q y { s with heap := h' }) : wpAny (model prog w) A (call (.builtin "list.pop") [.ref D, .int 0 u]) Q E s := by
  refine kl_popAt (k := 0) (p := []) (q := r) F N rfl ?_ rfl (.head off) ?_ h
  · unfold seqIndex?
    rw [if_pos]
    · rfl
    · simp
  · simp only [List.length_cons, sizeLine_eq]
    omega
theorem free_name {M : Model} {A : Around} {E : Value → Shared → Prop} {s : Shared} {h₀ : Heap} {L a c : Addr} {cn : Str} {cs : Scope} {ccd v : Value} {cl : List (Str × Addr)} {x : Str} {pos : Pos} {Q : Value → Shared → Prop} {news : List (Addr × Obj)} {o : Obj}
    (N : News h₀ L s.heap news) (hm : (c, o) ∈ news) (hd : o.data = .cell (some v)) (hc : cl.lookup x = some c) (h : Q v s) (hk : cs.kind = .function) (hx : (envX cn cs L a ccd cl).kindOf x = some .free) (hb : (x == ("__debug__" : Str)) = false) (hn : (x == ("__classdict__" : Str)) = false) :
    wpAny M A (eval (.Name x pos) (envX cn cs L a ccd cl)) Q E s := nameX_F N hc hm hd h hk hx hb hn
noncomputable def newOf (news FIX : List (Addr × Obj)) : List (Addr × Obj) := FIX.filter fun p => news.all fun q => decide (q.1 ≠ p.1)
theorem newOf_mem {news FIX : List (Addr × Obj)} {p : Addr × Obj} (h : p ∈ FIX) (hn : ∀ q ∈ news, q.1 ≠ p.1) : p ∈ newOf news FIX := List.mem_filter.mpr ⟨h, List.all_eq_true.mpr fun q hq => decide_eq_true (hn q hq)⟩
theorem newOf_off {news FIX : List (Addr × Obj)} : ∀ p ∈ newOf news FIX, ∀ q ∈ news, q.1 ≠ p.1 := fun _ hp q hq => of_decide_eq_true (List.all_eq_true.mp (List.mem_filter.mp hp).2 q hq)
theorem newOf_all {news FIX : List (Addr × Obj)} {P : Addr × Obj → Prop} (h : ∀ p ∈ FIX, P p) (sub : ∀ p ∈ news, p ∈ FIX) : ∀ p ∈ newOf news FIX ++ news, P p := fun p hp => by
  rcases List.mem_append.mp hp with hp | hp
  · exact h p (List.mem_filter.mp hp).1
  · exact h p (sub p hp)
theorem News.newer {h₀ h : Heap} {L : Addr} {e1 e2 e3 : Addr × Obj} {news FIX : List (Addr × Obj)} (N : News h₀ L h (e1 :: e2 :: e3 :: FIX)) (sub : ∀ p ∈ news, p ∈ FIX) : News h₀ L h (e1 :: e2 :: e3 :: (newOf news FIX ++ news)) := fun p hp => N p (by
  simp only [List.mem_cons, List.mem_append] at hp ⊢
  rcases hp with h | h | h | h | h
  · exact .inl h
  · exact .inr (.inl h)
  · exact .inr (.inr (.inl h))
  · exact .inr (.inr (.inr (List.mem_filter.mp h).1))
  · exact .inr (.inr (.inr (sub p h))))
section
variable {mg mb : Str → Option Value} {mean : ExcName → Option Value} {loose : List Str} {dp un : Nat} {gd : Option (List Code)} {cn : Str} {cs : Scope} {a : Addr} {ccd : Value} {cl : List (Str × Addr)} {outer : List Env} {A₀ : Around} {base h₀ : Heap} {L : Addr} {m : Str → Option Value} {s : Shared} {Q E : Value → Shared → Prop}
theorem off_lexer_1 : True := by
  w_top off
  k_with_none
  k_with "subl" => ((repeat' (first | refine List.forall_mem_cons.mpr ⟨by (repeat (first | exact List.Mem.head _ | refine List.Mem.tail _ ?_ | refine List.mem_append_right _ ?_)), ?_⟩ | refine List.forall_mem_append.mpr ⟨?_, ?_⟩)); all_goals (intro _ hpw219; (repeat (first | exact hpw219 | refine List.Mem.tail _ ?_ | exact List.mem_append_left _ hpw219 | refine List.mem_append_right _ ?_))))
  k_with "pk" => (with_reducible first | exact pk1 ‹_› | exact pk2 ‹_› | exact pk3 ‹_› | exact pk4 ‹_› | exact pk5 ‹_› | exact pk6 ‹_› | exact pk7 ‹_› | exact pk8 ‹_› | exact pk9 ‹_› | exact pk10 ‹_› | exact pk11 ‹_› | exact pk12 ‹_› | exact pk13 ‹_› | exact pk14 ‹_› | exact pl2 ‹_› | exact pl3 ‹_› | exact pl4 ‹_› | exact pl5 ‹_› | exact pl6 ‹_› | exact pl7 ‹_›)
  k_with "suc" => (with_reducible first | exact lts1 | exact lts2 | exact lts3 | exact lts4 | exact lts5 | exact lts6 | exact lts7)
  k_with "hop" => (with_reducible first | exact ‹_› | k_extra "pk" | (refine Nat.lt_trans ?_ (by first | assumption | k_extra "pk"); k_extra "hop"))
  k_with "om" => (first | (with_reducible first | ((show @Ne Nat _ _); (try dsimp only); first | exact ‹_› | exact Ne.symm ‹_› | exact Nat.ne_of_lt (by k_extra "suc") | exact Nat.ne_of_gt (by k_extra "suc") | ((fail_if_success (fail_if_success refine cj2 ‹_› ?_)); exact Nat.ne_of_gt (by k_extra "pk")) | ((fail_if_success (fail_if_success refine cj1 ‹_› ?_)); exact Nat.ne_of_lt (by k_extra "pk")) | ((fail_if_success (fail_if_success refine cj3 ‹_› ?_)); k_extra "pk") | ((fail_if_success (fail_if_success refine cj4 ‹_› ?_)); k_extra "pk") | ((fail_if_success (fail_if_success refine cj5 ‹_› ?_)); exact Ne.symm (by k_extra "pk")) | ((fail_if_success (fail_if_success refine cj6 ‹_› ?_)); exact Ne.symm (by k_extra "pk")) | exact Nat.ne_of_gt ‹_› | exact Nat.ne_of_lt ‹_› | exact Nat.ne_of_lt (up1 (by k_extra "pk")) | exact Nat.ne_of_lt (up2 (by k_extra "pk")) | exact Nat.ne_of_lt (up3 (by k_extra "pk")) | exact Nat.ne_of_lt (up4 (by k_extra "pk")) | exact Nat.ne_of_gt (by k_extra "hop") | exact Nat.ne_of_lt (by k_extra "hop")) | ((show _ ∨ _); first | exact lt5_cases ‹_› | exact i5_cases ‹_› ‹_› | exact i3_cases ‹_› ‹_›) | ((show @LT.lt Nat _ _ _); first | exact ‹_› | exact sub_step ‹_› | exact sub_step1 ‹_› | k_extra "suc" | ((fail_if_success (fail_if_success refine cj7 ‹_› ?_)); k_extra "pk")) | ((show @LE.le Nat _ _ _); (try dsimp only); first | exact (by decide) | exact Nat.le_of_lt ‹_› | exact Nat.le_of_lt (by k_extra "suc") | (refine Nat.le_trans ‹_› ?_; decide) | (refine Nat.le_trans (Nat.le_of_eq (Eq.symm ‹_›)) (Nat.le_trans ‹_› ?_); decide) | exact le_s1 (by k_extra "pk") | exact le_s1 (by k_extra "hop") | exact len2a ‹_› ‹_› | exact len2b ‹_› ‹_›) | ((show @LE.le Int _ _ _); exact neg5) | ((show @LT.lt Int _ _ _); exact Int.ofNat_lt.mpr ‹_›)))
  k_with "my_enter" => k_dflt (first | (refine' code_def ?k1w914 ?k2w914 ?k3w914 ?k4w914 ?k5w914 ?kAw914 ?kFw914 ?kKw914 ?k6w914 ?k7w914 ?k8w914 ?k9w914 ?kBw914 ?_ ?c2w914 ?c3w914 ?c4w914 ?c5w914; (case kAw914 => exact rfl); (case kFw914 => exact rfl); (case kKw914 => assumption); (case k1w914 => k_asm); (case k2w914 => k_asm); (case k3w914 => k_asm); (case k4w914 => k_asm); (case k5w914 => k_asm); (case k6w914 => k_is); (case k7w914 => k_is); (case k8w914 => k_room); (case k9w914 => first | exact BindsTo.of_eq rfl | exact binds_K (by k_in) rfl (by k_is) rfl rfl rfl); (case c5w914 => decide); (case kBw914 => exact locs rfl); (case c2w914 => exact rfl); (case c3w914 => exact rfl); (case c4w914 => exact rfl); k_whole; intro _ _ _ _ _ N'w914 B'w914 _ _; (try dsimp only); (try k_lift B'w914); (try k_fold)) | (refine' code_defC ?k1w914 ?k2w914 ?k3w914 ?k4w914 ?k5w914 ?kAw914 ?kFw914 ?kKw914 ?k6w914 ?k7w914 ?k8w914 ?k9w914 ?kBw914 ?kDw914 ?_ ?c2w914 ?c3w914 ?c4w914; (case kAw914 => exact rfl); (case kFw914 => exact rfl); (case kKw914 => assumption); (case k1w914 => k_asm); (case k2w914 => k_asm); (case k3w914 => k_asm); (case k4w914 => k_asm); (case k5w914 => k_asm); (case k6w914 => k_is); (case k7w914 => k_is); (case k8w914 => k_room); (case k9w914 => first | exact BindsTo.of_eq rfl | exact binds_K (by k_in) rfl (by k_is) rfl rfl rfl); (case kBw914 => exact rfl); (case kDw914 => decide +kernel); (case c2w914 => exact rfl); (case c3w914 => exact rfl); (case c4w914 => exact rfl); k_whole; intro _ _ _ _ _ _ _ N'w914 Y'w914 B'w914 _ _ l1w914; (try k_lt l1w914); k_cells Y'w914; (try simp only [List.cons_append, List.nil_append] at N'w914); (try dsimp only); (try k_lift B'w914); (try k_fold)))
  k_with "my_unrolled" => (k_dflt (first | (refine LCg.CompSrc.ledger (by rfl) (by k_asm) (by k_asm) (by k_mem) (by first | size_fits | exact Nat.le_of_ble_eq_true rfl) ?_; intro _; lcg_lit) | (refine LCg.CompSrc.base (by rfl) (by k_asm) (by k_asm) ‹_› (by first | size_fits | exact Nat.le_of_ble_eq_true rfl) ?_; intro _; lcg_lit) | (refine LCg.CompSrc.range (by rfl) (by k_asm) (by k_asm) ‹_› (by first | decide | rfl) (by first | rfl | decide) (by first | size_fits | exact Nat.le_of_ble_eq_true rfl) ?_; intro _; lcg_lit)))
  k_with "my_comp" => k_dflt (refine LCg.ListComp_U (F₀ := by k_asm) (by with_unfolding_all rfl) (by decide) (by rfl) (by decide) (by rfl) ?_)
  k_with "my_compA" => k_dflt (refine LCg.Assign_ListComp_U (F₀ := by k_asm) (by rfl) (by with_unfolding_all rfl) (by with_unfolding_all rfl) (by decide) (by rfl) (by decide) (by rfl) (by rfl) (by rfl) ?_)
  k_with "CompRest" => (with_unfolding_all first | (refine LCg.CompRest.succ ?_; intro _ _ _ _ _ _ _ _ _ _ hv'w186 _ hx'w186 _ _ off'w186 _; (first | lcg_open hv'w186 | (obtain ⟨_, hv9'w186⟩ := hv'w186; subst hv9'w186; (try simp only [Int.zero_add, Int.natCast_zero, Int.natCast_one, Int.reduceAdd, Nat.reduceAdd, Int.cast_ofNat_Int] at hx'w186))); (try simp only [LCg.Off3, and_true] at off'w186)) | refine LCg.CompRest.zero ?_)
  k_with "eval ListComp" => (k_here; k_extra "my_comp")
  k_with "exec Assign cons ListComp" => (k_here; k_extra "my_compA")
  k_with "call ref" => k_extra "my call"
  k_with "subscriptTail Name Name ref int" => k_extra "my item"
  k_with "binaryOp Add str str" => (k_here; (with_reducible show wpAny _ _ (binaryOp Operator.Add (Value.str _ _) (Value.str _ _)) _ _ _); (refine add_short (by with_reducible assumption) (by with_reducible assumption) ?_); intro _ _ _)
  k_with "binaryOp Add str str" => (k_here; (with_reducible show wpAny _ _ (binaryOp Operator.Add (Value.str _ _) (Value.str _ _)) _ _ _); (refine add_short (by first | with_reducible assumption | exact quote_short) (by first | with_reducible assumption | exact quote_short) ?_); intro _ _ _)
  k_with "call type:str" => (k_here; (with_reducible show wpAny _ _ (call (Value.type "str") [Value.int _ _]) _ _ _); (refine str_digit ‹_› ‹_› ?_); intro _ _ _)
  k_with "call words" => (k_here; k_dflt (refine' c_wordsO ?Bw648 ?Fw648 ?Xw648 ?Nw648 ?Tw648 ?kw648 ?h1w648 ?h2w648 ?mw648 ?r0w648 ?r3w648 ?_; (case kw648 => first | exact rfl | assumption); (case Bw648 => k_asm); (case Fw648 => k_asm); (case Xw648 => k_asm); (case Nw648 => k_asm); (case Tw648 => k_asm); (case mw648 => k_mem); (case h1w648 => exact Nat.le_of_ble_eq_true rfl); (case h2w648 => exact Nat.le_of_ble_eq_true rfl); (case r0w648 => decide); (case r3w648 => decide); k_whole; intro _ _ _ _ _ _ _ _ _ _ _ o1'w648; (try simp only [LCg.Off1, and_true] at o1'w648); (try k_sweep)))
  k_with "pyIter ref" => k_extra "my pyIter"
  k_with "lex turn" => (intro _ _ _ _ _ _ _ _ _ _ _ _ _ _ _; (try k_fold))
  k_with "lex done" => (intro _ _ _ _ _ _ _ _ _; (try k_fold))
  k_with "nat item" => (k_here; (with_reducible show wpAny _ _ (subscriptTail _ _ (Value.ref _) (Value.int (Nat.cast _) _)) _ _ _); k_dflt (refine' item_intsN ?k1w768 ?k2w768 ?k4w768 ?k5w768 ?_ ?k6w768; (case k1w768 => exact News.isList (by k_asm) (by k_mem)); (case k2w768 => l_ints); (case k4w768 => (simp only [List.length_cons, List.length_nil]; omega)); (case k5w768 => omega); (case k6w768 => with_unfolding_all rfl); k_whole; intro _))
  k_with "word item" => (k_here; (with_reducible show wpAny _ _ (subscriptTail _ _ (Value.ref _) (Value.int (Nat.cast _) _)) _ _ _); k_dflt (refine' item_words ?k1w733 ?k4w733 ?_ ?k6w733; (case k1w733 => exact News.isList (by k_asm) (by k_mem)); (case k4w733 => assumption); (case k6w733 => with_unfolding_all rfl); k_whole; intro _ _))
  k_with "join text" => (k_here; k_dflt (refine join_text (News.isList (by k_asm) (by k_mem)) ‹_› ?_; intro _ _))
  k_with "list chars" => (k_here; k_dflt (refine list_chars (by rfl) (by k_asm) (by k_asm) (Nat.le_trans text_length (by decide)) ?_; intro _ _ _ _ _ _ _ _ l1w222; (try k_lt l1w222); (try k_sweep)))
  k_with "call builtin:str.join" => k_extra "my join"
  k_with "call type:list" => k_extra "my list"
  k_with "lex white" => (k_here; k_dflt (refine lex_white ‹_› ?_; intro _))
  k_with "lex ends" => (refine' lex_turn ?Fw417 ?Nw417 ?aw417 ?bw417 ?cw417 ?dw417; (case Fw417 => k_asm); (case Nw417 => k_asm); (case aw417 => assumption); (case bw417 => first | exact piece_quoted ‹_› | exact piece_bare ‹_›); (case cw417 => assumption); (case dw417 => assumption))
  k_with "offs" => ((repeat (refine List.forall_mem_cons.mpr ⟨by (show @Ne Nat _ _; omega), ?_⟩)))
  k_with "eval Name" => k_extra "my name"
  k_with "free name" => (k_here; k_dflt (refine' free_name ?Nw424 ?mw424 ?dw424 ?cw424 ?_ ?kw424 ?xw424 ?bw424 ?nw424; (case cw424 => exact rfl); (case Nw424 => k_asm); (case mw424 => k_mem); (case dw424 => assumption); (case kw424 => exact rfl); (case xw424 => exact rfl); (case bw424 => decide); (case nw424 => decide)))
  k_with "call builtin:list.pop" => k_extra "my pop"
  k_with "pop 0" => (k_here; k_dflt (refine' pop0 ?Fw849 ?Nw849 ?ow849 ?zw849 ?_; (case Fw849 => k_asm); (case Nw849 => k_asm); (case ow849 => k_all); (case zw849 => omega)); intro _ _ _; (try k_sweep))
  k_with "truthy ref" => k_extra "my truthy"
  k_with "truthy list" => (k_here; (with_reducible show wpAny _ _ (truthy (Value.ref _)) _ _ _); k_dflt (refine' kgr_truthy ?Nw907 ?mw907 ?cw907 ?dw907 ?zw907 ?_; (case Nw907 => k_asm); (case mw907 => k_mem); (case cw907 => exact rfl); (case dw907 => exact rfl); (case zw907 => first | (simp only [List.length_cons, List.length_nil]; omega) | omega)); (try simp only [List.isEmpty_cons, List.isEmpty_nil, Bool.not_false, Bool.not_true]))
  k_with "FnAt" => k_dflt (exact FnAt.of (by k_asm) (by k_mem))
  k_with "in news" => (repeat (first | assumption | exact List.Mem.head _ | refine List.Mem.tail _ ?_))
  k_with "run mem" => (k_extra "in run"; done)
  k_with "TurnG" => k_dflt (refine TurnG.ret ?_; (try dsimp only))
  trivial
theorem c_lexer {l : Addr} {news : List (Addr × Obj)} {d0 d1 d2 d3 d4 : Int} {t0 t1 t2 t3 t4 : Tok} {n : Nat} (B : Below A₀ base outer h₀) (F : Fr h₀ L s.heap m) (X : (hd.heap_1 w.params).In h₀) (N : News h₀ L s.heap ((224, tabObj #[]) :: news)) (T : Top topProg loose mean mg mb h₀) (hk : cs.kind = .function) (h1 : dp ≤ 325) (h2 : un ≤ 150)
    (C9 : CodeHd base 228 224) (h9 : ∀ p ∈ news, p.1 ≠ 224)
    (hm : (l, PySem.W.listOf (List.toArray [.int d0 t0, .int d1 t1, .int d2 t2, .int d3 t3, .int d4 t4]) n) ∈ news)
    (ret : ∀ x dx pb left st dst f fd c oc cell co n1 n2 n3 a1 a2 a3 a4 a5 a6 b1 b2 b3 b4 b5 b6 b7 pbv ex ys h' tk', Fr h₀ L h' m →
      News h₀ L h' ((pb, PySem.W.listOf (List.toArray []) n1) :: (dx, dictOf (lexD w a1 a2 a3 a4 a5 a6 1 (.ref st) (.ref pb)) 4) :: (left, PySem.W.listOf (List.toArray ys) n2) :: (ex ++ news)) →
      StrsAre ys (signs (text [d0, d1, d2, d3, d4])) → (x, instObj 88 dx) ∈ ex → (st, instObj 88 dst) ∈ ex → (dst, dictOf (strD w b1 b2 b3 b4 b5 b6 b7 1 .none pbv (.ref f)) n3) ∈ ex →
      (f, { cls := .type "function", data := .func fd }) ∈ ex → (c, oc) ∈ ex → (cell, co) ∈ ex → Take w f fd c oc cell co left →
      (∃ ps, (224, tabObj ps) ∈ ex) → (∀ p ∈ ex, ∀ q ∈ news, q.1 ≠ p.1) →
      (∀ p ∈ ex ++ news, p.1 ≠ pb) → (∀ p ∈ ex ++ news, p.1 ≠ dx) → (∀ p ∈ ex ++ news, p.1 ≠ left) → @Ne Nat pb dx → @Ne Nat pb left → @Ne Nat dx left → Q (.ref x) { s with heap := h', toks := tk' }) :
    wpAny (model PySem.Challenge.rw_xo0026_01.row.prog w) (ktrTop dp un gd cn cs L a ccd cl outer) (call (.ref 229) [.ref l]) Q E s := by
  refine lift h1 h2 ?_
  revert X; k_fill; intro X
  refine wpAny_call ?_
  k_with "my call" => k_extra "call words"
  k_with "my pyIter" => k_dflt (refine lex_loop (ds := [d0, d1, d2, d3, d4]) (by rfl) ‹_› (by k_asm) (by k_asm) ?_ ?_; k_extra "lex turn"; rotate_left; k_extra "lex done")
  k_with "my item" => first | k_extra "word item" | k_extra "nat item"
  k_with "my join" => k_extra "join text"
  k_with "my list" => k_extra "list chars"
  k_extra "my_enter"
  k_steps
  rename News _ _ _ _ => N1
  have hA := lt_224 (by with_reducible assumption)
  rotate_left
  · k_extra "lex ends"
  · k_extra "lex ends"
  rename News _ _ _ _ => N1
  have hA := lt_224 (by with_reducible assumption)
  refine' ret _ _ _ _ _ _ _ _ _ _ _ _ _ _ _ _ _ _ _ _ _ _ _ _ _ _ _ _ _ _ _ _ _ ?q0 (News.newer (lex_shape N1) ?qs) ?q1 ?q2 ?q3 ?q4 ?q5 ?q6 ?q7 ?q8 ?q20 ?q21 ?q9 ?q10 ?q11 ?q12 ?q13 ?q14
  case q0 => assumption
  case q1 => assumption
  case qs => lcg_sub
  case q2 => exact newOf_mem (by k_mem) (ne_all hA (by omega))
  case q3 => exact newOf_mem (by k_mem) (ne_all hA (by omega))
  case q4 => exact newOf_mem (by k_mem) (ne_all hA (by omega))
  case q5 => exact newOf_mem (by k_mem) (ne_all hA (by omega))
  case q6 => exact newOf_mem (by ((iterate 5 refine List.Mem.tail _ ?_); exact List.Mem.head _)) (ne_all hA (by omega))
  case q7 => exact newOf_mem (by ((iterate 9 refine List.Mem.tail _ ?_); exact List.Mem.head _)) (ne_all hA (by omega))
  case q20 => exact ⟨_, newOf_mem (by k_extra "in news") h9⟩
  case q21 => exact newOf_off
  case q12 => omega
  case q13 => omega
  case q14 => omega
  case q9 => refine newOf_all ?_ (by lcg_sub); (k_extra "offs"); exact ne_all hA (by omega)
  case q10 => refine newOf_all ?_ (by lcg_sub); (k_extra "offs"); exact ne_all hA (by omega)
  case q11 => refine newOf_all ?_ (by lcg_sub); (k_extra "offs"); exact ne_all hA (by omega)
  rename Obj.data _ = Data.fields _ => e1
  rename (_ : Array Value)[1]? = some _ => e2
  rename Obj.data _ = Data.cell (some (Value.ref _)) => e3
  revert e1 e2 e3
  kjx_bare
  intro e1 e2 e3
  intro mg2 mb2 mean2 loose2 dp2 un2 gd2 cn2 cs2 a2 ccd2 cl2 outer2 A2 base2 hz2 L2 m2 s2 Q2 E2 ys2 n2 news2 t2 B F X T N hk h1 h2 hf hc hl off hy r1 r2
  refine lift h1 h2 ?_
  (revert X; k_fill; intro X)
  refine wpAny_call ?_
  refine' code_nest ?k1 ?k2 ?k3 ?k4 ?k5 ?kA ?kF ?kK ?k6 ?k7 ?k8 ?k9 ?kB ?_ ?c2 ?c3 ?c4 ?c5
  case kA => exact rfl
  case kF => exact rfl
  case kK => assumption
  case k1 => assumption
  case k2 => assumption
  case k3 => assumption
  case k4 => assumption
  case k5 => assumption
  case k6 => exact List.mem_cons_of_mem _ hf
  case k7 => exact codeRec_news ‹_› (List.mem_cons_of_mem _ hc) ‹_› ‹_›
  case k8 => k_room
  case k9 => exact BindsTo.of_eq rfl
  case c5 => decide
  case kB => exact locs rfl
  case c2 => exact rfl
  case c3 => exact rfl
  case c4 => exact rfl
  intro g' L' h' FG' F' N' B' X' T'
  dsimp only
  k_lift B'
  k_fold
  k_with "my name" => k_extra "free name"
  k_with "my pop" => k_extra "pop 0"
  k_with "my truthy" => k_extra "truthy list"
  rcases ys2 with _ | ⟨y, r⟩
  · k_steps
    exact r2 _ _ _ rfl ‹_› ‹_›
  · have hr' : r.length ≤ 1000 := by rw [List.length_cons] at hy; omega
    k_steps
    exact r1 _ _ _ _ _ rfl ‹_› ‹_›
end
section
variable {mg mb : Str → Option Value} {mean : ExcName → Option Value} {loose : List Str} {dp un : Nat} {gd : Option (List Code)} {cn : Str} {cs : Scope} {a : Addr} {ccd : Value} {cl : List (Str × Addr)} {outer : List Env} {A₀ : Around} {base h₀ : Heap} {L : Addr} {m : Str → Option Value} {s : Shared} {Q E : Value → Shared → Prop}
theorem off_push_1 : True := by
  w_top off
  k_with_none
  k_with "subl" => ((repeat' (first | refine List.forall_mem_cons.mpr ⟨by (repeat (first | exact List.Mem.head _ | refine List.Mem.tail _ ?_ | refine List.mem_append_right _ ?_)), ?_⟩ | refine List.forall_mem_append.mpr ⟨?_, ?_⟩)); all_goals (intro _ hpw219; (repeat (first | exact hpw219 | refine List.Mem.tail _ ?_ | exact List.mem_append_left _ hpw219 | refine List.mem_append_right _ ?_))))
  k_with "pk" => (with_reducible first | exact pk1 ‹_› | exact pk2 ‹_› | exact pk3 ‹_› | exact pk4 ‹_› | exact pk5 ‹_› | exact pk6 ‹_› | exact pk7 ‹_› | exact pk8 ‹_› | exact pk9 ‹_› | exact pk10 ‹_› | exact pk11 ‹_› | exact pk12 ‹_› | exact pk13 ‹_› | exact pk14 ‹_› | exact pl2 ‹_› | exact pl3 ‹_› | exact pl4 ‹_› | exact pl5 ‹_› | exact pl6 ‹_› | exact pl7 ‹_›)
  k_with "suc" => (with_reducible first | exact lts1 | exact lts2 | exact lts3 | exact lts4 | exact lts5 | exact lts6 | exact lts7)
  k_with "hop" => (with_reducible first | exact ‹_› | k_extra "pk" | (refine Nat.lt_trans ?_ (by first | assumption | k_extra "pk"); k_extra "hop"))
  k_with "om" => (first | (with_reducible first | ((show @Ne Nat _ _); (try dsimp only); first | exact ‹_› | exact Ne.symm ‹_› | exact Nat.ne_of_lt (by k_extra "suc") | exact Nat.ne_of_gt (by k_extra "suc") | ((fail_if_success (fail_if_success refine cj2 ‹_› ?_)); exact Nat.ne_of_gt (by k_extra "pk")) | ((fail_if_success (fail_if_success refine cj1 ‹_› ?_)); exact Nat.ne_of_lt (by k_extra "pk")) | ((fail_if_success (fail_if_success refine cj3 ‹_› ?_)); k_extra "pk") | ((fail_if_success (fail_if_success refine cj4 ‹_› ?_)); k_extra "pk") | ((fail_if_success (fail_if_success refine cj5 ‹_› ?_)); exact Ne.symm (by k_extra "pk")) | ((fail_if_success (fail_if_success refine cj6 ‹_› ?_)); exact Ne.symm (by k_extra "pk")) | exact Nat.ne_of_gt ‹_› | exact Nat.ne_of_lt ‹_›) | ((show _ ∨ _); first | exact lt5_cases ‹_› | exact i5_cases ‹_› ‹_› | exact i3_cases ‹_› ‹_›) | ((show @LT.lt Nat _ _ _); first | exact ‹_› | exact sub_step ‹_› | exact sub_step1 ‹_› | k_extra "suc" | ((fail_if_success (fail_if_success refine cj7 ‹_› ?_)); k_extra "pk")) | ((show @LE.le Nat _ _ _); (try dsimp only); first | exact (by decide) | exact Nat.le_of_lt ‹_› | exact Nat.le_of_lt (by k_extra "suc") | (refine Nat.le_trans ‹_› ?_; decide) | (refine Nat.le_trans (Nat.le_of_eq (Eq.symm ‹_›)) (Nat.le_trans ‹_› ?_); decide) | exact le_s1 (by k_extra "pk") | exact len2a ‹_› ‹_› | exact len2b ‹_› ‹_›) | ((show @LE.le Int _ _ _); exact neg5) | ((show @LT.lt Int _ _ _); exact Int.ofNat_lt.mpr ‹_›)) | lia)
  k_with "my_enter" => k_dflt (first | (refine' code_def ?k1w914 ?k2w914 ?k3w914 ?k4w914 ?k5w914 ?kAw914 ?kFw914 ?kKw914 ?k6w914 ?k7w914 ?k8w914 ?k9w914 ?kBw914 ?_ ?c2w914 ?c3w914 ?c4w914 ?c5w914; (case kAw914 => exact rfl); (case kFw914 => exact rfl); (case kKw914 => assumption); (case k1w914 => k_asm); (case k2w914 => k_asm); (case k3w914 => k_asm); (case k4w914 => k_asm); (case k5w914 => k_asm); (case k6w914 => k_is); (case k7w914 => k_is); (case k8w914 => k_room); (case k9w914 => first | exact BindsTo.of_eq rfl | exact binds_K (by k_in) rfl (by k_is) rfl rfl rfl); (case c5w914 => decide); (case kBw914 => exact locs rfl); (case c2w914 => exact rfl); (case c3w914 => exact rfl); (case c4w914 => exact rfl); k_whole; intro _ _ _ _ _ N'w914 B'w914 _ _; (try dsimp only); (try k_lift B'w914); (try k_fold)) | (refine' code_defC ?k1w914 ?k2w914 ?k3w914 ?k4w914 ?k5w914 ?kAw914 ?kFw914 ?kKw914 ?k6w914 ?k7w914 ?k8w914 ?k9w914 ?kBw914 ?kDw914 ?_ ?c2w914 ?c3w914 ?c4w914; (case kAw914 => exact rfl); (case kFw914 => exact rfl); (case kKw914 => assumption); (case k1w914 => k_asm); (case k2w914 => k_asm); (case k3w914 => k_asm); (case k4w914 => k_asm); (case k5w914 => k_asm); (case k6w914 => k_is); (case k7w914 => k_is); (case k8w914 => k_room); (case k9w914 => first | exact BindsTo.of_eq rfl | exact binds_K (by k_in) rfl (by k_is) rfl rfl rfl); (case kBw914 => exact rfl); (case kDw914 => decide +kernel); (case c2w914 => exact rfl); (case c3w914 => exact rfl); (case c4w914 => exact rfl); k_whole; intro _ _ _ _ _ _ _ N'w914 Y'w914 B'w914 _ _ l1w914; (try k_lt l1w914); k_cells Y'w914; (try simp only [List.cons_append, List.nil_append] at N'w914); (try dsimp only); (try k_lift B'w914); (try k_fold)))
  k_with "my_unrolled" => (k_dflt (first | (refine LCg.CompSrc.ledger (by rfl) (by k_asm) (by k_asm) (by k_mem) (by first | size_fits | exact Nat.le_of_ble_eq_true rfl) ?_; intro _; lcg_lit) | (refine LCg.CompSrc.base (by rfl) (by k_asm) (by k_asm) ‹_› (by first | size_fits | exact Nat.le_of_ble_eq_true rfl) ?_; intro _; lcg_lit) | (refine LCg.CompSrc.range (by rfl) (by k_asm) (by k_asm) ‹_› (by first | decide | rfl) (by first | rfl | decide) (by first | size_fits | exact Nat.le_of_ble_eq_true rfl) ?_; intro _; lcg_lit)))
  k_with "my_comp" => k_dflt (refine LCg.ListComp_U (F₀ := by k_asm) (by with_unfolding_all rfl) (by decide) (by rfl) (by decide) (by rfl) ?_)
  k_with "my_compA" => k_dflt (refine LCg.Assign_ListComp_U (F₀ := by k_asm) (by rfl) (by with_unfolding_all rfl) (by with_unfolding_all rfl) (by decide) (by rfl) (by decide) (by rfl) (by rfl) (by rfl) ?_)
  k_with "CompRest" => (with_unfolding_all first | (refine LCg.CompRest.succ ?_; intro _ _ _ _ _ _ _ _ _ _ hv'w186 _ hx'w186 _ _ off'w186 _; (first | lcg_open hv'w186 | (obtain ⟨_, hv9'w186⟩ := hv'w186; subst hv9'w186; (try simp only [Int.zero_add, Int.natCast_zero, Int.natCast_one, Int.reduceAdd, Nat.reduceAdd, Int.cast_ofNat_Int] at hx'w186))); (try simp only [LCg.Off3, and_true] at off'w186)) | refine LCg.CompRest.zero ?_)
  k_with "eval ListComp" => (k_here; k_extra "my_comp")
  k_with "exec Assign cons ListComp" => (k_here; k_extra "my_compA")
  k_with "binaryOp Add str str" => (k_here; (with_reducible show wpAny _ _ (binaryOp Operator.Add (Value.str _ _) (Value.str _ _)) _ _ _); (refine add_short (by with_reducible assumption) (by with_reducible assumption) ?_); intro _ _ _)
  k_with "binaryOp Add str str" => (k_here; (with_reducible show wpAny _ _ (binaryOp Operator.Add (Value.str _ _) (Value.str _ _)) _ _ _); (refine add_short (by first | with_reducible assumption | exact quote_short) (by first | with_reducible assumption | exact quote_short) ?_); intro _ _ _)
  k_with "call type:str" => (k_here; (with_reducible show wpAny _ _ (call (Value.type "str") [Value.int _ _]) _ _ _); (refine str_digit ‹_› ‹_› ?_); intro _ _ _)
  k_with "lex white" => (k_here; k_dflt (refine lex_white ‹_› ?_; intro _))
  k_with "FnAt" => k_dflt (exact FnAt.of (by k_asm) (by k_mem))
  k_with "run mem" => (k_extra "in run"; done)
  k_with "TurnG" => k_dflt (refine TurnG.ret ?_; (try dsimp only))
  trivial
theorem c_push {x dx pb st : Addr} {nd n : Nat} {news : List (Addr × Obj)} {vs : List Value} {y : Str} {ty a1 a2 a3 a4 a5 a6 : Tok} {ln : Int}
    (B : Below A₀ base outer h₀) (F : Fr h₀ L s.heap m) (X : (hd.heap_1 w.params).In h₀) (N : News h₀ L s.heap ((pb, PySem.W.listOf (List.toArray vs) n) :: news)) (T : Top topProg loose mean mg mb h₀) (hk : cs.kind = .function) (h1 : dp ≤ 330) (h2 : un ≤ 200)
    (hx : (x, instObj 88 dx) ∈ news) (hdx : (dx, dictOf (lexD w a1 a2 a3 a4 a5 a6 ln (.ref st) (.ref pb)) nd) ∈ news) (off : ∀ p ∈ news, p.1 ≠ pb) (hv : vs.length ≤ 1000)
    (ret : ∀ n h' tk', Fr h₀ L h' m → News h₀ L h' ((pb, PySem.W.listOf (List.toArray (vs ++ [.str y ty])) n) :: news) → Q .none { s with heap := h', toks := tk' }) :
    wpAny (model PySem.Challenge.rw_xo0026_01.row.prog w) (ktrTop dp un gd cn cs L a ccd cl outer) (call (.ref 85) [.ref x, .str y ty]) Q E s := by
  refine lift h1 h2 ?_
  revert X; k_fill; intro X
  refine wpAny_call ?_
  k_extra "my_enter"
  k_steps
  rename News _ _ _ _ => N1
  rw [List.push_toArray] at N1
  exact ret _ _ _ ‹_› N1
theorem off_push_2 : True := by
  w_top off
  k_with "call builtin:list.pop" => k_extra "my pop"
  k_with "pop 0" => (k_here; k_dflt (refine' pop0 ?Fw849 ?Nw849 ?ow849 ?zw849 ?_; (case Fw849 => k_asm); (case Nw849 => k_asm); (case ow849 => k_all); (case zw849 => omega)); intro _ _ _; (try k_sweep))
  k_with "truthy ref" => k_extra "my truthy"
  k_with "truthy list" => (k_here; (with_reducible show wpAny _ _ (truthy (Value.ref _)) _ _ _); k_dflt (refine' kgr_truthy ?Nw907 ?mw907 ?cw907 ?dw907 ?zw907 ?_; (case Nw907 => k_asm); (case mw907 => k_mem); (case cw907 => exact rfl); (case dw907 => exact rfl); (case zw907 => first | (simp only [List.length_cons, List.length_nil]; omega) | omega)); (try simp only [List.isEmpty_cons, List.isEmpty_nil, Bool.not_false, Bool.not_true]))
  trivial
theorem c_pop {x dx pb st : Addr} {nd n : Nat} {news : List (Addr × Obj)} {v : Value} {vs : List Value} {a1 a2 a3 a4 a5 a6 : Tok} {ln : Int}
    (B : Below A₀ base outer h₀) (F : Fr h₀ L s.heap m) (X : (hd.heap_1 w.params).In h₀) (N : News h₀ L s.heap ((pb, PySem.W.listOf (List.toArray (v :: vs)) n) :: news)) (T : Top topProg loose mean mg mb h₀) (hk : cs.kind = .function) (h1 : dp ≤ 330) (h2 : un ≤ 200)
    (hx : (x, instObj 88 dx) ∈ news) (hdx : (dx, dictOf (lexD w a1 a2 a3 a4 a5 a6 ln (.ref st) (.ref pb)) nd) ∈ news) (off : ∀ p ∈ news, p.1 ≠ pb) (hv : vs.length ≤ 1000)
    (ret : ∀ n h' tk', Fr h₀ L h' m → News h₀ L h' ((pb, PySem.W.listOf (List.toArray vs) n) :: news) → Q v { s with heap := h', toks := tk' }) :
    wpAny (model PySem.Challenge.rw_xo0026_01.row.prog w) (ktrTop dp un gd cn cs L a ccd cl outer) (call (.ref 78) [.ref x]) Q E s := by
  refine lift h1 h2 ?_
  revert X; k_fill; intro X
  refine wpAny_call ?_
  k_with "my truthy" => k_extra "truthy list"
  k_with "my pop" => k_extra "pop 0"
  k_extra "my_enter"
  k_steps
  exact ret _ _ _ ‹_› ‹_›
end
theorem liftC {prog : Program} {c : Code} {R : Result → Shared → Prop} {s : Shared} {dp un dp' un' : Nat} {hd : Option Value} {fr : Option (List Env)} {gd : Option (List Code)}
    (h1 : dp ≤ dp') (h2 : un ≤ un') (h : codeAny (model prog w) { handled := hd, depth := dp', frames := fr, guards := gd, units := un' } c R s) : codeAny (model prog w) { handled := hd, depth := dp, frames := fr, guards := gd, units := un } c R s :=
  fun Γ p hc hΓ => h Γ p hc ⟨hΓ.1, Nat.le_trans hΓ.2.1 h1, hΓ.2.2.1, hΓ.2.2.2.1, Nat.le_trans hΓ.2.2.2.2 h2⟩
theorem take_at {mg mb : Str → Option Value} {mean : ExcName → Option Value} {loose : List Str} {dp un : Nat} {gd : Option (List Code)} {cn : Str} {cs : Scope} {a : Addr} {ccd : Value} {cl : List (Str × Addr)} {outer : List Env} {A₀ : Around} {base h₀ : Heap} {L : Addr} {m : Str → Option Value} {s : Shared} {Q E : Value → Shared → Prop}
    {f c cell left : Addr} {fd : FuncData} {oc co : Obj} {e : Addr × Obj} {y : Value} {r : List Value} {n : Nat} {fix : List (Addr × Obj)} {t : Tok} (K : Take w f fd c oc cell co left)
    (B : Below A₀ base outer h₀) (F : Fr h₀ L s.heap m) (X : (hd.heap_1 w.params).In h₀) (N : News h₀ L s.heap (e :: (left, PySem.W.listOf (List.toArray (y :: r)) n) :: fix)) (T : Top topProg loose mean mg mb h₀) (hk : cs.kind = .function) (h1 : dp ≤ 330) (h2 : un ≤ 200)
    (hf : (f, { cls := .type "function", data := .func fd }) ∈ fix) (hc : (c, oc) ∈ fix) (hl : (cell, co) ∈ fix) (he : @Ne Nat e.1 left) (off : ∀ p ∈ fix, p.1 ≠ left) (hz : r.length ≤ 999)
    (h : ∀ n' h' tk', Fr h₀ L h' m → News h₀ L h' (e :: (left, PySem.W.listOf (List.toArray r) n') :: fix) → Q y { s with heap := h', toks := tk' }) :
    wpAny (model PySem.Challenge.rw_xo0026_01.row.prog w) (ktrTop dp un gd cn cs L a ccd cl outer) (call (.ref f) [.int 1 t]) Q E s := by
  have swap : ∀ {h : Heap} {p q : Addr × Obj} {l : List (Addr × Obj)}, News h₀ L h (p :: q :: l) → News h₀ L h (q :: p :: l) := fun N p hp => N p (by revert p; k_extra "subl")
  refine K mg mb mean loose dp un gd cn cs a ccd cl outer A₀ base h₀ L m s Q E (y :: r) n (e :: fix) t B F X (swap N) T hk h1 h2 (.tail _ hf) (.tail _ hc) (.tail _ hl) (List.forall_mem_cons.mpr ⟨he, off⟩) (by simp only [List.length_cons]; omega) ?_ ?_
  · intro y' r' n' h' tk' e1 F' N'
    cases e1
    exact h n' h' tk' F' (swap N')
  · intro t' h' tk' e1
    cases e1
theorem take_end {mg mb : Str → Option Value} {mean : ExcName → Option Value} {loose : List Str} {dp un : Nat} {gd : Option (List Code)} {cn : Str} {cs : Scope} {a : Addr} {ccd : Value} {cl : List (Str × Addr)} {outer : List Env} {A₀ : Around} {base h₀ : Heap} {L : Addr} {m : Str → Option Value} {s : Shared} {Q E : Value → Shared → Prop}
    {f c cell left : Addr} {fd : FuncData} {oc co : Obj} {e : Addr × Obj} {n : Nat} {fix : List (Addr × Obj)} {t : Tok} (K : Take w f fd c oc cell co left)
    (B : Below A₀ base outer h₀) (F : Fr h₀ L s.heap m) (X : (hd.heap_1 w.params).In h₀) (N : News h₀ L s.heap (e :: (left, PySem.W.listOf (List.toArray []) n) :: fix)) (T : Top topProg loose mean mg mb h₀) (hk : cs.kind = .function) (h1 : dp ≤ 330) (h2 : un ≤ 200)
    (hf : (f, { cls := .type "function", data := .func fd }) ∈ fix) (hc : (c, oc) ∈ fix) (hl : (cell, co) ∈ fix) (he : @Ne Nat e.1 left) (off : ∀ p ∈ fix, p.1 ≠ left)
    (h : ∀ t' h' tk', Fr h₀ L h' m → News h₀ L h' (e :: (left, PySem.W.listOf (List.toArray []) n) :: fix) → Q (.str (Str.ofString "") t') { s with heap := h', toks := tk' }) :
    wpAny (model PySem.Challenge.rw_xo0026_01.row.prog w) (ktrTop dp un gd cn cs L a ccd cl outer) (call (.ref f) [.int 1 t]) Q E s := by
  have swap : ∀ {h : Heap} {p q : Addr × Obj} {l : List (Addr × Obj)}, News h₀ L h (p :: q :: l) → News h₀ L h (q :: p :: l) := fun N p hp => N p (by revert p; k_extra "subl")
  refine K mg mb mean loose dp un gd cn cs a ccd cl outer A₀ base h₀ L m s Q E [] n (e :: fix) t B F X (swap N) T hk h1 h2 (.tail _ hf) (.tail _ hc) (.tail _ hl) (List.forall_mem_cons.mpr ⟨he, off⟩) (by simp) ?_ ?_
  · intro y' r' n' h' tk' e1
    cases e1
  · intro t' h' tk' e1 F' N'
    exact h t' h' tk' F' (swap N')
section
variable {mg mb : Str → Option Value} {mean : ExcName → Option Value} {loose : List Str} {dp un : Nat} {gd : Option (List Code)} {cn : Str} {cs : Scope} {a : Addr} {ccd : Value} {cl : List (Str × Addr)} {outer : List Env} {A₀ : Around} {base h₀ : Heap} {L : Addr} {m : Str → Option Value} {s : Shared} {Q E : Value → Shared → Prop}
theorem off_read_1 : True := by
  w_top off
  k_with "call ref" => k_extra "my call"
  k_with "call take" => (k_here; k_dflt (refine' take_at ?Kw873 ?Bw873 ?Fw873 ?Xw873 ?Nw873 ?Tw873 ?kw873 ?h1w873 ?h2w873 ?fw873 ?cw873 ?lw873 ?ew873 ?ow873 ?zw873 ?_; (case Kw873 => assumption); (case kw873 => first | exact rfl | assumption); (case Bw873 => k_asm); (case Fw873 => k_asm); (case Xw873 => k_asm); (case Nw873 => k_asm); (case Tw873 => k_asm); (case fw873 => assumption); (case cw873 => assumption); (case lw873 => assumption); (case ew873 => assumption); (case ow873 => assumption); (case zw873 => assumption); (case h1w873 => exact Nat.le_of_ble_eq_true rfl); (case h2w873 => exact Nat.le_of_ble_eq_true rfl); k_whole; intro _ _ _ _ _; (try k_sweep)))
  k_with "callWith ref" => k_extra "my callWith"
  k_with "call fn" => (k_here; k_dflt (refine' callWith_F ?k1w840 ?_; (case k1w840 => exact FnAt.of (by k_asm) (by k_mem)); k_whole))
  trivial
theorem code_read {R : Result → Shared → Prop} {x dx pb st dst left f c cell : Addr} {fd : FuncData} {oc co : Obj} {n n3 : Nat} {fix : List (Addr × Obj)} {ch : Str} {tc : Tok} {r : List Value} {a1 a2 a3 a4 a5 a6 b1 b2 b3 b4 b5 b6 b7 : Tok} {ln : Int} {pbv : Value} (K : Take w f fd c oc cell co left)
    (B : Below A₀ base outer h₀) (F : Fr h₀ L s.heap m) (X : (hd.heap_1 w.params).In h₀) (N : News h₀ L s.heap ((dx, dictOf (lexD w a1 a2 a3 a4 a5 a6 ln (.ref st) (.ref pb)) 4) :: (left, PySem.W.listOf (List.toArray (.str ch tc :: r)) n) :: fix)) (T : Top topProg loose mean mg mb h₀) (hk : cs.kind = .function) (h1 : dp ≤ 328) (h2 : un ≤ 180)
    (hx : (x, instObj 88 dx) ∈ fix) (hst : (st, instObj 88 dst) ∈ fix) (hds : (dst, dictOf (strD w b1 b2 b3 b4 b5 b6 b7 1 .none pbv (.ref f)) n3) ∈ fix) (hf : (f, { cls := .type "function", data := .func fd }) ∈ fix) (hc : (c, oc) ∈ fix) (hl : (cell, co) ∈ fix)
    (hdl : @Ne Nat dx left) (offl : ∀ p ∈ fix, p.1 ≠ left) (offd : ∀ p ∈ fix, p.1 ≠ dx) (hz : r.length ≤ 999) (hln : 0 ≤ ln ∧ ln < 1000)
    (ret : ∀ a1 a2 a3 a4 a5 a6 n h' tk' ln', ln' = (if ch = Str.ofString "\n" then ln + 1 else ln) → Fr h₀ L h' m → News h₀ L h' ((dx, dictOf (lexD w a1 a2 a3 a4 a5 a6 ln' (.ref st) (.ref pb)) 4) :: (left, PySem.W.listOf (List.toArray r) n) :: fix) → R (.ok (.ret (.str ch tc))) { s with heap := h', toks := tk' }) :
    codeAny (model PySem.Challenge.rw_xo0026_01.row.prog w) (ktrTop dp un gd cn cs L a ccd cl outer) (.call (.ref 71) ⟨[.ref x], []⟩) R s := by
  refine liftC h1 h2 ?_
  revert X; k_fill; intro X
  k_with "my call" => k_extra "call take"
  k_with "my callWith" => k_extra "call fn"
  k_extra "my_enter"
  k_steps
  · rename (ch == _) = true => hc9
    exact ret _ _ _ _ _ _ _ _ _ _ (if_pos (by simpa using hc9)).symm ‹_› ‹_›
  · rename (ch == _) = false => hc9
    exact ret _ _ _ _ _ _ _ _ _ _ (if_neg (by simpa using hc9)).symm ‹_› ‹_›
theorem c_read {x dx pb st dst left f c cell : Addr} {fd : FuncData} {oc co : Obj} {n n3 : Nat} {fix : List (Addr × Obj)} {ch : Str} {tc : Tok} {r : List Value} {a1 a2 a3 a4 a5 a6 b1 b2 b3 b4 b5 b6 b7 : Tok} {ln : Int} {pbv : Value} (K : Take w f fd c oc cell co left)
    (B : Below A₀ base outer h₀) (F : Fr h₀ L s.heap m) (X : (hd.heap_1 w.params).In h₀) (N : News h₀ L s.heap ((dx, dictOf (lexD w a1 a2 a3 a4 a5 a6 ln (.ref st) (.ref pb)) 4) :: (left, PySem.W.listOf (List.toArray (.str ch tc :: r)) n) :: fix)) (T : Top topProg loose mean mg mb h₀) (hk : cs.kind = .function) (h1 : dp ≤ 328) (h2 : un ≤ 180)
    (hx : (x, instObj 88 dx) ∈ fix) (hst : (st, instObj 88 dst) ∈ fix) (hds : (dst, dictOf (strD w b1 b2 b3 b4 b5 b6 b7 1 .none pbv (.ref f)) n3) ∈ fix) (hf : (f, { cls := .type "function", data := .func fd }) ∈ fix) (hc : (c, oc) ∈ fix) (hl : (cell, co) ∈ fix)
    (hdl : @Ne Nat dx left) (offl : ∀ p ∈ fix, p.1 ≠ left) (offd : ∀ p ∈ fix, p.1 ≠ dx) (hz : r.length ≤ 999) (hln : 0 ≤ ln ∧ ln < 1000)
    (ret : ∀ a1 a2 a3 a4 a5 a6 n h' tk' ln', ln' = (if ch = Str.ofString "\n" then ln + 1 else ln) → Fr h₀ L h' m → News h₀ L h' ((dx, dictOf (lexD w a1 a2 a3 a4 a5 a6 ln' (.ref st) (.ref pb)) 4) :: (left, PySem.W.listOf (List.toArray r) n) :: fix) → Q (.str ch tc) { s with heap := h', toks := tk' }) :
    wpAny (model PySem.Challenge.rw_xo0026_01.row.prog w) (ktrTop dp un gd cn cs L a ccd cl outer) (call (.ref 71) [.ref x]) Q E s :=
  wpAny_call (code_read K B F X N T hk h1 h2 hx hst hds hf hc hl hdl offl offd hz hln ret)
end
theorem slot_ci_next : Slot "callable_iterator" "__next__" "callable_iterator.__next__" :=
  .of (owner := "callable_iterator") (n := "__next__") (by rw [typeLookup_type, builtinLookup_eq_fast]; kernel_rfl) (by decide +kernel) (by decide +kernel) (by decide +kernel)
    (by first | exact .inl (by decide +kernel) | exact .inr (by decide +kernel)) (by rw [isSubtype_type]; kernel_rfl)
theorem entry_ci_next : entryFor table "callable_iterator.__next__" = some Builtin.«callable_iterator.__next__» := entryFor_of_tree (by kernel_rfl)
theorem slot_ci_iter : Slot "callable_iterator" "__iter__" "callable_iterator.__iter__" :=
  .of (owner := "callable_iterator") (n := "__iter__") (by rw [typeLookup_type, builtinLookup_eq_fast]; kernel_rfl) (by decide +kernel) (by decide +kernel) (by decide +kernel)
    (by first | exact .inl (by decide +kernel) | exact .inr (by decide +kernel)) (by rw [isSubtype_type]; kernel_rfl)
theorem args_ci_next (a : Value) : argsOk "callable_iterator.__next__" ⟨[a], []⟩ := by
  unfold argsOk; kernel_rfl
theorem wpAny_borrowed {M : Model} {A : Around} {E : Value → Shared → Prop} {s : Shared} {f : Value} {pos : List Value} {Q : Value → Shared → Prop}
    (hc : codeAny M A (.call f ⟨pos, []⟩) (fun r s' => match r with | .ok (.ret v) => Q v s' | .ok _ => False | .error e => E e s') s) :
    wpAny M A (callBorrowed f pos) Q E s := fun Γ p hΓ => by
  have h := hc _ p rfl (hΓ.enter (.call f ⟨pos, []⟩) none p (by intro x; cases x))
  unfold callBorrowed
  rw [Sem.wp_call]
  have e : (fun (r : Result) (s' : Shared) => Sem.wp M Γ (match r with | .ok (.ret v) => Sem.pure v | .ok _ => Sem.unsupported "internal:call-without-return-value" | .error e => Sem.raise e) (fun a _ s' => Q a s') (fun e _ s' => E e s') p s') = fun r s' => match r with | .ok (.ret v) => Q v s' | .ok _ => False | .error e => E e s' := by
    funext r s'
    cases r with
    | error e => simp [Sem.wp]
    | ok f => cases f <;> simp [Sem.wp]
  rw [← e] at h
  exact h
noncomputable abbrev ciObj (q : Addr) (t : Tok) : Obj := { cls := .type "callable_iterator", data := .fields #[.ref q, .str (Str.ofString "") t, .bool false] }
theorem borrows_method {M : Model} {A : Around} {E : Value → Shared → Prop} {s : Shared} {q f : Addr} {self : Value} {o : Obj} {fd : FuncData} {Q : Bool → Shared → Prop} (hq : s.heap.get? q = some (methodObj (.ref f) self)) (hf : s.heap.get? f = some o) (hd : o.data = .func fd) (h : Q true s) : wpAny M A (borrowsExactly (.ref q)) Q E s := by
  unfold borrowsExactly
  refine wpAny_bind (wpAny_load hq ?_)
  show wpAny _ _ (load f >>= _) _ _ _
  refine wpAny_bind (wpAny_load hf ?_)
  rw [hd]
  exact wpAny_pure h
theorem next_ci {prog : Program} {A : Around} {E : Value → Shared → Prop} {s : Shared} {I q f : Addr} {t : Tok} {self : Value} {o : Obj} {fd : FuncData} {Q : Option Value → Shared → Prop}
    (hI : s.heap.get? I = some (ciObj q t)) (hq : s.heap.get? q = some (methodObj (.ref f) self)) (hf : s.heap.get? f = some o) (hd : o.data = .func fd)
    (hc : codeAny (model prog w) A.in1 (.call (.ref f) ⟨[self], []⟩) (fun r s' => match r with | .ok (.ret v) => s'.heap.get? I = some (ciObj q t) ∧ (∃ c u, v = .str c u ∧ c ≠ Str.ofString "") ∧ Q (some v) s' | .ok _ => False | .error e => False) s) :
    wpAny (model prog w) A (pyNext (.ref I)) Q E s := by
  have hT : s.TypeIs (.ref I) "callable_iterator" := ⟨_, hI, rfl⟩
  unfold pyNext
  refine wpAny_bind (wpAny_attempt (wpAny_callSpecial?_slot (name := Str.ofString "__next__") hT slot_ci_next
    (wpAny_call_entry slot_ci_next hT entry_ci_next ?_ (args_ci_next _))))
  show wpAny _ _ (field (.ref I) 2 >>= _) _ _ s
  refine wpAny_bind (wpAny_field hI rfl (x := .bool false) rfl ?_)
  show wpAny _ _ (field (.ref I) 0 >>= _) _ _ s
  refine wpAny_bind (wpAny_field hI rfl (x := .ref q) rfl ?_)
  refine wpAny_bind (wpAny_attempt ?_)
  unfold callOutOfASlot
  refine wpAny_bind (borrows_method hq hf hd ?_)
  show wpAny _ _ (callBorrowed (.ref q) []) _ _ _
  refine wpAny_borrowed (method_call hq (codeAny_mono hc fun r s' hr => ?_))
  match r, hr with
  | .ok (.ret v), hr =>
    obtain ⟨hI', ⟨c, u, rfl, hne⟩, hQ⟩ := hr
    show wpAny _ _ (field (.ref I) 2 >>= _) _ _ s'
    refine wpAny_bind (wpAny_field hI' rfl (x := .bool false) rfl ?_)
    show wpAny _ _ (field (.ref I) 1 >>= _) _ _ s'
    refine wpAny_bind (wpAny_field hI' rfl (x := .str (Str.ofString "") t) rfl ?_)
    refine wpAny_bind (wpAny_holding (wpAny_eqBool_str ?_))
    rw [decide_eq_false (Ne.symm hne)]
    exact wpAny_bind (wpAny_pure (wpAny_pure ⟨_, rfl, wpAny_pure hQ⟩))
  | .error e, hr => exact hr.elim
theorem next_ci_end {prog : Program} {A : Around} {E : Value → Shared → Prop} {s : Shared} {I q f : Addr} {t : Tok} {self : Value} {o : Obj} {fd : FuncData} {Q : Option Value → Shared → Prop} (hh : A.handled = none)
    (hI : s.heap.get? I = some (ciObj q t)) (hq : s.heap.get? q = some (methodObj (.ref f) self)) (hf : s.heap.get? f = some o) (hd : o.data = .func fd)
    (hc : codeAny (model prog w) A.in1 (.call (.ref f) ⟨[self], []⟩) (fun r s' => match r with | .ok (.ret v) => s'.heap.get? I = some (ciObj q t) ∧ s'.heap.get? q = some (methodObj (.ref f) self) ∧ s'.heap.get? f = some o ∧ (∃ u, v = .str (Str.ofString "") u) ∧ (∀ h' tk, Heap.ExtBut I s'.heap h' → Q none { s' with heap := h', toks := tk }) | .ok _ => False | .error e => False) s) :
    wpAny (model prog w) A (pyNext (.ref I)) Q E s := by
  have hT : s.TypeIs (.ref I) "callable_iterator" := ⟨_, hI, rfl⟩
  unfold pyNext
  refine wpAny_bind (wpAny_attempt (wpAny_callSpecial?_slot (name := Str.ofString "__next__") hT slot_ci_next
    (wpAny_call_entry slot_ci_next hT entry_ci_next ?_ (args_ci_next _))))
  show wpAny _ _ (field (.ref I) 2 >>= _) _ _ s
  refine wpAny_bind (wpAny_field hI rfl (x := .bool false) rfl ?_)
  show wpAny _ _ (field (.ref I) 0 >>= _) _ _ s
  refine wpAny_bind (wpAny_field hI rfl (x := .ref q) rfl ?_)
  refine wpAny_bind (wpAny_attempt ?_)
  unfold callOutOfASlot
  refine wpAny_bind (borrows_method hq hf hd ?_)
  show wpAny _ _ (callBorrowed (.ref q) []) _ _ _
  refine wpAny_borrowed (method_call hq (codeAny_mono hc fun r s' hr => ?_))
  match r, hr with
  | .ok (.ret v), hr =>
    obtain ⟨hI', hq', hf', ⟨u, rfl⟩, hQ⟩ := hr
    show wpAny _ _ (field (.ref I) 2 >>= _) _ _ s'
    refine wpAny_bind (wpAny_field hI' rfl (x := .bool false) rfl ?_)
    show wpAny _ _ (field (.ref I) 1 >>= _) _ _ s'
    refine wpAny_bind (wpAny_field hI' rfl (x := .str (Str.ofString "") t) rfl ?_)
    refine wpAny_bind (wpAny_holding (wpAny_eqBool_str ?_))
    rw [decide_eq_true rfl]
    refine wpAny_bind (wpAny_rule ?_)
    refine wpAny_bind ?_
    show wpAny _ _ (field (.ref I) 0 >>= _) _ _ _
    refine wpAny_bind (wpAny_field hI' rfl (x := .ref q) rfl ?_)
    refine wpAny_bind ?_
    unfold slotLetsGo
    refine wpAny_bind (borrows_method hq' hf' hd ?_)
    refine wpAny_pure ?_
    refine wpAny_bind (wpAny_setField_rec hI' (by simp) fun h1 e1 b1 => ?_)
    refine wpAny_bind (wpAny_setField_rec e1 (by simp) fun h2 e2 b2 => ?_)
    refine wpAny_setField_rec e2 (by simp) fun h3 e3 b3 => ?_
    show wpAny _ _ (newExc (.type "StopIteration") [] >>= _) _ _ _
    refine wpAny_bind ?_
    simp only [newExc, newTuple]
    refine wpAny_bind (wpAny_newObj_type ?_ (by size_fits))
    refine wpAny_bind (m := firstArgMember _ _) (wpAny_of_eq (a := Value.none) (by first | rfl | (simp only [firstArgMember]; rfl)) ?_)
    refine wpAny_newObj_type ?_ (by size_fits)
    simp only [raiseNew]
    refine wpAny_bind (wpAny_handled ?_)
    first | rw [show A.in1.handled = none from hh] | rw [hh]
    refine wpAny_bind (wpAny_pure (wpAny_throw ?_))
    refine wpAny_bind (wpAny_isInstance (T := "StopIteration") (b := true) ⟨_, Heap.get?_push_size _ rfl, rfl⟩ isSubtype_stop ?_)
    refine wpAny_pure (hQ _ _ ?_)
    have hE : Heap.ExtBut I s'.heap h3 := fun b o hb e => ((b3.2 b hb).trans ((b2.2 b hb).trans (b1.2 b hb))).trans e
    exact (hE.push _).push _
  | .error e, hr => exact hr.elim
theorem look_method_call : typeLookup (.type "method") (Str.ofString "__call__") = pure (some (.builtin "method.__call__")) := by rw [typeLookup_type, builtinLookup_eq_fast]; kernel_rfl
theorem args_iter_2 (a b : Value) : argsOk "iter" ⟨[a, b], []⟩ := by unfold argsOk; kernel_rfl
theorem iter_ci {prog : Program} {A : Around} {E : Value → Shared → Prop} {s : Shared} {h₀ : Heap} {L q : Addr} {m : Str → Option Value} {news : List (Addr × Obj)} {f self : Value} {t : Tok} {Q : Value → Shared → Prop} (F : Fr h₀ L s.heap m) (N : News h₀ L s.heap news) (hq : (q, methodObj f self) ∈ news)
    (h : ∀ (I : Addr) h', Fr h₀ L h' m → News h₀ L h' ((I, ciObj q t) :: news) → (∀ p ∈ news, p.1 < I) → Q (.ref I) { s with heap := h' }) :
    wpAny (model prog w) A (call (.builtin "iter") [.ref q, .str (Str.ofString "") t]) Q E s := by
  refine PySem.Calls.call_function_entry (by decide +kernel) (by decide +kernel) kdk_entry_iter (args_iter_2 _ _) ?_
  unfold Builtin.«iter»
  refine wpAny_bind (m := someArgs "iter" 1 2 _) (wpAny_of_eq (a := [Value.ref q, Value.str (Str.ofString "") t]) (by first | rfl | kernel_rfl!) ?_)
  show wpAny _ _ (specialOf (.ref q) "__call__" >>= _) _ _ _
  refine wpAny_bind (wpAny_specialOf (T := "method") ⟨_, (N _ hq).1, rfl⟩ look_method_call ?_)
  refine wpAny_bind (wpAny_rule ?_)
  refine wpAny_bind ?_
  unfold newFields
  refine wpAny_newObj_type ?_ (by size_fits)
  exact wpAny_pure ⟨_, rfl, h _ _ (F.push _) (News.push F N _ rfl) (fun q hq => Heap.lt_size (N q hq).1)⟩
section
variable {prog : Program} {A : Around} {E : Value → Shared → Prop} {s : Shared} {env : Env} {x : Str} {body : List Stmt} {Q : Flow → Shared → Prop}
noncomputable def CiTurn (Inv : Nat → Shared → Prop) (n : Nat) (Q : Flow → Shared → Prop) (f : Flow) (s₃ : Shared) : Prop := match f with
  | .ret v => Q (.ret v) s₃
  | .brk => Q .next s₃
  | _ => ∃ m, m < n ∧ Inv m s₃
noncomputable def CiAt (prog : Program) (w : World) (A : Around) (env : Env) (x : Str) (body : List Stmt) (Q : Flow → Shared → Prop) (E : Value → Shared → Prop) (it : Value) (s₂ : Shared) : Prop :=
  ∃ (Inv : Nat → Shared → Prop) (n : Nat), Inv n s₂ ∧ ∀ n s, Inv n s → wpAny (model prog w) A (pyNext it) (fun r s₁ => match r with
    | none => Q .next s₁
    | some v => wpAny (model prog w) A (storeName env x v) (fun _ s₂ => wpAny (model prog w) A (execs body env) (CiTurn Inv n Q) E s₂) E s₁) (fun _ _ => False) s
theorem For_ci {px pos : Pos} {iter : Expr}
    (h : wpAny (model prog w) A (eval iter env) (fun xv s₁ => wpAny (model prog w) A (pyIter xv) (fun it s₂ => CiAt prog w A env x body Q E it s₂) E s₁) E s)
    (hs : ∀ x, foldedSetIterable iter env x = pure x := by intro _; rfl)
    (hE : PassesOwn (model prog w) A env E := by passes_own) :
    wpAny (model prog w) A (exec (.For (.Name x px) iter body [] pos) env) Q E s := by
  refine wpAny_For (wpAny_mono h (fun xv s₁ h₁ => wpAny_mono h₁ (fun it s₂ h₂ => ?_) fun _ _ e => e) fun _ _ e => e) hs
  obtain ⟨Inv, n, h0, turn⟩ := h₂
  refine codeAny_forLoop Inv (fun n s hI => ?_) n h0
  refine wpAny_mono (turn n s hI) (fun r s₁ hr => ?_) fun _ _ e => e.elim
  cases r with
  | none => exact wpAny_execs_nil hr
  | some v =>
    refine wpAny_passesOwn hE (wpAny_assign_Name (wpAny_mono hr (fun _ s₂ h₂ => ?_) fun _ _ e => e))
    exact wpAny_passesOwn hE (wpAny_mono h₂ (fun f s₃ h₃ => by cases f <;> exact h₃) fun _ _ e => e)
end
inductive Lex (w : World) (x dx st left : Addr) (fix : List (Addr × Obj)) : Prop
  | mk (dst : Addr) (f : Addr) (fd : FuncData) (c : Addr) (oc : Obj) (cell : Addr) (co : Obj) (n3 : Nat) (b1 : Tok) (b2 : Tok) (b3 : Tok) (b4 : Tok) (b5 : Tok) (b6 : Tok) (b7 : Tok) (pbv : Value) (zz1 : Take w f fd c oc cell co left) (zz2 : (x, instObj 88 dx) ∈ fix) (zz3 : (st, instObj 88 dst) ∈ fix) (zz4 : (dst, dictOf (strD w b1 b2 b3 b4 b5 b6 b7 1 .none pbv (.ref f)) n3) ∈ fix) (zz5 : (f, { cls := .type "function", data := .func fd }) ∈ fix) (zz6 : (c, oc) ∈ fix) (zz7 : (cell, co) ∈ fix) : Lex w x dx st left fix
theorem Lex.mono {x dx st left : Addr} {fix fix' : List (Addr × Obj)} (h : Lex w x dx st left fix) (sub : ∀ p ∈ fix, p ∈ fix') : Lex w x dx st left fix' := by
  obtain ⟨dst, f, fd, c, oc, cell, co, n3, b1, b2, b3, b4, b5, b6, b7, pbv, K, h1, h2, h3, h4, h5, h6⟩ := h
  exact ⟨dst, f, fd, c, oc, cell, co, n3, b1, b2, b3, b4, b5, b6, b7, pbv, K, sub _ h1, sub _ h2, sub _ h3, sub _ h4, sub _ h5, sub _ h6⟩
theorem Lex.inst {x dx st left : Addr} {fix : List (Addr × Obj)} (h : Lex w x dx st left fix) : (x, instObj 88 dx) ∈ fix := by
  obtain ⟨dst, f, fd, c, oc, cell, co, n3, b1, b2, b3, b4, b5, b6, b7, pbv, K, h1, h2, h3, h4, h5, h6⟩ := h
  exact h1
section
variable {mg mb : Str → Option Value} {mean : ExcName → Option Value} {loose : List Str} {dp un : Nat} {gd : Option (List Code)} {cn : Str} {cs : Scope} {a : Addr} {ccd : Value} {cl : List (Str × Addr)} {outer : List Env} {A₀ : Around} {base h₀ : Heap} {L : Addr} {m : Str → Option Value} {s : Shared} {Q E : Value → Shared → Prop}
theorem off_lex_1 : True := by
  w_top off
  k_with "call take0" => (k_here; k_dflt (refine' take_end ?Kw535 ?Bw535 ?Fw535 ?Xw535 ?Nw535 ?Tw535 ?kw535 ?h1w535 ?h2w535 ?fw535 ?cw535 ?lw535 ?ew535 ?ow535 ?_; (case Kw535 => assumption); (case kw535 => first | exact rfl | assumption); (case Bw535 => k_asm); (case Fw535 => k_asm); (case Xw535 => k_asm); (case Nw535 => k_asm); (case Tw535 => k_asm); (case fw535 => assumption); (case cw535 => assumption); (case lw535 => assumption); (case ew535 => assumption); (case ow535 => assumption); (case h1w535 => exact Nat.le_of_ble_eq_true rfl); (case h2w535 => exact Nat.le_of_ble_eq_true rfl); k_whole; intro _ _ _ _ _; (try k_sweep)))
  trivial
theorem code_read0 {R : Result → Shared → Prop} {x dx st dst left f c cell : Addr} {pv : Value} {fd : FuncData} {oc co : Obj} {n n3 : Nat} {fix : List (Addr × Obj)} {a1 a2 a3 a4 a5 a6 b1 b2 b3 b4 b5 b6 b7 : Tok} {ln : Int} {pbv : Value} (K : Take w f fd c oc cell co left)
    (B : Below A₀ base outer h₀) (F : Fr h₀ L s.heap m) (X : (hd.heap_1 w.params).In h₀) (N : News h₀ L s.heap ((dx, dictOf (lexD w a1 a2 a3 a4 a5 a6 ln (.ref st) pv) 4) :: (left, PySem.W.listOf (List.toArray []) n) :: fix)) (T : Top topProg loose mean mg mb h₀) (hk : cs.kind = .function) (h1 : dp ≤ 328) (h2 : un ≤ 180)
    (hx : (x, instObj 88 dx) ∈ fix) (hst : (st, instObj 88 dst) ∈ fix) (hds : (dst, dictOf (strD w b1 b2 b3 b4 b5 b6 b7 1 .none pbv (.ref f)) n3) ∈ fix) (hf : (f, { cls := .type "function", data := .func fd }) ∈ fix) (hc : (c, oc) ∈ fix) (hl : (cell, co) ∈ fix)
    (hdl : @Ne Nat dx left) (offl : ∀ p ∈ fix, p.1 ≠ left) (offd : ∀ p ∈ fix, p.1 ≠ dx)
    (ret : ∀ t h' tk', Fr h₀ L h' m → News h₀ L h' ((dx, dictOf (lexD w a1 a2 a3 a4 a5 a6 ln (.ref st) pv) 4) :: (left, PySem.W.listOf (List.toArray []) n) :: fix) → R (.ok (.ret (.str (Str.ofString "") t))) { s with heap := h', toks := tk' }) :
    codeAny (model PySem.Challenge.rw_xo0026_01.row.prog w) (ktrTop dp un gd cn cs L a ccd cl outer) (.call (.ref 71) ⟨[.ref x], []⟩) R s := by
  refine liftC h1 h2 ?_
  revert X; k_fill; intro X
  k_with "my call" => k_extra "call take0"
  k_with "my callWith" => k_extra "call fn"
  k_extra "my_enter"
  k_steps
  exact ret _ _ _ ‹_› ‹_›
theorem lex_read {R : Result → Shared → Prop} {x dx pb st left : Addr} {n : Nat} {fix : List (Addr × Obj)} {cs' : List Str} {ys : List Value} {a1 a2 a3 a4 a5 a6 : Tok} {ln : Int} (H : Lex w x dx st left fix)
    (B : Below A₀ base outer h₀) (F : Fr h₀ L s.heap m) (X : (hd.heap_1 w.params).In h₀) (N : News h₀ L s.heap ((dx, dictOf (lexD w a1 a2 a3 a4 a5 a6 ln (.ref st) (.ref pb)) 4) :: (left, PySem.W.listOf (List.toArray ys) n) :: fix)) (T : Top topProg loose mean mg mb h₀) (hk : cs.kind = .function) (h1 : dp ≤ 328) (h2 : un ≤ 180)
    (hdl : @Ne Nat dx left) (offl : ∀ p ∈ fix, p.1 ≠ left) (offd : ∀ p ∈ fix, p.1 ≠ dx) (hy : StrsAre ys cs') (hz : cs'.length ≤ 900) (hln : 0 ≤ ln ∧ ln < 1000)
    (ret : ∀ a1 a2 a3 a4 a5 a6 n h' tk' ln' ch tc ys' r, cs' = ch :: r → StrsAre ys' r → ln' = (if ch = Str.ofString "\n" then ln + 1 else ln) → Fr h₀ L h' m → News h₀ L h' ((dx, dictOf (lexD w a1 a2 a3 a4 a5 a6 ln' (.ref st) (.ref pb)) 4) :: (left, PySem.W.listOf (List.toArray ys') n) :: fix) → R (.ok (.ret (.str ch tc))) { s with heap := h', toks := tk' })
    (fin : ∀ t h' tk', cs' = [] → Fr h₀ L h' m → News h₀ L h' ((dx, dictOf (lexD w a1 a2 a3 a4 a5 a6 ln (.ref st) (.ref pb)) 4) :: (left, PySem.W.listOf (List.toArray []) n) :: fix) → R (.ok (.ret (.str (Str.ofString "") t))) { s with heap := h', toks := tk' }) :
    codeAny (model PySem.Challenge.rw_xo0026_01.row.prog w) (ktrTop dp un gd cn cs L a ccd cl outer) (.call (.ref 71) ⟨[.ref x], []⟩) R s := by
  obtain ⟨dst, f, fd, c, oc, cell, co, n3, b1, b2, b3, b4, b5, b6, b7, pbv, K, g1, g2, g3, g4, g5, g6⟩ := H
  cases hy with
  | nil => exact code_read0 K B F X N T hk h1 h2 g1 g2 g3 g4 g5 g6 hdl offl offd fun t h' tk' F' N' => fin t h' tk' rfl F' N'
  | cons ch tc hr =>
    refine code_read K B F X N T hk h1 h2 g1 g2 g3 g4 g5 g6 hdl offl offd ?_ hln fun a1 a2 a3 a4 a5 a6 n h' tk' ln' e F' N' => ret a1 a2 a3 a4 a5 a6 n h' tk' ln' ch tc _ _ rfl hr e F' N'
    have := hr.len_eq
    simp only [List.length_cons] at hz
    omega
end
theorem entry_ci_iter : entryFor table "callable_iterator.__iter__" = some Builtin.«dict_keyiterator.__iter__» :=
  entryFor_alias (id' := "dict_keyiterator.__iter__") (by kernel_rfl) rfl (by decide +kernel) (by kernel_rfl)
theorem args_ci_iter (a : Value) : argsOk "callable_iterator.__iter__" ⟨[a], []⟩ := by unfold argsOk; kernel_rfl
noncomputable def nl : List Str → Int
  | [] => 0
  | c :: r => (if c = Str.ofString "\n" then 1 else 0) + nl r
theorem nl_cons {c : Str} {r : List Str} : nl (c :: r) = (if c = Str.ofString "\n" then 1 else 0) + nl r := rfl
theorem nl_nonneg : ∀ r, 0 ≤ nl r
  | [] => Int.le_refl _
  | c :: r => by
    have := nl_nonneg r
    unfold nl; split <;> omega
inductive CiInv (w : World) (G : Str → List Str → Prop) (h₀ : Heap) (L dx st pb left I q : Addr) (ti : Tok) (fx : List (Addr × Obj)) (m : Str → Option Value) (s : Shared) (K : Int) (n : Nat) : Shared → Prop
  | mk (h : Heap) (tk : Nat) (acc : Str) (ta : Tok) (cs : List Str) (ys : List Value) (ln : Int) (n2 : Nat) (a1 a2 a3 a4 a5 a6 : Tok) (m' : Str → Option Value) (F : Fr h₀ L h m') (h1 : m' "token" = some (.str acc ta)) (h2 : ∀ y : Str, y ≠ "ch" → y ≠ "token" → m' y = m y)
    (N : News h₀ L h ((dx, dictOf (lexD w a1 a2 a3 a4 a5 a6 ln (.ref st) (.ref pb)) 4) :: (left, PySem.W.listOf (List.toArray ys) n2) :: (I, ciObj q ti) :: fx)) (hy : StrsAre ys cs) (hn : n = cs.length) (hG : G acc cs) (hK : ln + nl cs = K) (h0 : 0 ≤ ln) (hl : acc.length + cs.length ≤ 300) (ha : ∀ c ∈ cs, c.length = 1) :
    CiInv w G h₀ L dx st pb left I q ti fx m s K n { s with heap := h, toks := tk }
theorem CiTurn.ret {Inv : Nat → Shared → Prop} {n : Nat} {Q : Flow → Shared → Prop} {v : Value} {s : Shared} (h : Q (.ret v) s) : CiTurn Inv n Q (.ret v) s := h
section
variable {mg mb : Str → Option Value} {mean : ExcName → Option Value} {loose : List Str} {dp un : Nat} {gd : Option (List Code)} {cn : Str} {cs : Scope} {a : Addr} {ccd : Value} {cl : List (Str × Addr)} {outer : List Env} {A₀ : Around} {base h₀ : Heap} {L : Addr} {m : Str → Option Value} {s : Shared}
theorem ci_next {G : Str → List Str → Prop} {dx pb st left I q : Addr} {ti : Tok} {fx : List (Addr × Obj)} {K : Int} {n n2 tk : Nat} {Q : Flow → Shared → Prop} {h : Heap} {acc : Str} {ta : Tok} {cs : List Str} {ys : List Value} {ln : Int} {a1 a2 a3 a4 a5 a6 : Tok} {m' : Str → Option Value} {f : Flow} (hf : f = .next ∨ f = .cont)
    (F : Fr h₀ L h m') (h1 : m' "token" = some (.str acc ta)) (h2 : ∀ y : Str, y ≠ "ch" → y ≠ "token" → m' y = m y)
    (N : News h₀ L h ((dx, dictOf (lexD w a1 a2 a3 a4 a5 a6 ln (.ref st) (.ref pb)) 4) :: (left, PySem.W.listOf (List.toArray ys) n2) :: (I, ciObj q ti) :: fx)) (hy : StrsAre ys cs) (hn : cs.length < n) (hG : G acc cs) (hK : ln + nl cs = K) (h0 : 0 ≤ ln) (hl : acc.length + cs.length ≤ 300) (ha : ∀ c ∈ cs, c.length = 1) :
    CiTurn (CiInv w G h₀ L dx st pb left I q ti fx m s K) n Q f { s with heap := h, toks := tk } := by
  have : ∃ j, j < n ∧ CiInv w G h₀ L dx st pb left I q ti fx m s K j { s with heap := h, toks := tk } := ⟨cs.length, hn, .mk h tk acc ta cs ys ln n2 a1 a2 a3 a4 a5 a6 m' F h1 h2 N hy rfl hG hK h0 hl ha⟩
  rcases hf with rfl | rfl
  · exact this
  · exact this
theorem ci_loop {G : Str → List Str → Prop} {x dx pb st left I q : Addr} {ti : Tok} {fx : List (Addr × Obj)} {K : Int} {n2 : Nat} {body : List Stmt} {Q : Flow → Shared → Prop} {E : Value → Shared → Prop} {acc : Str} {ta : Tok} {cs' : List Str} {ys : List Value} {ln : Int} {a1 a2 a3 a4 a5 a6 : Tok}
    (H : Lex w x dx st left fx) (hq : (q, methodObj (.ref 71) (.ref x)) ∈ fx)
    (B : Below A₀ base outer h₀) (F : Fr h₀ L s.heap m) (X : (hd.heap_1 w.params).In h₀) (N : News h₀ L s.heap ((dx, dictOf (lexD w a1 a2 a3 a4 a5 a6 ln (.ref st) (.ref pb)) 4) :: (left, PySem.W.listOf (List.toArray ys) n2) :: (I, ciObj q ti) :: fx)) (T : Top topProg loose mean mg mb h₀) (hk : cs.kind = .function) (h1 : dp ≤ 328) (h2 : un ≤ 179)
    (hdl : @Ne Nat dx left) (hdI : @Ne Nat I dx) (hlI : @Ne Nat I left) (offl : ∀ p ∈ fx, p.1 ≠ left) (offd : ∀ p ∈ fx, p.1 ≠ dx) (offI : ∀ p ∈ fx, p.1 ≠ I)
    (hch : (envX cn cs L a ccd cl).kindOf "ch" = some .local) (htok : m "token" = some (.str acc ta)) (hy : StrsAre ys cs') (hG : G acc cs') (hK : ln + nl cs' = K) (h0 : 0 ≤ ln) (hK9 : K ≤ 900) (hl : acc.length + cs'.length ≤ 300) (ha : ∀ c ∈ cs', c.length = 1)
    (turn : ∀ c r acc tc ta a1 a2 a3 a4 a5 a6 ln n2 ys h tk, G acc (c :: r) → StrsAre ys r → Short acc 300 → Short c 300 → c.length = 1 → (0 ≤ ln ∧ ln < 1000) → ln + nl r = K → acc.length + (r.length + 1) ≤ 300 → r.length ≤ 900 → (∀ c ∈ r, c.length = 1) →
      Fr h₀ L h (fun y => if y = "ch" then some (.str c tc) else if y = "token" then some (.str acc ta) else m y) → News h₀ L h ((dx, dictOf (lexD w a1 a2 a3 a4 a5 a6 ln (.ref st) (.ref pb)) 4) :: (left, PySem.W.listOf (List.toArray ys) n2) :: (I, ciObj q ti) :: fx) →
      wpAny (model PySem.Challenge.rw_xo0026_01.row.prog w) (ktrTop dp un gd cn cs L a ccd cl outer) (execs body (envX cn cs L a ccd cl)) (CiTurn (CiInv w G h₀ L dx st pb left I q ti fx m s K) (r.length + 1) Q) E { s with heap := h, toks := tk })
    (done : ∀ acc ta a1 a2 a3 a4 a5 a6 ln n2 h tk (m' : Str → Option Value), G acc [] → (ln = K ∧ 0 ≤ ln) → Fr h₀ L h (fun y : Str => if y = "token" then some (.str acc ta) else m' y) → News h₀ L h ((dx, dictOf (lexD w a1 a2 a3 a4 a5 a6 ln (.ref st) (.ref pb)) 4) :: (left, PySem.W.listOf (List.toArray []) n2) :: fx) → Q .next { s with heap := h, toks := tk }) :
    wpAny (model PySem.Challenge.rw_xo0026_01.row.prog w) (ktrTop dp un gd cn cs L a ccd cl outer) (pyIter (.ref I)) (fun it s₂ => CiAt PySem.Challenge.rw_xo0026_01.row.prog w (ktrTop dp un gd cn cs L a ccd cl outer) (envX cn cs L a ccd cl) "ch" body Q E it s₂) E s := by
  have hT : s.TypeIs (.ref I) "callable_iterator" := ⟨_, (N (I, ciObj q ti) (.tail _ (.tail _ (.head _)))).1, rfl⟩
  refine wpAny_pyIter_slot hT slot_ci_iter (wpAny_call_entry slot_ci_iter hT entry_ci_iter ?_ (args_ci_iter _))
  show wpAny _ _ (ret (.ref I)) _ _ s
  refine wpAny_pure ⟨_, rfl, "callable_iterator", _, hT, slot_ci_next.lookup, ?_⟩
  refine ⟨CiInv w G h₀ L dx st pb left I q ti fx m s K, cs'.length, .mk s.heap s.toks acc ta cs' ys ln n2 a1 a2 a3 a4 a5 a6 m F htok (fun _ _ _ => rfl) N hy rfl hG hK h0 hl ha, ?_⟩
  clear hy hG hK h0 hl ha htok F N hT
  intro n s' hC
  k_fold
  obtain ⟨h, tk, acc, ta, cs', ys, ln, n2, a1, a2, a3, a4, a5, a6, m', F, htok, hm, N, hy, hn, hG, hK, h0, hl, ha⟩ := hC
  have hnl := nl_nonneg cs'
  have sub : ∀ p ∈ fx, p ∈ (I, ciObj q ti) :: fx := fun p hp => .tail _ hp
  have hI := (N (I, ciObj q ti) (.tail _ (.tail _ (.head _)))).1
  have hQ := (N _ (.tail _ (.tail _ (.tail _ hq)))).1
  have offl' : ∀ p ∈ (I, ciObj q ti) :: fx, p.1 ≠ left := List.forall_mem_cons.mpr ⟨hlI, offl⟩
  have offd' : ∀ p ∈ (I, ciObj q ti) :: fx, p.1 ≠ dx := List.forall_mem_cons.mpr ⟨hdI, offd⟩
  cases cs' with
  | nil =>
    refine next_ci_end (by rfl) hI hQ (F.keep _ _ (X 71 _ rfl)) rfl ?_
    refine lex_read (un := un + 1) (H.mono sub) B F X N T hk h1 (by omega) hdl offl' offd' hy (by simp only [List.length_nil]; omega) ⟨h0, by omega⟩ (fun _ _ _ _ _ _ _ _ _ _ _ _ _ _ e => by cases e) ?_
    intro t h' tk' _ F' N'
    refine ⟨(N' (I, ciObj q ti) (.tail _ (.tail _ (.head _)))).1, (N' _ (.tail _ (.tail _ (.tail _ hq)))).1, F'.keep _ _ (X 71 _ rfl), ⟨t, rfl⟩, fun h3 tk3 hx => ?_⟩
    have hIL := (N' (I, ciObj q ti) (.tail _ (.tail _ (.head _)))).2
    have e8 : m' = fun y : Str => if y = "token" then some (.str acc ta) else m' y := by
      funext y
      by_cases hy2 : y = "token"
      · rw [if_pos hy2, hy2, htok]
      · rw [if_neg hy2]
    refine done acc ta a1 a2 a3 a4 a5 a6 ln n2 h3 tk3 m' hG ⟨by rw [← hK]; unfold nl; omega, h0⟩ ⟨?_, fun b o e => hx b o (fun e' => ?_) (F'.keep b o e), F'.above⟩ fun p hp => ?_
    · rw [← e8]
      obtain ⟨oL, x1, x2, x3, x4⟩ := F'.ns
      exact ⟨oL, x1, x2, hx _ _ (Ne.symm hIL.1) x3, x4⟩
    · rw [e', hIL.2] at e; cases e
    · have hp' : p ∈ (dx, dictOf (lexD w a1 a2 a3 a4 a5 a6 ln (.ref st) (.ref pb)) 4) :: (left, PySem.W.listOf (List.toArray []) n2) :: (I, ciObj q ti) :: fx := by
        simp only [List.mem_cons] at hp ⊢
        rcases hp with e | e | e <;> simp [e]
      refine ⟨hx _ _ ?_ (N' p hp').1, (N' p hp').2⟩
      rcases List.mem_cons.mp hp with rfl | hp
      · exact Ne.symm hdI
      · rcases List.mem_cons.mp hp with rfl | hp
        · exact Ne.symm hlI
        · exact offI p hp
  | cons c r =>
    simp only [List.length_cons] at hl hn
    refine next_ci hI hQ (F.keep _ _ (X 71 _ rfl)) rfl ?_
    refine lex_read (un := un + 1) (H.mono sub) B F X N T hk h1 (by omega) hdl offl' offd' hy (by simp only [List.length_cons]; omega) ⟨h0, by omega⟩ ?_ (fun _ _ _ e => by cases e)
    intro a1' a2' a3' a4' a5' a6' n2' h' tk' ln' ch tc ys' r' e hy' hln F' N'
    cases e
    have hc1 := ha c (.head _)
    refine ⟨(N' (I, ciObj q ti) (.tail _ (.tail _ (.head _)))).1, ⟨c, tc, rfl, fun e => ?_⟩, ?_⟩
    · rw [e] at hc1; cases hc1
    · refine wpAny_storeName_local hch F'.ns (fun h3 hn3 hs3 => ?_) (by show (cs.kind == .class || (cs.kind == .module && L != mainGlobals)) = false; rw [hk]; rfl)
      rw [hn]
      have e4 : (fun y : Str => if y = "ch" then some (.str c tc) else m' y) = fun y : Str => if y = "ch" then some (.str c tc) else if y = "token" then some (.str acc ta) else m y := by
        funext y
        by_cases hy1 : y = "ch"
        · simp only [hy1, if_true]
        · rw [if_neg hy1, if_neg hy1]
          by_cases hy2 : y = "token"
          · rw [if_pos hy2, hy2, htok]
          · rw [if_neg hy2, hm y hy1 hy2]
      rw [e4] at hn3
      have hnr := nl_nonneg r
      have hKr : ln' + nl r = K ∧ 0 ≤ ln' := by
        rw [← hK, hln, nl_cons]
        by_cases e9 : c = Str.ofString "\n"
        · rw [if_pos e9, if_pos e9]; omega
        · rw [if_neg e9, if_neg e9]; omega
      exact turn c r acc tc ta a1' a2' a3' a4' a5' a6' ln' n2' ys' h3 _ hG hy' (by unfold Short; omega) (by unfold Short; omega) hc1 ⟨hKr.2, by omega⟩ hKr.1 hl (by omega) (fun c hc => ha c (.tail _ hc)) (F'.set hn3 hs3) (N'.set hs3)
end
noncomputable def isW (c : Str) : Bool := Txt.contains (Str.ofString "\n\t\r ") c
noncomputable def inQ : List Str → Str → Option (Str × List Str)
  | [], _ => none
  | c :: r, acc => if c == Str.ofString "\"" then some (acc, r) else if c == Str.ofString "\\" then (match r with | [] => none | c' :: r' => inQ r' (acc ++ c')) else inQ r (acc ++ c)
noncomputable def inB : List Str → Str → Option (Str × List Str)
  | [], _ => none
  | c :: r, acc => if isW c then some (acc, r) else if c == Str.ofString "\\" then (match r with | [] => none | c' :: r' => inB r' (acc ++ c')) else inB r (acc ++ c)
noncomputable def tok : List Str → Option (Str × List Str)
  | [] => some (Str.ofString "", [])
  | c :: r => if isW c then tok r else if c == Str.ofString "\"" then inQ r (Str.ofString "") else if c == Str.ofString "\\" then (match r with | [] => none | c' :: r' => inB r' (Str.ofString "" ++ c')) else inB r (Str.ofString "" ++ c)
section
variable {c c' : Str} {r : List Str} {acc : Str} {Z : Str × List Str}
theorem tok_cons : tok (c :: r) = (if isW c then tok r else if c == Str.ofString "\"" then inQ r (Str.ofString "") else if c == Str.ofString "\\" then (match r with | [] => none | c' :: r' => inB r' (Str.ofString "" ++ c')) else inB r (Str.ofString "" ++ c)) := tok.eq_def (c :: r)
theorem inQ_cons : inQ (c :: r) acc = (if c == Str.ofString "\"" then some (acc, r) else if c == Str.ofString "\\" then (match r with | [] => none | c' :: r' => inQ r' (acc ++ c')) else inQ r (acc ++ c)) := inQ.eq_def (c :: r) acc
theorem inB_cons : inB (c :: r) acc = (if isW c then some (acc, r) else if c == Str.ofString "\\" then (match r with | [] => none | c' :: r' => inB r' (acc ++ c')) else inB r (acc ++ c)) := inB.eq_def (c :: r) acc
theorem tok_white (h : tok (c :: r) = some Z) (hw : isW c = true) : tok r = some Z := by rw [← h, tok_cons, hw]; rfl
theorem tok_q (h : tok (c :: r) = some Z) (hw : isW c = false) (hq : (c == Str.ofString "\"") = true) : inQ r (Str.ofString "") = some Z := by rw [← h, tok_cons, hw, hq]; rfl
theorem tok_chr (h : tok (c :: r) = some Z) (hw : isW c = false) (hq : (c == Str.ofString "\"") = false) (hb : (c == Str.ofString "\\") = false) : inB r (Str.ofString "" ++ c) = some Z := by rw [← h, tok_cons, hw, hq, hb]; rfl
theorem tok_esc (h : tok (c :: c' :: r) = some Z) (hw : isW c = false) (hq : (c == Str.ofString "\"") = false) (hb : (c == Str.ofString "\\") = true) : inB r (Str.ofString "" ++ c') = some Z := by rw [← h, tok_cons, hw, hq, hb]; rfl
theorem tok_no (h : tok (c :: []) = some Z) (hw : isW c = false) (hq : (c == Str.ofString "\"") = false) (hb : (c == Str.ofString "\\") = true) : False := by rw [tok_cons, hw, hq, hb] at h; cases h
theorem inQ_end (h : inQ (c :: r) acc = some Z) (hq : (c == Str.ofString "\"") = true) : (acc, r) = Z := by rw [inQ_cons, hq] at h; exact Option.some.inj h
theorem inQ_chr (h : inQ (c :: r) acc = some Z) (hq : (c == Str.ofString "\"") = false) (hb : (c == Str.ofString "\\") = false) : inQ r (acc ++ c) = some Z := by rw [← h, inQ_cons, hq, hb]; rfl
theorem inQ_esc (h : inQ (c :: c' :: r) acc = some Z) (hq : (c == Str.ofString "\"") = false) (hb : (c == Str.ofString "\\") = true) : inQ r (acc ++ c') = some Z := by rw [← h, inQ_cons, hq, hb]; rfl
theorem inQ_no (h : inQ (c :: []) acc = some Z) (hq : (c == Str.ofString "\"") = false) (hb : (c == Str.ofString "\\") = true) : False := by rw [inQ_cons, hq, hb] at h; cases h
theorem inB_end (h : inB (c :: r) acc = some Z) (hw : isW c = true) : (acc, r) = Z := by rw [inB_cons, hw] at h; exact Option.some.inj h
theorem inB_chr (h : inB (c :: r) acc = some Z) (hw : isW c = false) (hb : (c == Str.ofString "\\") = false) : inB r (acc ++ c) = some Z := by rw [← h, inB_cons, hw, hb]; rfl
theorem inB_esc (h : inB (c :: c' :: r) acc = some Z) (hw : isW c = false) (hb : (c == Str.ofString "\\") = true) : inB r (acc ++ c') = some Z := by rw [← h, inB_cons, hw, hb]; rfl
theorem inB_no (h : inB (c :: []) acc = some Z) (hw : isW c = false) (hb : (c == Str.ofString "\\") = true) : False := by rw [inB_cons, hw, hb] at h; cases h
end
theorem in_white {prog : Program} {A : Around} {E : Value → Shared → Prop} {s : Shared} {c : Str} {t u : Tok} {Q : Value → Shared → Prop} (h : Q (.bool (isW c)) s) : wpAny (model prog w) A (compareOp .In (.str c u) (.str (Str.ofString "\n\t\r ") t)) Q E s := PySem.SB.contains h
theorem ci_shape {h₀ h : Heap} {L : Addr} {e1 e2 e3 e4 : Addr × Obj} {rest : List (Addr × Obj)} (N : News h₀ L h (e1 :: e2 :: e3 :: e4 :: rest)) : News h₀ L h (e3 :: e4 :: e1 :: e2 :: rest) := fun p hp => N p (by revert p; k_extra "subl")
noncomputable abbrev Gt (Z : Str × List Str) : Str → List Str → Prop := fun acc c => acc = Str.ofString "" ∧ tok c = some Z
noncomputable abbrev Gq (Z : Str × List Str) : Str → List Str → Prop := fun acc c => inQ c acc = some Z
noncomputable abbrev Gb (Z : Str × List Str) : Str → List Str → Prop := fun acc c => inB c acc = some Z
theorem inQ_nil {acc : Str} {Z : Str × List Str} (h : inQ [] acc = some Z) : False := by unfold inQ at h; cases h
theorem inB_nil {acc : Str} {Z : Str × List Str} (h : inB [] acc = some Z) : False := by unfold inB at h; cases h
theorem tok_nil {Z : Str × List Str} (h : tok [] = some Z) : (Str.ofString "", []) = Z := by unfold tok at h; exact Option.some.inj h
theorem short_head {c : Str} {r : List Str} (h : ∀ x ∈ c :: r, x.length = 1) : Short c 300 := by have := h c (.head _); unfold Short; omega
section
variable {mg mb : Str → Option Value} {mean : ExcName → Option Value} {loose : List Str} {dp un : Nat} {gd : Option (List Code)} {cn : Str} {cs : Scope} {a : Addr} {ccd : Value} {cl : List (Str × Addr)} {outer : List Env} {A₀ : Around} {base h₀ : Heap} {L : Addr} {m : Str → Option Value} {s : Shared} {Q E : Value → Shared → Prop}
theorem c_lread {x dx pb st left : Addr} {n : Nat} {fix : List (Addr × Obj)} {cs' : List Str} {ys : List Value} {a1 a2 a3 a4 a5 a6 : Tok} {ln K : Int} (H : Lex w x dx st left fix)
    (B : Below A₀ base outer h₀) (F : Fr h₀ L s.heap m) (X : (hd.heap_1 w.params).In h₀) (N : News h₀ L s.heap ((dx, dictOf (lexD w a1 a2 a3 a4 a5 a6 ln (.ref st) (.ref pb)) 4) :: (left, PySem.W.listOf (List.toArray ys) n) :: fix)) (T : Top topProg loose mean mg mb h₀) (hk : cs.kind = .function) (h1 : dp ≤ 328) (h2 : un ≤ 180)
    (hdl : @Ne Nat dx left) (offl : ∀ p ∈ fix, p.1 ≠ left) (offd : ∀ p ∈ fix, p.1 ≠ dx) (hy : StrsAre ys cs') (hz : cs'.length ≤ 900) (hln : 0 ≤ ln ∧ ln < 1000) (hK : ln + nl cs' = K) (hK9 : K ≤ 900)
    (ret : ∀ a1 a2 a3 a4 a5 a6 n h' tk' ln' ch tc ys' r, cs' = ch :: r → StrsAre ys' r → ln' + nl r = K → (0 ≤ ln' ∧ ln' < 1000) → Fr h₀ L h' m → News h₀ L h' ((dx, dictOf (lexD w a1 a2 a3 a4 a5 a6 ln' (.ref st) (.ref pb)) 4) :: (left, PySem.W.listOf (List.toArray ys') n) :: fix) → Q (.str ch tc) { s with heap := h', toks := tk' })
    (fin : cs' = [] → False) :
    wpAny (model PySem.Challenge.rw_xo0026_01.row.prog w) (ktrTop dp un gd cn cs L a ccd cl outer) (call (.ref 71) [.ref x]) Q E s := by
  refine wpAny_call (lex_read H B F X N T hk h1 h2 hdl offl offd hy hz hln ?_ fun _ _ _ e => (fin e).elim)
  intro a1 a2 a3 a4 a5 a6 n h' tk' ln' ch tc ys' r e hy' hln' F' N'
  have e1 : ln' + nl r = K ∧ 0 ≤ ln' := by
    rw [← hK, e, hln', nl_cons]
    by_cases e9 : ch = Str.ofString "\n"
    · rw [if_pos e9, if_pos e9]; omega
    · rw [if_neg e9, if_neg e9]; omega
  have := nl_nonneg r
  exact ret a1 a2 a3 a4 a5 a6 n h' tk' ln' ch tc ys' r e hy' e1.1 ⟨e1.2, by omega⟩ F' N'
end
theorem ch_len {c : Str} {r : List Str} (h : ∀ x ∈ c :: r, x.length = 1) : c.length = 1 := h c (.head _)
theorem lt_last4 {a b c e d : Nat} {r : List (Addr × Obj)} (h : @LT.lt Nat _ a d ∧ @LT.lt Nat _ b d ∧ @LT.lt Nat _ c d ∧ @LT.lt Nat _ e d ∧ AllLt d r) : AllLt d r := h.2.2.2.2
theorem ci_cut2 {h₀ h : Heap} {L : Addr} {e1 e2 e3 e4 : Addr × Obj} {rest : List (Addr × Obj)} (N : News h₀ L h (e1 :: e2 :: e3 :: e4 :: rest)) : News h₀ L h (e1 :: e2 :: rest) := fun p hp => N p (by revert p; k_extra "subl")
theorem ci_cut1 {h₀ h : Heap} {L : Addr} {e1 e2 e3 : Addr × Obj} {rest : List (Addr × Obj)} (N : News h₀ L h (e1 :: e2 :: e3 :: rest)) : News h₀ L h (e1 :: e2 :: rest) := fun p hp => N p (by revert p; k_extra "subl")
theorem iadd_short {prog : Program} {A : Around} {E : Value → Shared → Prop} {s : Shared} {x y : Str} {t u : Tok} {Q : Value → Shared → Prop} (hx : Short x 300) (hy : Short y 300) (h : ∀ t' k, Q (.str (x ++ y) t') { s with toks := k }) : wpAny (model prog w) A (inplaceOp .Add (.str x t) (.str y u)) Q E s :=
  PySem.SB.iadd h (by unfold Short at hx hy; rw [sizeLine_eq]; omega)
theorem all_tail {c : Str} {r : List Str} (h : ∀ x ∈ c :: r, x.length = 1) : ∀ x ∈ r, x.length = 1 := fun x hx => h x (.tail _ hx)
theorem nl_nil : nl [] = 0 := rfl
section
variable {mg mb : Str → Option Value} {mean : ExcName → Option Value} {loose : List Str} {dp un : Nat} {gd : Option (List Code)} {cn : Str} {cs : Scope} {a : Addr} {ccd : Value} {cl : List (Str × Addr)} {outer : List Env} {A₀ : Around} {base h₀ : Heap} {L : Addr} {m : Str → Option Value} {s : Shared} {Q E : Value → Shared → Prop}
theorem off_gettok_1 : True := by
  w_top off
  k_with "exec For" => k_extra "my For"
  k_with "pyIter ref" => k_extra "my pyIter"
  k_with "call builtin:iter" => k_extra "my iter"
  k_with "iter call" => (k_here; k_dflt (refine' iter_ci ?Fw405 ?Nw405 ?qw405 ?_; (case Fw405 => k_asm); (case Nw405 => k_asm); (case qw405 => k_mem); intro _ _ _ _ l1w405; (try k_lt l1w405)))
  k_with "ci for" => (k_here; k_dflt (refine For_ci ?_))
  k_with "compareOp In str str" => k_extra "my in"
  k_with "in white" => (k_here; k_dflt (refine in_white ?_))
  k_with "ci facts" => ((case F => k_asm); (case N => first | k_asm | exact ci_shape (by k_asm)); (case H => exact Lex.mono ‹_› (by lcg_sub)); (case hq => k_mem); (case B => k_asm); (case X => k_asm); (case T => k_asm); (case hk => exact rfl); (case h1 => exact Nat.le_of_ble_eq_true rfl); (case h2 => exact Nat.le_of_ble_eq_true rfl); (case hdl => first | assumption | omega); (case hdI => first | assumption | omega); (case hlI => first | assumption | omega); (case offl => k_all); (case offd => k_all); (case offI => exact List.forall_mem_cons.mpr ⟨by (show @Ne Nat _ _; omega), List.forall_mem_cons.mpr ⟨by (show @Ne Nat _ _; omega), ne_all (lt_last4 (by with_reducible assumption)) (Nat.le_refl _)⟩⟩); (case hch => exact rfl); (case htok => first | exact rfl | simp); (case hy => assumption); (case hK => assumption); (case h0 => first | assumption | omega); (case hK9 => assumption); (case ha => first | assumption | exact all_tail (by with_reducible assumption)); (case hl => k_extra "ci length"))
  k_with "ci turn" => (intro _ _ _ _ _ _ _ _ _ _ _ _ _ _ _ _ _ _ _ _ _ _ _ _ _ _ _ _)
  k_with "loop q" => (k_here; k_dflt (refine' ci_loop (G := Gq _) ?Hw803 ?hqw803 ?Bw803 ?Fw803 ?Xw803 ?Nw803 ?Tw803 ?hkw803 ?h1w803 ?h2w803 ?hdlw803 ?hdIw803 ?hlIw803 ?offlw803 ?offdw803 ?offIw803 ?hchw803 ?htokw803 ?hyw803 ?hGw803 ?hKw803 ?h0w803 ?hK9w803 ?hlw803 ?haw803 ?_ ?donew803; (case hGw803 => exact tok_q (by with_reducible assumption) ‹_› ‹_›); (((case Fw803 => k_asm); (case Nw803 => first | k_asm | exact ci_shape (by k_asm)); (case Hw803 => exact Lex.mono ‹_› (by lcg_sub)); (case hqw803 => k_mem); (case Bw803 => k_asm); (case Xw803 => k_asm); (case Tw803 => k_asm); (case hkw803 => exact rfl); (case h1w803 => exact Nat.le_of_ble_eq_true rfl); (case h2w803 => exact Nat.le_of_ble_eq_true rfl); (case hdlw803 => first | assumption | omega); (case hdIw803 => first | assumption | omega); (case hlIw803 => first | assumption | omega); (case offlw803 => k_all); (case offdw803 => k_all); (case offIw803 => exact List.forall_mem_cons.mpr ⟨by (show @Ne Nat _ _; omega), List.forall_mem_cons.mpr ⟨by (show @Ne Nat _ _; omega), ne_all (lt_last4 (by with_reducible assumption)) (Nat.le_refl _)⟩⟩); (case hchw803 => exact rfl); (case htokw803 => first | exact rfl | simp); (case hyw803 => assumption); (case hKw803 => assumption); (case h0w803 => first | assumption | omega); (case hK9w803 => assumption); (case haw803 => first | assumption | exact all_tail (by with_reducible assumption)); (case hlw803 => k_extra "ci length"))); (case donew803 => (intro _ _ _ _ _ _ _ _ _ _ _ _ _ hG'w803; exact (inQ_nil hG'w803).elim)); ((((intro _ _ _ _ _ _ _ _ _ _ _ _ _ _ _ _ hG'w803 _ _ _ _ _ _ _ _ _ _ _)); (try k_fold)))))
  k_with "loop b" => (k_here; k_dflt (refine' ci_loop (G := Gb _) ?Hw405 ?hqw405 ?Bw405 ?Fw405 ?Xw405 ?Nw405 ?Tw405 ?hkw405 ?h1w405 ?h2w405 ?hdlw405 ?hdIw405 ?hlIw405 ?offlw405 ?offdw405 ?offIw405 ?hchw405 ?htokw405 ?hyw405 ?hGw405 ?hKw405 ?h0w405 ?hK9w405 ?hlw405 ?haw405 ?_ ?donew405; (case hGw405 => first | exact tok_chr (by with_reducible assumption) ‹_› ‹_› ‹_› | exact tok_esc (by with_reducible assumption) ‹_› ‹_› ‹_›); (((case Fw405 => k_asm); (case Nw405 => first | k_asm | exact ci_shape (by k_asm)); (case Hw405 => exact Lex.mono ‹_› (by lcg_sub)); (case hqw405 => k_mem); (case Bw405 => k_asm); (case Xw405 => k_asm); (case Tw405 => k_asm); (case hkw405 => exact rfl); (case h1w405 => exact Nat.le_of_ble_eq_true rfl); (case h2w405 => exact Nat.le_of_ble_eq_true rfl); (case hdlw405 => first | assumption | omega); (case hdIw405 => first | assumption | omega); (case hlIw405 => first | assumption | omega); (case offlw405 => k_all); (case offdw405 => k_all); (case offIw405 => exact List.forall_mem_cons.mpr ⟨by (show @Ne Nat _ _; omega), List.forall_mem_cons.mpr ⟨by (show @Ne Nat _ _; omega), ne_all (lt_last4 (by with_reducible assumption)) (Nat.le_refl _)⟩⟩); (case hchw405 => exact rfl); (case htokw405 => first | exact rfl | simp); (case hyw405 => assumption); (case hKw405 => assumption); (case h0w405 => first | assumption | omega); (case hK9w405 => assumption); (case haw405 => first | assumption | exact all_tail (by with_reducible assumption)); (case hlw405 => k_extra "ci length"))); (case donew405 => (intro _ _ _ _ _ _ _ _ _ _ _ _ _ hG'w405; exact (inB_nil hG'w405).elim)); ((((intro _ _ _ _ _ _ _ _ _ _ _ _ _ _ _ _ hG'w405 _ _ _ _ _ _ _ _ _ _ _)); (try k_fold)))))
  k_with "loop t" => (k_here; k_dflt (refine' ci_loop (G := Gt _) ?Hw348 ?hqw348 ?Bw348 ?Fw348 ?Xw348 ?Nw348 ?Tw348 ?hkw348 ?h1w348 ?h2w348 ?hdlw348 ?hdIw348 ?hlIw348 ?offlw348 ?offdw348 ?offIw348 ?hchw348 ?htokw348 ?hyw348 ?hGw348 ?hKw348 ?h0w348 ?hK9w348 ?hlw348 ?haw348 ?_ ?_; (case hGw348 => exact ⟨rfl, by with_reducible assumption⟩); (((case Fw348 => k_asm); (case Nw348 => first | k_asm | exact ci_shape (by k_asm)); (case Hw348 => exact Lex.mono ‹_› (by lcg_sub)); (case hqw348 => k_mem); (case Bw348 => k_asm); (case Xw348 => k_asm); (case Tw348 => k_asm); (case hkw348 => exact rfl); (case h1w348 => exact Nat.le_of_ble_eq_true rfl); (case h2w348 => exact Nat.le_of_ble_eq_true rfl); (case hdlw348 => first | assumption | omega); (case hdIw348 => first | assumption | omega); (case hlIw348 => first | assumption | omega); (case offlw348 => k_all); (case offdw348 => k_all); (case offIw348 => exact List.forall_mem_cons.mpr ⟨by (show @Ne Nat _ _; omega), List.forall_mem_cons.mpr ⟨by (show @Ne Nat _ _; omega), ne_all (lt_last4 (by with_reducible assumption)) (Nat.le_refl _)⟩⟩); (case hchw348 => exact rfl); (case htokw348 => first | exact rfl | simp); (case hyw348 => assumption); (case hKw348 => assumption); (case h0w348 => first | assumption | omega); (case hK9w348 => assumption); (case haw348 => first | assumption | exact all_tail (by with_reducible assumption)); (case hlw348 => k_extra "ci length"))); ((intro _ _ _ _ _ _ _ _ _ _ _ _ _ _ _ _ hG'w348 _ _ _ _ _ _ _ _ _ _ _; (obtain ⟨e9'w348, _⟩ := hG'w348; subst e9'w348); (try k_fold))); rotate_left; ((intro _ _ _ _ _ _ _ _ _ _ _ _ _ hG'w348 _ _ _; (obtain ⟨e9'w348, _⟩ := hG'w348; subst e9'w348); (try k_fold)))))
  k_with "CiTurn" => k_dflt (refine CiTurn.ret ?_; (try dsimp only))
  k_with "call read" => (k_here; k_dflt (refine' c_lread ?Hw589 ?Bw589 ?Fw589 ?Xw589 ?Nw589 ?Tw589 ?hkw589 ?h1w589 ?h2w589 ?hdlw589 ?offlw589 ?offdw589 ?hyw589 ?hzw589 ?hlnw589 ?hKw589 ?hK9w589 ?_ ?finw589; (case Bw589 => k_asm); (case Fw589 => k_asm); (case Xw589 => k_asm); (case Nw589 => k_asm); (case Hw589 => exact Lex.mono ‹_› (by lcg_sub)); (case Tw589 => k_asm); (case hkw589 => exact rfl); (case h1w589 => exact Nat.le_of_ble_eq_true rfl); (case h2w589 => exact Nat.le_of_ble_eq_true rfl); (case hdlw589 => first | assumption | omega); (case offlw589 => k_all); (case offdw589 => k_all); (case hyw589 => assumption); (case hzw589 => omega); (case hlnw589 => first | assumption | omega); (case hKw589 => assumption); (case hK9w589 => assumption); (case finw589 => (intro e9'w589; subst e9'w589; first | exact tok_no (by with_reducible assumption) ‹_› ‹_› ‹_› | exact inQ_no (by with_reducible assumption) ‹_› ‹_› | exact inB_no (by with_reducible assumption) ‹_› ‹_›)); ((k_whole; intro _ _ _ _ _ _ _ _ _ _ _ _ _ _ e9'w589 _ _ _ _ _; subst e9'w589; (have hs9'w589 := short_head (by with_reducible assumption)); (try k_sweep)))))
  k_with "ci length" => ((try (have h9'w186 := ch_len (by with_reducible assumption))); (try simp only [PySem.Str.length_append, List.length_cons] at *); (try rw [show (Str.ofString "").length = 0 from rfl] at *); omega)
  k_with "ci ends" => (k_dflt (refine' ci_next ?hfw190 ?Fw190 ?h1w190 ?h2w190 ?Nw190 ?hyw190 ?hnw190 ?hGw190 ?hKw190 ?h0w190 ?hlw190 ?haw190; (case hfw190 => first | exact .inl rfl | exact .inr rfl); (case Fw190 => k_asm); (case h1w190 => first | exact rfl | simp); (case h2w190 => (intro _ h1'w190 h2'w190; simp only [if_neg h1'w190, if_neg h2'w190])); (case Nw190 => k_asm); (case hyw190 => assumption); (case hGw190 => first | exact ⟨rfl, tok_white (by with_reducible assumption) ‹_›⟩ | exact inQ_chr (by with_reducible assumption) ‹_› ‹_› | exact inQ_esc (by with_reducible assumption) ‹_› ‹_› | exact inB_chr (by with_reducible assumption) ‹_› ‹_› | exact inB_esc (by with_reducible assumption) ‹_› ‹_›); (case hnw190 => ((try simp only [List.length_cons]); omega)); (case hKw190 => assumption); (case h0w190 => omega); (case haw190 => first | assumption | exact all_tail (by with_reducible assumption)); (case hlw190 => k_extra "ci length")))
  k_with "inplaceOp Add str str" => (k_here; (with_reducible show wpAny _ _ (inplaceOp Operator.Add (Value.str _ _) (Value.str _ _)) _ _ _); k_dflt (refine iadd_short (by with_reducible assumption) (by with_reducible assumption) ?_; intro _ _))
  k_with "exec For Tuple Call cons nil" => k_extra "my For"
  k_with "exec For Name Call cons nil" => k_extra "my For"
  k_with "exec For Name Name cons nil" => k_extra "my For"
  trivial
theorem c_token {x dx pb st left : Addr} {n n1 : Nat} {fix : List (Addr × Obj)} {ys : List Value} {cs' : List Str} {a1 a2 a3 a4 a5 a6 : Tok} {ln K : Int} {tokF : Str} {restF : List Str} (H : Lex w x dx st left fix)
    (B : Below A₀ base outer h₀) (F : Fr h₀ L s.heap m) (X : (hd.heap_1 w.params).In h₀) (N : News h₀ L s.heap ((dx, dictOf (lexD w a1 a2 a3 a4 a5 a6 ln (.ref st) (.ref pb)) 4) :: (left, PySem.W.listOf (List.toArray ys) n) :: (pb, PySem.W.listOf (List.toArray []) n1) :: fix)) (T : Top topProg loose mean mg mb h₀) (hk : cs.kind = .function) (h1 : dp ≤ 325) (h2 : un ≤ 150)
    (hdl : @Ne Nat dx left) (hpd : @Ne Nat pb dx) (hpl : @Ne Nat pb left) (offl : ∀ p ∈ fix, p.1 ≠ left) (offd : ∀ p ∈ fix, p.1 ≠ dx) (hy : StrsAre ys cs') (hl : cs'.length ≤ 300) (ha : ∀ c ∈ cs', c.length = 1) (hln : 0 ≤ ln) (hK : ln + nl cs' = K) (hK9 : K ≤ 900) (hG : tok cs' = some (tokF, restF))
    (ret : ∀ t a1 a2 a3 a4 a5 a6 n ys' ln' h' tk', StrsAre ys' restF → ln' + nl restF = K → 0 ≤ ln' → Fr h₀ L h' m → News h₀ L h' ((dx, dictOf (lexD w a1 a2 a3 a4 a5 a6 ln' (.ref st) (.ref pb)) 4) :: (left, PySem.W.listOf (List.toArray ys') n) :: (pb, PySem.W.listOf (List.toArray []) n1) :: fix) → Q (.str tokF t) { s with heap := h', toks := tk' }) :
    wpAny (model PySem.Challenge.rw_xo0026_01.row.prog w) (ktrTop dp un gd cn cs L a ccd cl outer) (call (.ref 78) [.ref x]) Q E s := by
  refine lift h1 h2 ?_
  have hx := H.inst
  revert X; k_fill; intro X
  refine wpAny_call ?_
  k_with "my truthy" => k_extra "truthy list"
  k_with "my iter" => k_extra "iter call"
  k_with "my For" => k_extra "ci for"
  k_with "my in" => k_extra "in white"
  k_with "my call" => k_extra "call read"
  k_with "my pyIter" => first | k_extra "loop b" | k_extra "loop q" | k_extra "loop t"
  k_extra "my_enter"
  k_steps
  all_goals first
    | k_extra "ci ends"
    | (have e := inB_end (by with_reducible assumption) (by with_reducible assumption); cases e; exact ret _ _ _ _ _ _ _ _ _ _ _ _ ‹_› ‹_› (by omega) ‹_› (ci_cut2 ‹_›))
    | (have e := inQ_end (by with_reducible assumption) (by with_reducible assumption); cases e; exact ret _ _ _ _ _ _ _ _ _ _ _ _ ‹_› ‹_› (by omega) ‹_› (ci_cut2 ‹_›))
    | (have e := tok_nil (by with_reducible assumption); cases e; refine ret _ _ _ _ _ _ _ _ _ _ _ _ .nil ?_ ?_ ‹_› (ci_cut1 ‹_›); (rw [nl_nil]; omega); omega)
end
theorem re_plain : PlainAttrs "re.Pattern" := ⟨⟨"object.__getattribute__", by rw [typeLookup_type, builtinLookup_eq_fast]; kernel_rfl, by decide +kernel⟩, by rw [typeLookup_type, builtinLookup_eq_fast]; kernel_rfl⟩
theorem re_slot : Slot "re.Pattern" "search" "re.Pattern.search" :=
  .of (owner := "re.Pattern") (n := "search") (by rw [typeLookup_type, builtinLookup_eq_fast]; kernel_rfl) (by decide +kernel) (by decide +kernel) (by decide +kernel)
    (by first | exact .inl (by decide +kernel) | exact .inr (by decide +kernel)) (by rw [isSubtype_type]; kernel_rfl)
theorem re_type : typeOf (.builtin "re.Pattern.search") = pure (.type "method_descriptor") := by show builtinType _ = _; rw [builtinType_eq_fast]; kernel_rfl
theorem re_entry : entryFor table "re.Pattern.search" = some Builtin.«re.Pattern.search» := entryFor_of_tree (by kernel_rfl)
theorem re_args (a b : Value) : argsOk "re.Pattern.search" ⟨[a, b], []⟩ := by unfold argsOk; kernel_rfl
noncomputable def reCode : Array Nat := #[14, 8, 1, 2, 4294967295, 1, 1, 46, 0, 16, 46, 24, 9, 1, 4294967295, 13, 4, 8, 0, 0, 1, 6, 5, 1]
noncomputable def reTurns : Nat → Sre.M → Sre.M
  | 0, m => m
  | n + 1, m => if (m.runFor 4).outcome.isSome then m.runFor 4 else reTurns n (m.runFor 4)
noncomputable def reEnd (x : Str) : Sre.M := reTurns 60 (Sre.forSearch reCode x.cps 0 0 x.cps.size false)
noncomputable def reHit (x : Str) : Nat := if (Sre.forSearch reCode x.cps 0 0 x.cps.size false).outcome.isSome then 2 else match (reEnd x).outcome with
  | some .matched => if (reEnd x).marks.size = 0 then 1 else 2
  | some .failed => 0
  | _ => 2
section
variable {prog : Program} {A : Around} {E : Value → Shared → Prop} {s : Shared}
theorem re_drive {Q : Sre.M → Shared → Prop} : ∀ (n k : Nat) (m : Sre.M), (reTurns n m).outcome.isSome = true → m.outcome.isSome = false → n ≤ k → Q (reTurns n m) s → wpAny (model prog w) A (Builtin.Re.reDrive k m) Q E s
  | 0, _, m, h1, h0, _, _ => by rw [show reTurns 0 m = m from rfl, h0] at h1; cases h1
  | n + 1, 0, m, _, _, hk, _ => by omega
  | n + 1, k + 1, m, h1, h0, hk, hq => by
    unfold Builtin.Re.reDrive
    show wpAny _ _ (if (m.runFor 4).outcome.isSome = true then pure (m.runFor 4) else _) _ _ _
    unfold reTurns at h1 hq
    by_cases e : (m.runFor 4).outcome.isSome = true
    · rw [if_pos e] at h1 hq ⊢
      exact wpAny_pure hq
    · rw [if_neg e] at h1 hq ⊢
      refine wpAny_bind (wpAny_rule ?_)
      exact re_drive n k (m.runFor 4) h1 (by simpa using e) (by omega) hq
theorem wpAny_forIn_each {α : Type} {f : α → PUnit → Sem (ForInStep PUnit)} {Q : PUnit → Shared → Prop} (hf : ∀ a r (Q' : ForInStep PUnit → Shared → Prop), Q' (.yield r) s → wpAny (model prog w) A (f a r) Q' E s) (h : Q ⟨⟩ s) : ∀ l : List α, wpAny (model prog w) A (forIn l PUnit.unit f) Q E s
  | [] => by rw [List.forIn_nil]; exact wpAny_pure h
  | a :: l => by
    rw [List.forIn_cons]
    exact wpAny_bind (hf a _ _ (wpAny_forIn_each hf h l))
theorem re_runToEnd {x : Str} {b : Nat} {Q : Option Sre.M → Shared → Prop} (hx : reHit x = b) (h1 : b = 1 → Q (some (reEnd x)) s) (h0 : b = 0 → Q none s) (hb : b ≤ 1) : wpAny (model prog w) A (Builtin.Re.reRunToEnd (Sre.forSearch reCode x.cps 0 0 x.cps.size false)) Q E s := by
  unfold Builtin.Re.reRunToEnd
  unfold reHit at hx
  have h9 : (Sre.forSearch reCode x.cps 0 0 x.cps.size false).outcome.isSome = false := by
    by_cases e : (Sre.forSearch reCode x.cps 0 0 x.cps.size false).outcome.isSome = true
    · rw [if_pos e] at hx; omega
    · revert e; cases (Sre.forSearch reCode x.cps 0 0 x.cps.size false).outcome.isSome <;> simp
  rw [h9, if_neg Bool.false_ne_true] at hx
  have h2 : (reEnd x).outcome = some .matched ∧ b = 1 ∨ (reEnd x).outcome = some .failed ∧ b = 0 := by
    split at hx
    · next e => split at hx <;> first | exact .inl ⟨e, hx.symm⟩ | omega
    · next e => exact .inr ⟨e, hx.symm⟩
    · omega
  have hs : (reEnd x).outcome.isSome = true := by rcases h2 with ⟨e, _⟩ | ⟨e, _⟩ <;> rw [e] <;> rfl
  refine wpAny_bind (re_drive 60 _ _ hs h9 (by decide) ?_)
  refine wpAny_bind (wpAny_forIn_each (fun i r Q' hq => ?_) ?_ _)
  · show wpAny _ _ (if _ then _ else _) _ _ _
    split
    · exact wpAny_bind (wpAny_rule (wpAny_pure hq))
    · exact wpAny_pure hq
  · rcases h2 with ⟨e, e1⟩ | ⟨e, e1⟩
    · show wpAny _ _ (match (reEnd x).outcome with | some .matched => _ | some .failed => _ | some (.stuck _) => _ | none => _) _ _ _
      rw [e]
      exact wpAny_pure (h1 e1)
    · show wpAny _ _ (match (reEnd x).outcome with | some .matched => _ | some .failed => _ | some (.stuck _) => _ | none => _) _ _ _
      rw [e]
      exact wpAny_pure (h0 e1)
theorem re_answer {x : Str} {t : Tok} {b : Nat} {Q : Value → Shared → Prop} {ho : Obj} (h36 : s.heap.get? 36 = some { cls := .type "re.Pattern", data := .fields #[.str (Str.ofString "\\.\\d+$") 285, .int 256 312, .int 0 0, .none, .none, .ref 35, .int 0 0] }) (h35 : s.heap.get? 35 = some ho) (hd : ho.data = .seq (reCode.map fun (n : Nat) => Value.int (n : Int) 0)) (hx : reHit x = b) (hb : b ≤ 1) (hz : x.length ≤ 1000)
    (h0 : b = 0 → Q .none s) (h1 : b = 1 → ∀ o1 o2, o2.cls = .type "re.Match" → o2.isFreed = false → Q (.ref (s.heap.push o1).objs.size) { s with heap := (s.heap.push o1).push o2 }) :
    wpAny (model prog w) A (call (.builtin "re.Pattern.search") [.ref 36, .str x t]) Q E s := by
  refine wpAny_call_entry re_slot ⟨_, h36, rfl⟩ re_entry ?_ (re_args _ _)
  unfold Builtin.«re.Pattern.search»
  refine wpAny_bind (m := Builtin.Re.reTarget _ _ _) ?_
  unfold Builtin.Re.reTarget
  show wpAny _ _ (Builtin.Re.reNamed _ _ _ _ [.str x t] [] >>= _) _ _ _
  refine wpAny_bind (wpAny_of_eq (a := [some (.str x t), none, none]) (by with_unfolding_all rfl) ?_)
  show wpAny _ _ (pure 0 >>= _) _ _ _
  refine wpAny_bind (wpAny_pure ?_)
  show wpAny _ _ (pure (2 ^ 63 - 1) >>= _) _ _ _
  refine wpAny_bind (wpAny_pure ?_)
  refine wpAny_bind (wpAny_fieldsOf h36 rfl ?_)
  refine wpAny_bind (wpAny_of_eq (a := (x.cps, 0)) (by with_unfolding_all rfl) ?_)
  show wpAny _ _ (Builtin.Re.reNoCollectionInside (.str x t) 0 >>= _) _ _ _
  refine wpAny_bind (wpAny_of_eq (a := ()) (by with_unfolding_all rfl) ?_)
  show wpAny _ _ (Builtin.Re.reRawItems (.ref 35) >>= _) _ _ _
  unfold Builtin.Re.reRawItems
  refine wpAny_bind (wpAny_bind (wpAny_seqItems h35 hd (wpAny_pure ?_)))
  refine wpAny_pure ?_
  have e1 : Array.map (fun x => x.toNat) (Array.map Builtin.Re.reRawOf ((some (Array.map (fun (n : Nat) => Value.int (n : Int) 0) reCode)).getD #[])) = reCode := by decide +kernel
  have e2 : min (2 ^ 63 - 1 : Int).toNat x.cps.size = x.cps.size := by
    have : x.cps.size ≤ 1000 := hz
    have h3 : (2 ^ 63 - 1 : Int).toNat = 9223372036854775807 := by decide
    rw [h3]; omega
  have e3 : min (0 : Int).toNat x.cps.size = 0 := Nat.zero_min _
  dsimp only
  rw [e1, e2, e3]
  unfold Builtin.Re.reAnswer
  refine wpAny_bind ?_
  show wpAny _ _ (Builtin.Re.reRunToEnd (Sre.forSearch reCode x.cps 0 0 x.cps.size false)) _ _ _
  refine re_runToEnd hx (fun e => ?_) (fun e => ?_) hb
  · show wpAny _ _ (Builtin.Re.reNewMatch (.ref 36) (.str x t) 0 0 x.cps.size (reEnd x) >>= _) _ _ _
    unfold Builtin.Re.reNewMatch
    simp only [show List.range 0 = [] from rfl, List.any_nil, List.flatMap_nil, Bool.false_eq_true, if_false]
    refine wpAny_bind (wpAny_bind (wpAny_newTuple ?_))
    unfold newFields
    refine wpAny_newObj_type ?_ (by size_fits)
    exact wpAny_pure ⟨_, rfl, h1 e _ _ rfl rfl⟩
  · exact wpAny_pure ⟨_, rfl, h0 e⟩
theorem re_noBool : typeLookup (.type "re.Match") "__bool__" = pure none := by rw [typeLookup_type, builtinLookup_eq_fast]; kernel_rfl
theorem re_noLen : typeLookup (.type "re.Match") "__len__" = pure none := by rw [typeLookup_type, builtinLookup_eq_fast]; kernel_rfl
theorem re_truthy {a : Addr} {o : Obj} {Q : Bool → Shared → Prop} (ho : s.heap.get? a = some o) (hc : o.cls = .type "re.Match") (h : Q true s) : wpAny (model prog w) A (truthy (.ref a)) Q E s := by
  have hT : s.TypeIs (.ref a) "re.Match" := ⟨_, ho, hc⟩
  unfold truthy
  refine wpAny_bind (wpAny_callSpecial?_none (name := Str.ofString "__bool__") hT re_noBool ?_)
  refine wpAny_bind (wpAny_specialOf (name := Str.ofString "__len__") hT re_noLen ?_)
  exact wpAny_pure h
end
section
variable {A : Around} {E : Value → Shared → Prop} {s : Shared} {h₀ : Heap} {L : Addr} {m : Str → Option Value} {news : List (Addr × Obj)}
theorem re_method {pl : Sem Bool} {Q : Value × List Value → Shared → Prop} (F : Fr h₀ L s.heap m) (X : (hd.heap_1 w.params).In h₀) (h : Q (.builtin "re.Pattern.search", [.ref 36]) s) : wpAny (model PySem.Challenge.rw_xo0026_01.row.prog w) A (getMethod (.ref 36) (Str.ofString "search") pl) Q E s :=
  getMethod_builtin ⟨_, F.keep _ _ (X 36 _ rfl), rfl⟩ re_plain re_slot re_type (fun a e => by cases e; exact ⟨_, F.keep _ _ (X 36 _ rfl), rfl⟩) h
theorem re_search {x : Str} {t : Tok} {b : Nat} {Q : Value → Shared → Prop} (F : Fr h₀ L s.heap m) (N : News h₀ L s.heap news) (X : (hd.heap_1 w.params).In h₀) (hx : reHit x = b) (hb : b ≤ 1) (hz : x.length ≤ 1000)
    (h : ∀ v h', (b = 0 ∧ v = .none ∧ h' = s.heap ∨ b = 1 ∧ ∃ a o, v = .ref a ∧ o.cls = .type "re.Match" ∧ h'.get? a = some o) → Fr h₀ L h' m → News h₀ L h' news → Q v { s with heap := h' }) :
    wpAny (model PySem.Challenge.rw_xo0026_01.row.prog w) A (call (.builtin "re.Pattern.search") [.ref 36, .str x t]) Q E s := by
  refine re_answer (F.keep _ _ (X 36 _ rfl)) (F.keep _ _ (X 35 _ rfl)) (by with_unfolding_all rfl) hx hb hz (fun e => h _ _ (.inl ⟨e, rfl, rfl⟩) F N) fun e o1 o2 hc hf => ?_
  exact h _ _ (.inr ⟨e, _, o2, rfl, hc, Heap.get?_push_size _ hf⟩) ((F.push _).push _) ((N.pushKeep _).pushKeep _)
theorem re_search0 {x : Str} {t : Tok} {Q : Value → Shared → Prop} (F : Fr h₀ L s.heap m) (N : News h₀ L s.heap news) (X : (hd.heap_1 w.params).In h₀) (hx : reHit x = 0) (hz : x.length ≤ 1000) (h : Q .none s) :
    wpAny (model PySem.Challenge.rw_xo0026_01.row.prog w) A (call (.builtin "re.Pattern.search") [.ref 36, .str x t]) Q E s :=
  re_search F N X hx (by decide) hz fun v h' hv F' N' => by
    rcases hv with ⟨_, rfl, rfl⟩ | ⟨e, _⟩
    · exact h
    · cases e
theorem re_search1 {x : Str} {t : Tok} {Q : Value → Shared → Prop} (F : Fr h₀ L s.heap m) (N : News h₀ L s.heap news) (X : (hd.heap_1 w.params).In h₀) (hx : reHit x = 1) (hz : x.length ≤ 1000)
    (h : ∀ a o h', o.cls = .type "re.Match" → h'.get? a = some o → Fr h₀ L h' m → News h₀ L h' news → Q (.ref a) { s with heap := h' }) :
    wpAny (model PySem.Challenge.rw_xo0026_01.row.prog w) A (call (.builtin "re.Pattern.search") [.ref 36, .str x t]) Q E s :=
  re_search F N X hx (by decide) hz fun v h' hv F' N' => by
    rcases hv with ⟨e, _⟩ | ⟨_, a, o, rfl, hc, ho⟩
    · cases e
    · exact h a o h' hc ho F' N'
end
noncomputable def hdn (x : Str) : Bool := !(reHit x == 1) && !(x == Str.ofString "") && !(Txt.item x 0 == Str.ofString ".") && !(Txt.item x (-1) == Str.ofString ".")
section
variable {mg mb : Str → Option Value} {mean : ExcName → Option Value} {loose : List Str} {dp un : Nat} {gd : Option (List Code)} {cn : Str} {cs : Scope} {a : Addr} {ccd : Value} {cl : List (Str × Addr)} {outer : List Env} {A₀ : Around} {base h₀ : Heap} {L : Addr} {m : Str → Option Value} {s : Shared} {Q E : Value → Shared → Prop}
theorem off_hdn_1 : True := by
  w_top off
  k_with_none
  k_with "subl" => ((repeat' (first | refine List.forall_mem_cons.mpr ⟨by (repeat (first | exact List.Mem.head _ | refine List.Mem.tail _ ?_ | refine List.mem_append_right _ ?_)), ?_⟩ | refine List.forall_mem_append.mpr ⟨?_, ?_⟩)); all_goals (intro _ hpw219; (repeat (first | exact hpw219 | refine List.Mem.tail _ ?_ | exact List.mem_append_left _ hpw219 | refine List.mem_append_right _ ?_))))
  k_with "pk" => (with_reducible first | exact pk1 ‹_› | exact pk2 ‹_› | exact pk3 ‹_› | exact pk4 ‹_› | exact pk5 ‹_› | exact pk6 ‹_› | exact pk7 ‹_› | exact pk8 ‹_› | exact pk9 ‹_› | exact pk10 ‹_› | exact pk11 ‹_› | exact pk12 ‹_› | exact pk13 ‹_› | exact pk14 ‹_› | exact pl2 ‹_› | exact pl3 ‹_› | exact pl4 ‹_› | exact pl5 ‹_› | exact pl6 ‹_› | exact pl7 ‹_›)
  k_with "suc" => (with_reducible first | exact lts1 | exact lts2 | exact lts3 | exact lts4 | exact lts5 | exact lts6 | exact lts7)
  k_with "hop" => (with_reducible first | exact ‹_› | k_extra "pk" | (refine Nat.lt_trans ?_ (by first | assumption | k_extra "pk"); k_extra "hop"))
  k_with "om" => (first | (with_reducible first | ((show @Ne Nat _ _); (try dsimp only); first | exact ‹_› | exact Ne.symm ‹_› | exact Nat.ne_of_lt (by k_extra "suc") | exact Nat.ne_of_gt (by k_extra "suc") | ((fail_if_success (fail_if_success refine cj2 ‹_› ?_)); exact Nat.ne_of_gt (by k_extra "pk")) | ((fail_if_success (fail_if_success refine cj1 ‹_› ?_)); exact Nat.ne_of_lt (by k_extra "pk")) | ((fail_if_success (fail_if_success refine cj3 ‹_› ?_)); k_extra "pk") | ((fail_if_success (fail_if_success refine cj4 ‹_› ?_)); k_extra "pk") | ((fail_if_success (fail_if_success refine cj5 ‹_› ?_)); exact Ne.symm (by k_extra "pk")) | ((fail_if_success (fail_if_success refine cj6 ‹_› ?_)); exact Ne.symm (by k_extra "pk")) | exact Nat.ne_of_gt ‹_› | exact Nat.ne_of_lt ‹_›) | ((show _ ∨ _); first | exact lt5_cases ‹_› | exact i5_cases ‹_› ‹_› | exact i3_cases ‹_› ‹_›) | ((show @LT.lt Nat _ _ _); first | exact ‹_› | exact sub_step ‹_› | exact sub_step1 ‹_› | k_extra "suc" | ((fail_if_success (fail_if_success refine cj7 ‹_› ?_)); k_extra "pk")) | ((show @LE.le Nat _ _ _); (try dsimp only); first | exact (by decide) | exact Nat.le_of_lt ‹_› | exact Nat.le_of_lt (by k_extra "suc") | (refine Nat.le_trans ‹_› ?_; decide) | (refine Nat.le_trans (Nat.le_of_eq (Eq.symm ‹_›)) (Nat.le_trans ‹_› ?_); decide) | exact le_s1 (by k_extra "pk") | exact len2a ‹_› ‹_› | exact len2b ‹_› ‹_›) | ((show @LE.le Int _ _ _); exact neg5) | ((show @LT.lt Int _ _ _); exact Int.ofNat_lt.mpr ‹_›)) | lia)
  k_with "my_enter" => k_dflt (first | (refine' code_def ?k1w914 ?k2w914 ?k3w914 ?k4w914 ?k5w914 ?kAw914 ?kFw914 ?kKw914 ?k6w914 ?k7w914 ?k8w914 ?k9w914 ?kBw914 ?_ ?c2w914 ?c3w914 ?c4w914 ?c5w914; (case kAw914 => exact rfl); (case kFw914 => exact rfl); (case kKw914 => assumption); (case k1w914 => k_asm); (case k2w914 => k_asm); (case k3w914 => k_asm); (case k4w914 => k_asm); (case k5w914 => k_asm); (case k6w914 => k_is); (case k7w914 => k_is); (case k8w914 => k_room); (case k9w914 => first | exact BindsTo.of_eq rfl | exact binds_K (by k_in) rfl (by k_is) rfl rfl rfl); (case c5w914 => decide); (case kBw914 => exact locs rfl); (case c2w914 => exact rfl); (case c3w914 => exact rfl); (case c4w914 => exact rfl); k_whole; intro _ _ _ _ _ N'w914 B'w914 _ _; (try dsimp only); (try k_lift B'w914); (try k_fold)) | (refine' code_defC ?k1w914 ?k2w914 ?k3w914 ?k4w914 ?k5w914 ?kAw914 ?kFw914 ?kKw914 ?k6w914 ?k7w914 ?k8w914 ?k9w914 ?kBw914 ?kDw914 ?_ ?c2w914 ?c3w914 ?c4w914; (case kAw914 => exact rfl); (case kFw914 => exact rfl); (case kKw914 => assumption); (case k1w914 => k_asm); (case k2w914 => k_asm); (case k3w914 => k_asm); (case k4w914 => k_asm); (case k5w914 => k_asm); (case k6w914 => k_is); (case k7w914 => k_is); (case k8w914 => k_room); (case k9w914 => first | exact BindsTo.of_eq rfl | exact binds_K (by k_in) rfl (by k_is) rfl rfl rfl); (case kBw914 => exact rfl); (case kDw914 => decide +kernel); (case c2w914 => exact rfl); (case c3w914 => exact rfl); (case c4w914 => exact rfl); k_whole; intro _ _ _ _ _ _ _ N'w914 Y'w914 B'w914 _ _ l1w914; (try k_lt l1w914); k_cells Y'w914; (try simp only [List.cons_append, List.nil_append] at N'w914); (try dsimp only); (try k_lift B'w914); (try k_fold)))
  k_with "my_unrolled" => (k_dflt (first | (refine LCg.CompSrc.ledger (by rfl) (by k_asm) (by k_asm) (by k_mem) (by first | size_fits | exact Nat.le_of_ble_eq_true rfl) ?_; intro _; lcg_lit) | (refine LCg.CompSrc.base (by rfl) (by k_asm) (by k_asm) ‹_› (by first | size_fits | exact Nat.le_of_ble_eq_true rfl) ?_; intro _; lcg_lit) | (refine LCg.CompSrc.range (by rfl) (by k_asm) (by k_asm) ‹_› (by first | decide | rfl) (by first | rfl | decide) (by first | size_fits | exact Nat.le_of_ble_eq_true rfl) ?_; intro _; lcg_lit)))
  k_with "my_comp" => k_dflt (refine LCg.ListComp_U (F₀ := by k_asm) (by with_unfolding_all rfl) (by decide) (by rfl) (by decide) (by rfl) ?_)
  k_with "my_compA" => k_dflt (refine LCg.Assign_ListComp_U (F₀ := by k_asm) (by rfl) (by with_unfolding_all rfl) (by with_unfolding_all rfl) (by decide) (by rfl) (by decide) (by rfl) (by rfl) (by rfl) ?_)
  k_with "CompRest" => (with_unfolding_all first | (refine LCg.CompRest.succ ?_; intro _ _ _ _ _ _ _ _ _ _ hv'w186 _ hx'w186 _ _ off'w186 _; (first | lcg_open hv'w186 | (obtain ⟨_, hv9'w186⟩ := hv'w186; subst hv9'w186; (try simp only [Int.zero_add, Int.natCast_zero, Int.natCast_one, Int.reduceAdd, Nat.reduceAdd, Int.cast_ofNat_Int] at hx'w186))); (try simp only [LCg.Off3, and_true] at off'w186)) | refine LCg.CompRest.zero ?_)
  k_with "eval ListComp" => (k_here; k_extra "my_comp")
  k_with "exec Assign cons ListComp" => (k_here; k_extra "my_compA")
  k_with "getMethod ref" => k_extra "my getMethod"
  k_with "binaryOp Add str str" => (k_here; (with_reducible show wpAny _ _ (binaryOp Operator.Add (Value.str _ _) (Value.str _ _)) _ _ _); (refine add_short (by with_reducible assumption) (by with_reducible assumption) ?_); intro _ _ _)
  k_with "call type:str" => (k_here; (with_reducible show wpAny _ _ (call (Value.type "str") [Value.int _ _]) _ _ _); (refine str_digit ‹_› ‹_› ?_); intro _ _ _)
  k_with "lex white" => (k_here; k_dflt (refine lex_white ‹_› ?_; intro _))
  k_with "truthy ref" => k_extra "my truthy"
  k_with "FnAt" => k_dflt (exact FnAt.of (by k_asm) (by k_mem))
  k_with "re method" => (k_here; k_dflt (refine re_method (by k_asm) (by k_asm) ?_; (try dsimp only)))
  k_with "re search" => (k_here; k_dflt (first | (refine re_search0 (by k_asm) (by k_asm) (by k_asm) ‹_› ‹_› ?_) | (refine re_search1 (by k_asm) (by k_asm) (by k_asm) ‹_› ‹_› ?_; intro _ _ _ _ _ _ _)))
  k_with "re truthy" => (k_here; k_dflt (refine re_truthy ‹_› ‹_› ?_))
  k_with "call builtin:re.Pattern.search" => k_extra "my search"
  k_with "run mem" => (k_extra "in run"; done)
  trivial
theorem c_hdn {x : Str} {t : Tok} {b : Nat} {news : List (Addr × Obj)}
    (B : Below A₀ base outer h₀) (F : Fr h₀ L s.heap m) (X : (hd.heap_1 w.params).In h₀) (N : News h₀ L s.heap news) (T : Top topProg loose mean mg mb h₀) (hk : cs.kind = .function) (h1 : dp ≤ 328) (h2 : un ≤ 180) (hx : reHit x = b) (hb : b ≤ 1) (hz : x.length ≤ 1000)
    (ret : ∀ v h' tk', v = hdn x → Fr h₀ L h' m → News h₀ L h' news → Q (.bool v) { s with heap := h', toks := tk' }) :
    wpAny (model PySem.Challenge.rw_xo0026_01.row.prog w) (ktrTop dp un gd cn cs L a ccd cl outer) (call (.ref 43) [.str x t]) Q E s := by
  refine lift h1 h2 ?_
  revert X; k_fill; intro X
  refine wpAny_call ?_
  k_with "my getMethod" => k_extra "re method"
  k_with "my search" => k_extra "re search"
  k_with "my truthy" => k_extra "re truthy"
  have hb' : b = 0 ∨ b = 1 := by omega
  rcases hb' with rfl | rfl
  all_goals
    k_extra "my_enter"
    k_steps
  all_goals (refine ret _ _ _ ?_ ‹_› ‹_›; simp only [hdn, *]; first | rfl | simp)
end
noncomputable def rest1 (x : Str) : Str := Txt.slice x (some (Txt.find x (Str.ofString ".") + 1)) none
noncomputable def reachF (x : Str) : Str := if 0 ≤ Txt.find x (Str.ofString ".") then (if hdn x = true then (if 0 ≤ Txt.find (rest1 x) (Str.ofString ".") then Str.ofString "." ++ rest1 x else if (rest1 x == Str.ofString "local") = true then Str.ofString "." ++ rest1 x else x) else x) else x
section
variable {mg mb : Str → Option Value} {mean : ExcName → Option Value} {loose : List Str} {dp un : Nat} {gd : Option (List Code)} {cn : Str} {cs : Scope} {a : Addr} {ccd : Value} {cl : List (Str × Addr)} {outer : List Env} {A₀ : Around} {base h₀ : Heap} {L : Addr} {m : Str → Option Value} {s : Shared} {Q E : Value → Shared → Prop}
theorem off_reach_1 : True := by
  w_top off
  k_with "call ref" => k_extra "my call"
  k_with "call hdn" => (k_here; k_dflt (refine' c_hdn ?Bw471 ?Fw471 ?Xw471 ?Nw471 ?Tw471 ?hkw471 ?h1w471 ?h2w471 ?hxw471 ?hbw471 ?hzw471 ?_; (case Bw471 => k_asm); (case Fw471 => k_asm); (case Xw471 => k_asm); (case Nw471 => k_asm); (case Tw471 => k_asm); (case hkw471 => exact rfl); (case h1w471 => exact Nat.le_of_ble_eq_true rfl); (case h2w471 => exact Nat.le_of_ble_eq_true rfl); (case hxw471 => assumption); (case hbw471 => assumption); (case hzw471 => assumption); ((k_whole; intro _ _ _ e'w471 _ _; subst e'w471; (try k_sweep)))))
  trivial
theorem c_reach {x : Str} {t : Tok} {b : Nat} {news : List (Addr × Obj)}
    (B : Below A₀ base outer h₀) (F : Fr h₀ L s.heap m) (X : (hd.heap_1 w.params).In h₀) (N : News h₀ L s.heap news) (T : Top topProg loose mean mg mb h₀) (hk : cs.kind = .function) (h1 : dp ≤ 324) (h2 : un ≤ 150) (hx : reHit x = b) (hb : b ≤ 1) (hz : x.length ≤ 1000)
    (ret : ∀ v t' h' tk', v = reachF x → Fr h₀ L h' m → News h₀ L h' news → Q (.str v t') { s with heap := h', toks := tk' }) :
    wpAny (model PySem.Challenge.rw_xo0026_01.row.prog w) (ktrTop dp un gd cn cs L a ccd cl outer) (call (.ref 50) [.str x t]) Q E s := by
  refine lift h1 h2 ?_
  revert X; k_fill; intro X
  refine wpAny_call ?_
  k_with "my call" => k_extra "call hdn"
  k_extra "my_enter"
  k_steps
  all_goals (refine ret _ _ _ _ ?_ ‹_› ‹_›; simp only [reachF, rest1, *]; first | rfl | simp)
end
noncomputable def qtext (x : Str) : Str := Str.ofString "{" ++ x ++ Str.ofString "}" ++ Str.ofString "host"
noncomputable abbrev qD (w : World) (t1 t2 : Tok) (x : Str) : List DictEntry := [{ hash := PyData.keyHash w.params (Str.ofString "text"), key := .str (Str.ofString "text") t1, val := .str (qtext x) t2 }]
section
variable {mg mb : Str → Option Value} {mean : ExcName → Option Value} {loose : List Str} {dp un : Nat} {gd : Option (List Code)} {cn : Str} {cs : Scope} {a : Addr} {ccd : Value} {cl : List (Str × Addr)} {outer : List Env} {A₀ : Around} {base h₀ : Heap} {L : Addr} {m : Str → Option Value} {s : Shared} {Q E : Value → Shared → Prop}
theorem off_qname_1 : True := by
  w_top off
  k_with_none
  k_with "subl" => ((repeat' (first | refine List.forall_mem_cons.mpr ⟨by (repeat (first | exact List.Mem.head _ | refine List.Mem.tail _ ?_ | refine List.mem_append_right _ ?_)), ?_⟩ | refine List.forall_mem_append.mpr ⟨?_, ?_⟩)); all_goals (intro _ hpw219; (repeat (first | exact hpw219 | refine List.Mem.tail _ ?_ | exact List.mem_append_left _ hpw219 | refine List.mem_append_right _ ?_))))
  k_with "pk" => (with_reducible first | exact pk1 ‹_› | exact pk2 ‹_› | exact pk3 ‹_› | exact pk4 ‹_› | exact pk5 ‹_› | exact pk6 ‹_› | exact pk7 ‹_› | exact pk8 ‹_› | exact pk9 ‹_› | exact pk10 ‹_› | exact pk11 ‹_› | exact pk12 ‹_› | exact pk13 ‹_› | exact pk14 ‹_› | exact pl2 ‹_› | exact pl3 ‹_› | exact pl4 ‹_› | exact pl5 ‹_› | exact pl6 ‹_› | exact pl7 ‹_›)
  k_with "suc" => (with_reducible first | exact lts1 | exact lts2 | exact lts3 | exact lts4 | exact lts5 | exact lts6 | exact lts7)
  k_with "hop" => (with_reducible first | exact ‹_› | k_extra "pk" | (refine Nat.lt_trans ?_ (by first | assumption | k_extra "pk"); k_extra "hop"))
  k_with "om" => (first | (with_reducible first | ((show @Ne Nat _ _); (try dsimp only); first | exact ‹_› | exact Ne.symm ‹_› | exact Nat.ne_of_lt (by k_extra "suc") | exact Nat.ne_of_gt (by k_extra "suc") | ((fail_if_success (fail_if_success refine cj2 ‹_› ?_)); exact Nat.ne_of_gt (by k_extra "pk")) | ((fail_if_success (fail_if_success refine cj1 ‹_› ?_)); exact Nat.ne_of_lt (by k_extra "pk")) | ((fail_if_success (fail_if_success refine cj3 ‹_› ?_)); k_extra "pk") | ((fail_if_success (fail_if_success refine cj4 ‹_› ?_)); k_extra "pk") | ((fail_if_success (fail_if_success refine cj5 ‹_› ?_)); exact Ne.symm (by k_extra "pk")) | ((fail_if_success (fail_if_success refine cj6 ‹_› ?_)); exact Ne.symm (by k_extra "pk")) | exact Nat.ne_of_gt ‹_› | exact Nat.ne_of_lt ‹_›) | ((show _ ∨ _); first | exact lt5_cases ‹_› | exact i5_cases ‹_› ‹_› | exact i3_cases ‹_› ‹_›) | ((show @LT.lt Nat _ _ _); first | exact ‹_› | exact sub_step ‹_› | exact sub_step1 ‹_› | k_extra "suc" | ((fail_if_success (fail_if_success refine cj7 ‹_› ?_)); k_extra "pk")) | ((show @LE.le Nat _ _ _); (try dsimp only); first | exact (by decide) | exact Nat.le_of_lt ‹_› | exact Nat.le_of_lt (by k_extra "suc") | (refine Nat.le_trans ‹_› ?_; decide) | (refine Nat.le_trans (Nat.le_of_eq (Eq.symm ‹_›)) (Nat.le_trans ‹_› ?_); decide) | exact le_s1 (by k_extra "pk") | exact len2a ‹_› ‹_› | exact len2b ‹_› ‹_›) | ((show @LE.le Int _ _ _); exact neg5) | ((show @LT.lt Int _ _ _); exact Int.ofNat_lt.mpr ‹_›)) | lia)
  k_with "my_enter" => k_dflt (first | (refine' code_def ?k1w914 ?k2w914 ?k3w914 ?k4w914 ?k5w914 ?kAw914 ?kFw914 ?kKw914 ?k6w914 ?k7w914 ?k8w914 ?k9w914 ?kBw914 ?_ ?c2w914 ?c3w914 ?c4w914 ?c5w914; (case kAw914 => exact rfl); (case kFw914 => exact rfl); (case kKw914 => assumption); (case k1w914 => k_asm); (case k2w914 => k_asm); (case k3w914 => k_asm); (case k4w914 => k_asm); (case k5w914 => k_asm); (case k6w914 => k_is); (case k7w914 => k_is); (case k8w914 => k_room); (case k9w914 => first | exact BindsTo.of_eq rfl | exact binds_K (by k_in) rfl (by k_is) rfl rfl rfl); (case c5w914 => decide); (case kBw914 => exact locs rfl); (case c2w914 => exact rfl); (case c3w914 => exact rfl); (case c4w914 => exact rfl); k_whole; intro _ _ _ _ _ N'w914 B'w914 _ _; (try dsimp only); (try k_lift B'w914); (try k_fold)) | (refine' code_defC ?k1w914 ?k2w914 ?k3w914 ?k4w914 ?k5w914 ?kAw914 ?kFw914 ?kKw914 ?k6w914 ?k7w914 ?k8w914 ?k9w914 ?kBw914 ?kDw914 ?_ ?c2w914 ?c3w914 ?c4w914; (case kAw914 => exact rfl); (case kFw914 => exact rfl); (case kKw914 => assumption); (case k1w914 => k_asm); (case k2w914 => k_asm); (case k3w914 => k_asm); (case k4w914 => k_asm); (case k5w914 => k_asm); (case k6w914 => k_is); (case k7w914 => k_is); (case k8w914 => k_room); (case k9w914 => first | exact BindsTo.of_eq rfl | exact binds_K (by k_in) rfl (by k_is) rfl rfl rfl); (case kBw914 => exact rfl); (case kDw914 => decide +kernel); (case c2w914 => exact rfl); (case c3w914 => exact rfl); (case c4w914 => exact rfl); k_whole; intro _ _ _ _ _ _ _ N'w914 Y'w914 B'w914 _ _ l1w914; (try k_lt l1w914); k_cells Y'w914; (try simp only [List.cons_append, List.nil_append] at N'w914); (try dsimp only); (try k_lift B'w914); (try k_fold)))
  k_with "my_unrolled" => (k_dflt (first | (refine LCg.CompSrc.ledger (by rfl) (by k_asm) (by k_asm) (by k_mem) (by first | size_fits | exact Nat.le_of_ble_eq_true rfl) ?_; intro _; lcg_lit) | (refine LCg.CompSrc.base (by rfl) (by k_asm) (by k_asm) ‹_› (by first | size_fits | exact Nat.le_of_ble_eq_true rfl) ?_; intro _; lcg_lit) | (refine LCg.CompSrc.range (by rfl) (by k_asm) (by k_asm) ‹_› (by first | decide | rfl) (by first | rfl | decide) (by first | size_fits | exact Nat.le_of_ble_eq_true rfl) ?_; intro _; lcg_lit)))
  k_with "my_comp" => k_dflt (refine LCg.ListComp_U (F₀ := by k_asm) (by with_unfolding_all rfl) (by decide) (by rfl) (by decide) (by rfl) ?_)
  k_with "my_compA" => k_dflt (refine LCg.Assign_ListComp_U (F₀ := by k_asm) (by rfl) (by with_unfolding_all rfl) (by with_unfolding_all rfl) (by decide) (by rfl) (by decide) (by rfl) (by rfl) (by rfl) ?_)
  k_with "CompRest" => (with_unfolding_all first | (refine LCg.CompRest.succ ?_; intro _ _ _ _ _ _ _ _ _ _ hv'w186 _ hx'w186 _ _ off'w186 _; (first | lcg_open hv'w186 | (obtain ⟨_, hv9'w186⟩ := hv'w186; subst hv9'w186; (try simp only [Int.zero_add, Int.natCast_zero, Int.natCast_one, Int.reduceAdd, Nat.reduceAdd, Int.cast_ofNat_Int] at hx'w186))); (try simp only [LCg.Off3, and_true] at off'w186)) | refine LCg.CompRest.zero ?_)
  k_with "eval ListComp" => (k_here; k_extra "my_comp")
  k_with "exec Assign cons ListComp" => (k_here; k_extra "my_compA")
  k_with "binaryOp Add str str" => (k_here; (with_reducible show wpAny _ _ (binaryOp Operator.Add (Value.str _ _) (Value.str _ _)) _ _ _); (refine add_short (by with_reducible assumption) (by with_reducible assumption) ?_); intro _ _ _)
  k_with "call type:str" => (k_here; (with_reducible show wpAny _ _ (call (Value.type "str") [Value.int _ _]) _ _ _); (refine str_digit ‹_› ‹_› ?_); intro _ _ _)
  k_with "lex white" => (k_here; k_dflt (refine lex_white ‹_› ?_; intro _))
  k_with "FnAt" => k_dflt (exact FnAt.of (by k_asm) (by k_mem))
  k_with "run mem" => (k_extra "in run"; done)
  trivial
theorem c_qname {x : Str} {t t2 : Tok} {news : List (Addr × Obj)}
    (B : Below A₀ base outer h₀) (F : Fr h₀ L s.heap m) (X : (hd.heap_1 w.params).In h₀) (N : News h₀ L s.heap news) (T : Top topProg loose mean mg mb h₀) (hk : cs.kind = .function) (h1 : dp ≤ 324) (h2 : un ≤ 150) (hz : x.length ≤ 1000)
    (ret : ∀ q dq t1 t2 h' tk', Fr h₀ L h' m → News h₀ L h' ((q, instObj 208 dq) :: (dq, dictOf (qD w t1 t2 x) 1) :: news) → AllLt dq news → @LT.lt Nat _ dq q → Q (.ref q) { s with heap := h', toks := tk' }) :
    wpAny (model PySem.Challenge.rw_xo0026_01.row.prog w) (ktrTop dp un gd cn cs L a ccd cl outer) (call (.ref 208) [.str x t, .str (Str.ofString "host") t2]) Q E s := by
  refine lift h1 h2 ?_
  revert X; k_fill; intro X
  refine' call_cls ?k1 ?k2 ?k3 ?k4 ?k5 ?k6 ?_
  case k1 => k_asm
  case k2 => k_asm
  case k3 => k_asm
  case k4 => k_is
  case k5 => k_is
  case k6 => k_is
  intro x' d' h' F' N' l1 l2
  replace l1 := allLt_of l1
  (try k_lt2 l2)
  k_extra "my_enter"
  k_steps
  exact ret _ _ _ _ _ _ ‹_› ‹_› l1 l2
end
section
variable {prog : Program} {A : Around} {E : Value → Shared → Prop} {s : Shared} {env : Env} {h₀ : Heap} {xk xv : Str} {body : List Stmt} {Q : Flow → Shared → Prop}
theorem pair_loopG {I : Addr} {fp : List Addr} {n : Nat} {Pt : Nat → Array Value → Prop} {St : Nat → Heap → Prop} {Mid : Nat → Addr → Heap → Prop} {P : Nat → Value → Value → Prop} {m₀ : Str → Option Value} {news : List (Addr × Obj)}
    (W : WalksU prog w A I fp [I] n Pt St Mid) (J : Nat → (Str → Option Value) → List (Addr × Obj) → Prop) (GB : Array GenState → Prop) (hGB : GB s.gens)
    (hh : A.handled = none) (hxk : env.kindOf xk = some .local) (hxv : env.kindOf xv = some .local) (hp : (env.scope.kind == .class || (env.scope.kind == .module && env.locals != env.globals)) = false)
    (hPt : ∀ i vals, Pt i vals → ∃ a b, vals = #[a, b] ∧ P i a b) (hI : ∀ i h, St i h → ∃ o, h.get? I = some o) (hIL : I ≠ env.locals) (hI0 : h₀.get? I = none)
    (hJm : ∀ b ∈ fp, b ≠ I → ∃ o, ∀ i m₁ news₁, J i m₁ news₁ → (b, o) ∈ news₁)
    (hst : St 0 s.heap) (F : Fr h₀ env.locals s.heap m₀) (N : News h₀ env.locals s.heap news) (hn : ∀ p ∈ news, p.1 ≠ I) (hj : J 0 m₀ news)
    (turn : ∀ (i : Nat) a b m₁ news₁ h tk gs oI, GB gs → i < n → P i a b → J i m₁ news₁ → (∀ p ∈ news₁, p.1 ≠ I) → Fr h₀ env.locals h (fun y => if y = xv then some b else if y = xk then some a else m₁ y) → News h₀ env.locals h ((I, oI) :: news₁) →
      wpAny (model prog w) A (execs body env) (TurnG GB h₀ env.locals (J (i + 1)) I oI { s with heap := h, toks := tk, gens := gs } Q) (notedBy (model prog w) A env fun e s' => cameBackBy (model prog w) A env E e s') { s with heap := h, toks := tk, gens := gs })
    (done : ∀ m₁ news₁ h tk gs, GB gs → J n m₁ news₁ → Fr h₀ env.locals h m₁ → News h₀ env.locals h news₁ → Q .next { s with heap := h, toks := tk, gens := gs }) :
    PairLoopAt prog w A h₀ env xk xv body Q E (.ref I) s := by
  intro pk pv pt x1
  refine codeAny_forLoop_any (LoopG GB h₀ env.locals J I St n s) ?_ n (.mk s.heap s.toks s.gens m₀ news 0 hGB hst F N hn hj (Nat.zero_le _) rfl)
  intro k s' hL
  k_fold
  obtain ⟨h, tk, gs, m', news', i, gb, st, F', N', off, hJ, hi, rfl⟩ := hL
  by_cases hin : i < n
  · refine W.item i _ _ _ hin st fun T vals h₁ tk₁ hPv hT hM hk₁ => ?_
    refine W.go _ _ _ i T _ _ _ hM fun h₂ st₂ hk₂ => ?_
    obtain ⟨a, b, rfl, hab⟩ := hPt i _ hPv
    have hT₂ : h₂.IsTuple T #[a, b] := hT.at fun o x => hk₂ T o (W.apart i T _ hM) x
    refine wpAny_assign_Tuple hh hT₂ rfl rfl fun h₃ hx₃ => ?_
    obtain ⟨F₂, N₂⟩ := keepG (h' := h₂) hIL hI0 F' N' off fun b o hb e => hk₂ b o hb (hk₁ b o hb e)
    have F₃ := F₂.extBut hx₃ (Nat.le_refl _)
    have N₃ := N₂.extBut hx₃ (Nat.le_refl _)
    refine wpAny_bind (wpAny_holding (wpAny_assign_Name (wpAny_storeName_local hxk F₃.ns (fun h₄ hn₄ hs₄ => ?_) hp)))
    replace hs₄ : Heap.SameBut env.locals h₃ h₄ := hs₄
    have F₄ := F₃.set hn₄ hs₄
    refine wpAny_bind (wpAny_holding (wpAny_assign_Name (wpAny_storeName_local hxv F₄.ns (fun h₅ hn₅ hs₅ => wpAny_pure ?_) hp)))
    replace hs₅ : Heap.SameBut env.locals h₄ h₅ := hs₅
    obtain ⟨oI, hoI⟩ := hI _ _ st₂
    have hoI₅ : h₅.get? I = some oI := (hs₅.2 I hIL).trans ((hs₄.2 I hIL).trans (hx₃ I oI (Nat.ne_of_lt (Heap.lt_size hoI)) hoI))
    refine wpAny_mono (turn i a b m' news' h₅ _ gs oI gb hin hab hJ off (F₄.set hn₅ hs₅) (List.forall_mem_cons.mpr ⟨⟨hoI₅, hIL, hI0⟩, (N₃.set hs₄).set hs₅⟩)) (fun f s₃ q => ?_) fun _ _ e => e
    cases f with
    | next => exact BackG.step (fun h6 => W.frame (i + 1) h₂ h6 st₂) hoI N₂ hJ hJm hin q
    | cont => exact BackG.step (fun h6 => W.frame (i + 1) h₂ h6 st₂) hoI N₂ hJ hJm hin q
    | brk => exact q
    | ret v => exact q
  · rw [Nat.le_antisymm hi (Nat.not_lt.mp hin)] at st hJ
    refine W.done _ _ _ st fun h₁ tk₁ hk₁ => wpAny_execs_nil ?_
    obtain ⟨F₂, N₂⟩ := keepG hIL hI0 F' N' off hk₁
    exact done m' news' h₁ tk₁ gs gb hJ F₂ N₂
theorem pair_loop {I : Addr} {fp : List Addr} {n : Nat} {Pt : Nat → Array Value → Prop} {St : Nat → Heap → Prop} {Mid : Nat → Addr → Heap → Prop} {P : Nat → Value → Value → Prop} {m₀ : Str → Option Value} {news : List (Addr × Obj)}
    (W : WalksU prog w A I fp [I] n Pt St Mid) (J : Nat → (Str → Option Value) → List (Addr × Obj) → Prop)
    (hh : A.handled = none) (hxk : env.kindOf xk = some .local) (hxv : env.kindOf xv = some .local) (hp : (env.scope.kind == .class || (env.scope.kind == .module && env.locals != env.globals)) = false)
    (hPt : ∀ i vals, Pt i vals → ∃ a b, vals = #[a, b] ∧ P i a b) (hI : ∀ i h, St i h → ∃ o, h.get? I = some o) (hIL : I ≠ env.locals) (hI0 : h₀.get? I = none)
    (hJm : ∀ b ∈ fp, b ≠ I → ∃ o, ∀ i m₁ news₁, J i m₁ news₁ → (b, o) ∈ news₁)
    (hst : St 0 s.heap) (F : Fr h₀ env.locals s.heap m₀) (N : News h₀ env.locals s.heap news) (hn : ∀ p ∈ news, p.1 ≠ I) (hj : J 0 m₀ news)
    (turn : ∀ (i : Nat) a b m₁ news₁ h tk oI, i < n → P i a b → J i m₁ news₁ → (∀ p ∈ news₁, p.1 ≠ I) → Fr h₀ env.locals h (fun y => if y = xv then some b else if y = xk then some a else m₁ y) → News h₀ env.locals h ((I, oI) :: news₁) →
      wpAny (model prog w) A (execs body env) (TurnJ h₀ env.locals (J (i + 1)) I oI { s with heap := h, toks := tk } Q) (notedBy (model prog w) A env fun e s' => cameBackBy (model prog w) A env E e s') { s with heap := h, toks := tk })
    (done : ∀ m₁ news₁ h tk, J n m₁ news₁ → Fr h₀ env.locals h m₁ → News h₀ env.locals h news₁ → Q .next { s with heap := h, toks := tk }) :
    PairLoopAt prog w A h₀ env xk xv body Q E (.ref I) s :=
  pair_loopG W J (fun gs => gs = s.gens) rfl hh hxk hxv hp hPt hI hIL hI0 hJm hst F N hn hj (fun i a b m₁ news₁ h tk gs oI gb hi hP hJ off F' N' => by cases gb; exact turn i a b m₁ news₁ h tk oI hi hP hJ off F' N') (fun m₁ news₁ h tk gs gb hJ F' N' => by cases gb; exact done m₁ news₁ h tk hJ F' N')
end
theorem TurnJ.ret {h₀ : Heap} {L : Addr} {Jn : (Str → Option Value) → List (Addr × Obj) → Prop} {I : Addr} {oI : Obj} {s₁ s : Shared} {Q : Flow → Shared → Prop} {v : Value} (h : Q (.ret v) s) : TurnJ h₀ L Jn I oI s₁ Q (.ret v) s := h
section
variable {prog : Program} {A : Around} {E : Value → Shared → Prop} {s : Shared} {env : Env} {h₀ : Heap} {body : List Stmt} {Q : Flow → Shared → Prop}
noncomputable def SelJ (m₀ : Str → Option Value) (news : List (Addr × Obj)) (G1 G2 : Prop) (i : Nat) (m' : Str → Option Value) (news' : List (Addr × Obj)) : Prop :=
  news' = news ∧ (∀ y : Str, y ≠ "index" → y ≠ "direction" → y ≠ "l" → y ≠ "r" → m' y = m₀ y) ∧ (0 < i → G1) ∧ (1 < i → G2)
theorem sel_map {m₀ m' : Str → Option Value} {a b : Option Value} (h : ∀ y : Str, y ≠ "index" → y ≠ "direction" → y ≠ "l" → y ≠ "r" → m' y = m₀ y) :
    (fun y : Str => if y = "direction" then b else if y = "index" then a else m' y) = fun y : Str => if y = "direction" then b else if y = "index" then a else if y = "l" then m' "l" else if y = "r" then m' "r" else m₀ y := by
  funext y
  by_cases h1 : y = "direction"
  · rw [if_pos h1, if_pos h1]
  by_cases h2 : y = "index"
  · rw [if_neg h1, if_neg h1, if_pos h2, if_pos h2]
  by_cases h3 : y = "l"
  · rw [if_neg h1, if_neg h1, if_neg h2, if_neg h2, if_pos h3, h3]
  by_cases h4 : y = "r"
  · rw [if_neg h1, if_neg h1, if_neg h2, if_neg h2, if_neg h3, if_pos h4, h4]
  · rw [if_neg h1, if_neg h1, if_neg h2, if_neg h2, if_neg h3, if_neg h4, h y h2 h1 h3 h4]
theorem sel_loop {ax T1 T2 : Addr} {nD : Nat} {a1 b1 a2 b2 : Value} {m₀ : Str → Option Value} {news : List (Addr × Obj)} (G1 G2 : Prop)
    (hh : A.handled = none) (hxk : env.kindOf "index" = some .local) (hxv : env.kindOf "direction" = some .local) (hp : (env.scope.kind == .class || (env.scope.kind == .module && env.locals != env.globals)) = false)
    (hm : (ax, PySem.W.listOf (List.toArray [.ref T1, .ref T2]) nD) ∈ news) (hT1 : (T1, ({ cls := .type "tuple", data := .seq (List.toArray [a1, b1]) } : Obj)) ∈ news) (hT2 : (T2, ({ cls := .type "tuple", data := .seq (List.toArray [a2, b2]) } : Obj)) ∈ news)
    (F : Fr h₀ env.locals s.heap m₀) (N : News h₀ env.locals s.heap news)
    (turn1 : ∀ h tk I oI lv rv, (∀ p ∈ news, p.1 ≠ I) → Fr h₀ env.locals h (fun y : Str => if y = "direction" then some b1 else if y = "index" then some a1 else if y = "l" then lv else if y = "r" then rv else m₀ y) → News h₀ env.locals h ((I, oI) :: news) →
      wpAny (model prog w) A (execs body env) (TurnJ h₀ env.locals (SelJ m₀ news G1 G2 1) I oI { s with heap := h, toks := tk } Q) (notedBy (model prog w) A env fun e s' => cameBackBy (model prog w) A env E e s') { s with heap := h, toks := tk })
    (turn2 : ∀ h tk I oI lv rv, G1 → (∀ p ∈ news, p.1 ≠ I) → Fr h₀ env.locals h (fun y : Str => if y = "direction" then some b2 else if y = "index" then some a2 else if y = "l" then lv else if y = "r" then rv else m₀ y) → News h₀ env.locals h ((I, oI) :: news) →
      wpAny (model prog w) A (execs body env) (TurnJ h₀ env.locals (SelJ m₀ news G1 G2 2) I oI { s with heap := h, toks := tk } Q) (notedBy (model prog w) A env fun e s' => cameBackBy (model prog w) A env E e s') { s with heap := h, toks := tk })
    (done : ∀ m' h tk, G1 → G2 → Fr h₀ env.locals h m' → News h₀ env.locals h news → Q .next { s with heap := h, toks := tk }) :
    wpAny (model prog w) A (pyIter (.ref ax)) (fun it s₂ => PairLoopAt prog w A h₀ env "index" "direction" body Q E it s₂) E s := by
  have hls : s.heap.IsList ax (List.toArray [.ref T1, .ref T2]) := ⟨_, (N _ hm).1, rfl, nD, rfl⟩
  have hlt : ∀ p ∈ news, p.1 ≠ s.heap.objs.size := fun p hp => Nat.ne_of_lt (Heap.lt_size (N p hp).1)
  refine wpAny_pyIter_list hls ?_
  have W := WalksU.listOfTuples (prog := prog) (w := w) hh s.heap.objs.size ax (hlt _ hm) (List.toArray [.ref T1, .ref T2]) (fun j => if j = 0 then T1 else T2) (fun j => if j = 0 then (List.toArray [a1, b1]) else (List.toArray [a2, b2]))
    (fun j hj => by
      have : j = 0 ∨ j = 1 := by simp at hj; omega
      rcases this with rfl | rfl <;> rfl)
    (fun j hj => by
      split
      · exact hlt _ hT1
      · exact hlt _ hT2)
  have hsz : (List.toArray [Value.ref T1, Value.ref T2]).size = 2 := rfl
  rw [hsz] at W
  refine pair_loop (P := fun i a b => i = 0 ∧ a = a1 ∧ b = b1 ∨ i ≠ 0 ∧ a = a2 ∧ b = b2) W (SelJ m₀ news G1 G2) hh hxk hxv hp ?_ ?_ ?_ ?_ ?_ ⟨⟨_, Heap.get?_push_size _ rfl, rfl, rfl⟩, hls.at fun o e => Heap.get?_push_of_some _ e, ?_⟩ (F.push _) (fun p hp => ⟨Heap.get?_push_of_some _ (N p hp).1, (N p hp).2⟩) hlt ⟨rfl, fun _ _ _ _ _ => rfl, fun h => absurd h (by decide), fun h => absurd h (by decide)⟩ ?_ ?_
  · intro i vals e
    by_cases h0 : i = 0
    · rw [if_pos h0] at e; exact ⟨a1, b1, e, .inl ⟨h0, rfl, rfl⟩⟩
    · rw [if_neg h0] at e; exact ⟨a2, b2, e, .inr ⟨h0, rfl, rfl⟩⟩
  · rintro i h ⟨⟨o, ho, _⟩, _⟩; exact ⟨o, ho⟩
  · intro e; exact absurd F.ns.lt (e ▸ Nat.lt_irrefl _)
  · exact next_is_new F
  · intro b hb hbI
    rcases List.mem_cons.mp hb with e | hb
    · exact absurd e hbI
    rcases List.mem_cons.mp hb with rfl | hb
    · exact ⟨_, fun i m₁ news₁ hJ => hJ.1 ▸ hm⟩
    · obtain ⟨j, hj, rfl⟩ := List.mem_map.mp hb
      show ∃ o, ∀ i m₁ news₁, _ → ((if j = 0 then T1 else T2), o) ∈ news₁
      split
      · exact ⟨_, fun i m₁ news₁ hJ => hJ.1 ▸ hT1⟩
      · exact ⟨_, fun i m₁ news₁ hJ => hJ.1 ▸ hT2⟩
  · intro k hk
    have hk' : k < 2 := hk
    have : k = 0 ∨ k = 1 := by omega
    rcases this with rfl | rfl
    · exact ⟨_, Heap.get?_push_of_some _ (N _ hT1).1, rfl, _, rfl⟩
    · exact ⟨_, Heap.get?_push_of_some _ (N _ hT2).1, rfl, _, rfl⟩
  · rintro i a b m₁ news₁ h tk oI hi hab ⟨rfl, hmap, g1, g2⟩ off F' N'
    rw [sel_map hmap] at F'
    have : i = 0 ∨ i = 1 := by omega
    rcases this with rfl | rfl
    · rcases hab with ⟨_, rfl, rfl⟩ | ⟨e, _⟩
      · exact turn1 h tk _ oI _ _ off F' N'
      · exact absurd rfl e
    · rcases hab with ⟨e, _⟩ | ⟨_, rfl, rfl⟩
      · cases e
      · exact turn2 h tk _ oI _ _ (g1 (by decide)) off F' N'
  · rintro m₁ news₁ h tk ⟨rfl, hmap, g1, g2⟩ F' N'
    exact done m₁ h tk (g1 (by decide)) (g2 (by decide)) F' N'
theorem sel_next {m₀ m' : Str → Option Value} {news : List (Addr × Obj)} {G1 G2 : Prop} {i : Nat} {I : Addr} {oI : Obj} {h : Heap} {tk : Nat} (F : Fr h₀ env.locals h m') (N : News h₀ env.locals h ((I, oI) :: news)) (off : ∀ p ∈ news, p.1 ≠ I)
    (hm : ∀ y : Str, y ≠ "index" → y ≠ "direction" → y ≠ "l" → y ≠ "r" → m' y = m₀ y) (g1 : 0 < i → G1) (g2 : 1 < i → G2) : TurnJ h₀ env.locals (SelJ m₀ news G1 G2 i) I oI s Q .next { s with heap := h, toks := tk } :=
  TurnJ.next F N off ⟨rfl, hm, g1, g2⟩
end
theorem For_pairF {prog : Program} {A : Around} {E : Value → Shared → Prop} {s : Shared} {env : Env} {h₀ : Heap} {L : Addr} {m : Str → Option Value} {Q : Flow → Shared → Prop} {xk xv : Str} {pk pv pt pos : Pos} {x1 : Nat} {iter : Expr} {body : List Stmt} (F : Fr h₀ L s.heap m)
    (h : wpAny (model prog w) A (eval iter env) (fun xvl s₁ => wpAny (model prog w) A (pyIter xvl) (fun it s₂ => PairLoopAt prog w A h₀ env xk xv body Q E it s₂) E s₁) E s)
    (hs : ∀ x, foldedSetIterable iter env x = pure x := by intro _; rfl) :
    wpAny (model prog w) A (exec (.For (.Tuple [.Name xk pk, .Name xv pv] x1 pt) iter body [] pos) env) Q E s := For_pair_inv h₀ h hs
noncomputable abbrev selD (w : World) (t1 : Tok) (D : Addr) : List DictEntry := [{ hash := PyData.keyHash w.params (Str.ofString "comp_select_list"), key := .str (Str.ofString "comp_select_list") t1, val := .ref D }]
noncomputable abbrev ltS (x y : Str) : Prop := (qtext x).cps.toList < (qtext y).cps.toList
noncomputable def cmpA (x1 x2 : Str) (v1 v2 w1 w2 : Int) : Int := if ltS x1 x2 then -w1 else if ltS x2 x1 then w1 else if v1 < v2 then -w2 else if v2 < v1 then w2 else 0
noncomputable def cmpB (x1 x2 : Str) (v1 v2 w1 w2 : Int) : Int := if v1 < v2 then -w1 else if v2 < v1 then w1 else if ltS x1 x2 then -w2 else if ltS x2 x1 then w2 else 0
section
variable {mg mb : Str → Option Value} {mean : ExcName → Option Value} {loose : List Str} {dp un : Nat} {gd : Option (List Code)} {cn : Str} {cs : Scope} {a : Addr} {ccd : Value} {cl : List (Str × Addr)} {outer : List Env} {A₀ : Around} {base h₀ : Heap} {L : Addr} {m : Str → Option Value} {s : Shared} {Q E : Value → Shared → Prop}
theorem off_compare_1 : True := by
  w_top off
  k_with_none
  k_with "subl" => ((repeat' (first | refine List.forall_mem_cons.mpr ⟨by (repeat (first | exact List.Mem.head _ | refine List.Mem.tail _ ?_ | refine List.mem_append_right _ ?_)), ?_⟩ | refine List.forall_mem_append.mpr ⟨?_, ?_⟩)); all_goals (intro _ hpw219; (repeat (first | exact hpw219 | refine List.Mem.tail _ ?_ | exact List.mem_append_left _ hpw219 | refine List.mem_append_right _ ?_))))
  k_with "pk" => (with_reducible first | exact pk1 ‹_› | exact pk2 ‹_› | exact pk3 ‹_› | exact pk4 ‹_› | exact pk5 ‹_› | exact pk6 ‹_› | exact pk7 ‹_› | exact pk8 ‹_› | exact pk9 ‹_› | exact pk10 ‹_› | exact pk11 ‹_› | exact pk12 ‹_› | exact pk13 ‹_› | exact pk14 ‹_› | exact pl2 ‹_› | exact pl3 ‹_› | exact pl4 ‹_› | exact pl5 ‹_› | exact pl6 ‹_› | exact pl7 ‹_›)
  k_with "suc" => (with_reducible first | exact lts1 | exact lts2 | exact lts3 | exact lts4 | exact lts5 | exact lts6 | exact lts7)
  k_with "hop" => (with_reducible first | exact ‹_› | k_extra "pk" | (refine Nat.lt_trans ?_ (by first | assumption | k_extra "pk"); k_extra "hop"))
  k_with "om" => (first | (with_reducible first | ((show @Ne Nat _ _); (try dsimp only); first | exact ‹_› | exact Ne.symm ‹_› | exact Nat.ne_of_lt (by k_extra "suc") | exact Nat.ne_of_gt (by k_extra "suc") | ((fail_if_success (fail_if_success refine cj2 ‹_› ?_)); exact Nat.ne_of_gt (by k_extra "pk")) | ((fail_if_success (fail_if_success refine cj1 ‹_› ?_)); exact Nat.ne_of_lt (by k_extra "pk")) | ((fail_if_success (fail_if_success refine cj3 ‹_› ?_)); k_extra "pk") | ((fail_if_success (fail_if_success refine cj4 ‹_› ?_)); k_extra "pk") | ((fail_if_success (fail_if_success refine cj5 ‹_› ?_)); exact Ne.symm (by k_extra "pk")) | ((fail_if_success (fail_if_success refine cj6 ‹_› ?_)); exact Ne.symm (by k_extra "pk")) | exact Nat.ne_of_gt ‹_› | exact Nat.ne_of_lt ‹_›) | ((show _ ∨ _); first | exact lt5_cases ‹_› | exact i5_cases ‹_› ‹_› | exact i3_cases ‹_› ‹_›) | ((show @LT.lt Nat _ _ _); first | exact ‹_› | exact sub_step ‹_› | exact sub_step1 ‹_› | k_extra "suc" | ((fail_if_success (fail_if_success refine cj7 ‹_› ?_)); k_extra "pk")) | ((show @LE.le Nat _ _ _); (try dsimp only); first | exact (by decide) | exact Nat.le_of_lt ‹_› | exact Nat.le_of_lt (by k_extra "suc") | (refine Nat.le_trans ‹_› ?_; decide) | (refine Nat.le_trans (Nat.le_of_eq (Eq.symm ‹_›)) (Nat.le_trans ‹_› ?_); decide) | exact le_s1 (by k_extra "pk") | exact len2a ‹_› ‹_› | exact len2b ‹_› ‹_›) | ((show @LE.le Int _ _ _); exact neg5) | ((show @LT.lt Int _ _ _); exact Int.ofNat_lt.mpr ‹_›)))
  k_with "my_enter" => k_dflt (first | (refine' code_def ?k1w914 ?k2w914 ?k3w914 ?k4w914 ?k5w914 ?kAw914 ?kFw914 ?kKw914 ?k6w914 ?k7w914 ?k8w914 ?k9w914 ?kBw914 ?_ ?c2w914 ?c3w914 ?c4w914 ?c5w914; (case kAw914 => exact rfl); (case kFw914 => exact rfl); (case kKw914 => assumption); (case k1w914 => k_asm); (case k2w914 => k_asm); (case k3w914 => k_asm); (case k4w914 => k_asm); (case k5w914 => k_asm); (case k6w914 => k_is); (case k7w914 => k_is); (case k8w914 => k_room); (case k9w914 => first | exact BindsTo.of_eq rfl | exact binds_K (by k_in) rfl (by k_is) rfl rfl rfl); (case c5w914 => decide); (case kBw914 => exact locs rfl); (case c2w914 => exact rfl); (case c3w914 => exact rfl); (case c4w914 => exact rfl); k_whole; intro _ _ _ _ _ N'w914 B'w914 _ _; (try dsimp only); (try k_lift B'w914); (try k_fold)) | (refine' code_defC ?k1w914 ?k2w914 ?k3w914 ?k4w914 ?k5w914 ?kAw914 ?kFw914 ?kKw914 ?k6w914 ?k7w914 ?k8w914 ?k9w914 ?kBw914 ?kDw914 ?_ ?c2w914 ?c3w914 ?c4w914; (case kAw914 => exact rfl); (case kFw914 => exact rfl); (case kKw914 => assumption); (case k1w914 => k_asm); (case k2w914 => k_asm); (case k3w914 => k_asm); (case k4w914 => k_asm); (case k5w914 => k_asm); (case k6w914 => k_is); (case k7w914 => k_is); (case k8w914 => k_room); (case k9w914 => first | exact BindsTo.of_eq rfl | exact binds_K (by k_in) rfl (by k_is) rfl rfl rfl); (case kBw914 => exact rfl); (case kDw914 => decide +kernel); (case c2w914 => exact rfl); (case c3w914 => exact rfl); (case c4w914 => exact rfl); k_whole; intro _ _ _ _ _ _ _ N'w914 Y'w914 B'w914 _ _ l1w914; (try k_lt l1w914); k_cells Y'w914; (try simp only [List.cons_append, List.nil_append] at N'w914); (try dsimp only); (try k_lift B'w914); (try k_fold)))
  k_with "my_unrolled" => (k_dflt (first | (refine LCg.CompSrc.ledger (by rfl) (by k_asm) (by k_asm) (by k_mem) (by first | size_fits | exact Nat.le_of_ble_eq_true rfl) ?_; intro _; lcg_lit) | (refine LCg.CompSrc.base (by rfl) (by k_asm) (by k_asm) ‹_› (by first | size_fits | exact Nat.le_of_ble_eq_true rfl) ?_; intro _; lcg_lit) | (refine LCg.CompSrc.range (by rfl) (by k_asm) (by k_asm) ‹_› (by first | decide | rfl) (by first | rfl | decide) (by first | size_fits | exact Nat.le_of_ble_eq_true rfl) ?_; intro _; lcg_lit)))
  k_with "my_comp" => k_dflt (refine LCg.ListComp_U (F₀ := by k_asm) (by with_unfolding_all rfl) (by decide) (by rfl) (by decide) (by rfl) ?_)
  k_with "my_compA" => k_dflt (refine LCg.Assign_ListComp_U (F₀ := by k_asm) (by rfl) (by with_unfolding_all rfl) (by with_unfolding_all rfl) (by decide) (by rfl) (by decide) (by rfl) (by rfl) (by rfl) ?_)
  k_with "CompRest" => (with_unfolding_all first | (refine LCg.CompRest.succ ?_; intro _ _ _ _ _ _ _ _ _ _ hv'w186 _ hx'w186 _ _ off'w186 _; (first | lcg_open hv'w186 | (obtain ⟨_, hv9'w186⟩ := hv'w186; subst hv9'w186; (try simp only [Int.zero_add, Int.natCast_zero, Int.natCast_one, Int.reduceAdd, Nat.reduceAdd, Int.cast_ofNat_Int] at hx'w186))); (try simp only [LCg.Off3, and_true] at off'w186)) | refine LCg.CompRest.zero ?_)
  k_with "eval ListComp" => (k_here; k_extra "my_comp")
  k_with "exec Assign cons ListComp" => (k_here; k_extra "my_compA")
  k_with "exec For" => k_extra "my For"
  k_with "binaryOp Add str str" => (k_here; (with_reducible show wpAny _ _ (binaryOp Operator.Add (Value.str _ _) (Value.str _ _)) _ _ _); (refine add_short (by with_reducible assumption) (by with_reducible assumption) ?_); intro _ _ _)
  k_with "call type:str" => (k_here; (with_reducible show wpAny _ _ (call (Value.type "str") [Value.int _ _]) _ _ _); (refine str_digit ‹_› ‹_› ?_); intro _ _ _)
  k_with "pyIter ref" => k_extra "my pyIter"
  k_with "lex white" => (k_here; k_dflt (refine lex_white ‹_› ?_; intro _))
  k_with "FnAt" => k_dflt (exact FnAt.of (by k_asm) (by k_mem))
  k_with "pair for" => (k_here; k_dflt (refine For_pairF (by k_asm) ?_))
  k_with "TurnJ" => k_dflt (refine TurnJ.ret ?_; (try dsimp only))
  k_with "sel ends" => (k_dflt (refine' sel_next ?Fw211 ?Nw211 ?offw211 ?hmw211 ?g1w211 ?g2w211; (case Fw211 => k_asm); (case Nw211 => k_asm); (case offw211 => assumption); (case hmw211 => (intro _ h1'w211 h2'w211 h3'w211 h4'w211; simp only [if_neg h1'w211, if_neg h2'w211, if_neg h3'w211, if_neg h4'w211])); (case g1w211 => first | (intro _; exact ⟨by assumption, by assumption⟩) | (intro _; assumption)); (case g2w211 => first | (intro h9'w211; exact absurd h9'w211 (by decide)) | (intro _; exact ⟨by assumption, by assumption⟩))))
  k_with "exec For Tuple Call cons nil" => k_extra "my For"
  k_with "run mem" => (k_extra "in run"; done)
  k_with "TurnG" => k_dflt (refine TurnG.ret ?_; (try dsimp only))
  k_with "exec For Name Call cons nil" => k_extra "my For"
  k_with "exec For Name Name cons nil" => k_extra "my For"
  trivial
theorem c_compareA {J dj D T1 T2 R1 R2 q1 q2 dq1 dq2 : Addr} {nD : Nat} {t1 ta tb tc td te tf tg th ti tj tk tl : Tok} {w1 w2 v1 v2 : Int} {x1 x2 k1 k2 : Str} {news : List (Addr × Obj)}
    (B : Below A₀ base outer h₀) (F : Fr h₀ L s.heap m) (X : (hd.heap_1 w.params).In h₀) (N : News h₀ L s.heap news) (T : Top topProg loose mean mg mb h₀) (hk : cs.kind = .function) (h1 : dp ≤ 324) (h2 : un ≤ 150)
    (hJ : (J, instObj 116 dj) ∈ news) (hdj : (dj, dictOf (selD w t1 D) 1) ∈ news) (hD : (D, PySem.W.listOf (List.toArray [.ref T1, .ref T2]) nD) ∈ news) (hT1 : (T1, tupO [.int 0 ta, .int w1 tb]) ∈ news) (hT2 : (T2, tupO [.int 1 tc, .int w2 td]) ∈ news)
    (hR1 : (R1, tupO [.ref q1, .int v1 te, .str k1 tf]) ∈ news) (hR2 : (R2, tupO [.ref q2, .int v2 tg, .str k2 th]) ∈ news) (hq1 : (q1, instObj 208 dq1) ∈ news) (hq2 : (q2, instObj 208 dq2) ∈ news) (hd1 : (dq1, dictOf (qD w ti tj x1) 1) ∈ news) (hd2 : (dq2, dictOf (qD w tk tl x2) 1) ∈ news)
    (hz1 : x1.length ≤ 1000) (hz2 : x2.length ≤ 1000) (hv1 : -1 ≤ v1 ∧ v1 ≤ 1) (hv2 : -1 ≤ v2 ∧ v2 ≤ 1) (hw1 : -1 ≤ w1 ∧ w1 ≤ 1) (hw2 : -1 ≤ w2 ∧ w2 ≤ 1)
    (ret : ∀ r t h' tk', r = cmpA x1 x2 v1 v2 w1 w2 → Fr h₀ L h' m → News h₀ L h' news → Q (.int r t) { s with heap := h', toks := tk' }) :
    wpAny (model PySem.Challenge.rw_xo0026_01.row.prog w) (ktrTop dp un gd cn cs L a ccd cl outer) (call (.ref 113) [.ref J, .ref R1, .ref R2]) Q E s := by
  refine lift h1 h2 ?_
  revert X; k_fill; intro X
  refine wpAny_call ?_
  k_with "my For" => k_extra "pair for"
  k_with "my pyIter" => k_dflt (refine' sel_loop (G1 := ¬(qtext x1).cps.toList < (qtext x2).cps.toList ∧ ¬(qtext x2).cps.toList < (qtext x1).cps.toList) (G2 := ¬v1 < v2 ∧ ¬v2 < v1) ?hh ?hxk ?hxv ?hp ?hm ?hT1 ?hT2 ?F ?N ?turn1 ?turn2 ?done; (case' hh => exact rfl); (case' hxk => exact rfl); (case' hxv => exact rfl); (case' hp => exact rfl); (case' F => k_asm); (case' N => k_asm); (case' hm => exact hD); (case' hT1 => exact hT1); (case' hT2 => exact hT2); (case' turn1 => (intro h' tk' I' oI' lv' rv' off' F' N'; (try k_fold))); (case' turn2 => (intro h' tk' I' oI' lv' rv' g1' off' F' N'; (try k_fold))); (case' done => (intro m' h' tk' g1' g2' F' N'; (try k_fold))))
  k_extra "my_enter"
  k_steps
  all_goals first
    | k_extra "sel ends"
    | (refine ret _ _ _ _ ?_ ‹_› (by first | with_reducible assumption | exact cb_drop ‹_› (by lcg_sub)); simp only [cmpA, ltS, *]; first | done | rfl | simp)
theorem c_compareB {J dj D T1 T2 R1 R2 q1 q2 dq1 dq2 : Addr} {nD : Nat} {t1 ta tb tc td te tf tg th ti tj tk tl : Tok} {w1 w2 v1 v2 : Int} {x1 x2 k1 k2 : Str} {news : List (Addr × Obj)}
    (B : Below A₀ base outer h₀) (F : Fr h₀ L s.heap m) (X : (hd.heap_1 w.params).In h₀) (N : News h₀ L s.heap news) (T : Top topProg loose mean mg mb h₀) (hk : cs.kind = .function) (h1 : dp ≤ 324) (h2 : un ≤ 150)
    (hJ : (J, instObj 116 dj) ∈ news) (hdj : (dj, dictOf (selD w t1 D) 1) ∈ news) (hD : (D, PySem.W.listOf (List.toArray [.ref T1, .ref T2]) nD) ∈ news) (hT1 : (T1, tupO [.int 1 ta, .int w1 tb]) ∈ news) (hT2 : (T2, tupO [.int 0 tc, .int w2 td]) ∈ news)
    (hR1 : (R1, tupO [.ref q1, .int v1 te, .str k1 tf]) ∈ news) (hR2 : (R2, tupO [.ref q2, .int v2 tg, .str k2 th]) ∈ news) (hq1 : (q1, instObj 208 dq1) ∈ news) (hq2 : (q2, instObj 208 dq2) ∈ news) (hd1 : (dq1, dictOf (qD w ti tj x1) 1) ∈ news) (hd2 : (dq2, dictOf (qD w tk tl x2) 1) ∈ news)
    (hz1 : x1.length ≤ 1000) (hz2 : x2.length ≤ 1000) (hv1 : -1 ≤ v1 ∧ v1 ≤ 1) (hv2 : -1 ≤ v2 ∧ v2 ≤ 1) (hw1 : -1 ≤ w1 ∧ w1 ≤ 1) (hw2 : -1 ≤ w2 ∧ w2 ≤ 1)
    (ret : ∀ r t h' tk', r = cmpB x1 x2 v1 v2 w1 w2 → Fr h₀ L h' m → News h₀ L h' news → Q (.int r t) { s with heap := h', toks := tk' }) :
    wpAny (model PySem.Challenge.rw_xo0026_01.row.prog w) (ktrTop dp un gd cn cs L a ccd cl outer) (call (.ref 113) [.ref J, .ref R1, .ref R2]) Q E s := by
  refine lift h1 h2 ?_
  revert X; k_fill; intro X
  refine wpAny_call ?_
  k_with "my For" => k_extra "pair for"
  k_with "my pyIter" => k_dflt (refine' sel_loop (G1 := ¬v1 < v2 ∧ ¬v2 < v1) (G2 := ¬(qtext x1).cps.toList < (qtext x2).cps.toList ∧ ¬(qtext x2).cps.toList < (qtext x1).cps.toList) ?hh ?hxk ?hxv ?hp ?hm ?hT1 ?hT2 ?F ?N ?turn1 ?turn2 ?done; (case' hh => exact rfl); (case' hxk => exact rfl); (case' hxv => exact rfl); (case' hp => exact rfl); (case' F => k_asm); (case' N => k_asm); (case' hm => exact hD); (case' hT1 => exact hT1); (case' hT2 => exact hT2); (case' turn1 => (intro h' tk' I' oI' lv' rv' off' F' N'; (try k_fold))); (case' turn2 => (intro h' tk' I' oI' lv' rv' g1' off' F' N'; (try k_fold))); (case' done => (intro m' h' tk' g1' g2' F' N'; (try k_fold))))
  k_extra "my_enter"
  k_steps
  all_goals first
    | k_extra "sel ends"
    | (refine ret _ _ _ _ ?_ ‹_› (by first | with_reducible assumption | exact cb_drop ‹_› (by lcg_sub)); simp only [cmpB, ltS, *]; first | done | rfl | simp)
end
theorem entry_items_iter : entryFor table "dict_itemiterator.__iter__" = some Builtin.«dict_keyiterator.__iter__» :=
  entryFor_alias (id' := "dict_keyiterator.__iter__") (by kernel_rfl) rfl (by decide +kernel) (by kernel_rfl)
section
variable {prog : Program} {K : Type} [DecidableEq K] {knd : KeyKind prog w K} {A : Around} {E : Value → Shared → Prop} {s : Shared} {env : Env} {h₀ : Heap} {xk xv : Str} {body : List Stmt} {Q : Flow → Shared → Prop}
theorem walks_items (hh : A.handled = none) (I d : Addr) (hne : d ≠ I) (kvs : List (K × Value)) (ep : Nat) :
    WalksU prog w A I [I, d] [I] kvs.length (fun i vals => ∃ k v key, kvs[i]? = some (k, v) ∧ knd.is k key = true ∧ vals = #[key, v]) (fun i h => (∃ ok ov, IsItemIter h I d i kvs.length ep ok ov) ∧ h.DictAt knd d kvs ep)
      (fun i T h => (∃ ok ov, IsItemIterOut h I d (i + 1) kvs.length ep ok ov T) ∧ h.DictAt knd d kvs ep ∧ T ≠ I) where
  sub := fun b hb => by simp at hb; simp [hb]
  frame := fun i h h' st hk => by
    obtain ⟨⟨ok, ov, e⟩, hd⟩ := st
    exact ⟨⟨ok, ov, hk I (by simp) _ e⟩, hd.at fun o x => hk d (by simp) o x⟩
  item := fun i s Q E hi st hQ => by
    obtain ⟨⟨ok, ov, e⟩, hd⟩ := st
    obtain ⟨⟨k, v⟩, hx'⟩ : ∃ p, kvs[i]? = some p := ⟨kvs[i], by simp [hi]⟩
    refine wpAny_pyNext_items_item e hd hx' fun key h' hkey he ht hz hk => ?_
    have hIs : I < s.heap.objs.size := Heap.lt_size e
    exact hQ _ #[key, v] h' s.toks ⟨k, v, key, hx', hkey, rfl⟩ ⟨_, ht, rfl, _, rfl⟩ ⟨⟨_, _, he⟩, hd.at fun o x => hk d o hne x, Nat.ne_of_gt hIs⟩ fun b o hb e => hk b o (fun h => hb (by simp [h])) e
  go := fun elts k pos i T s Q E hM hQ => by
    obtain ⟨⟨ok, ov, e⟩, hd, hT⟩ := hM
    exact wpAny_letOwnedTupleGo_items e fun h' he' hs' => hQ h' ⟨⟨ok, ov, he'⟩, hd.extBut (Heap.SameBut.extBut hs') hne⟩ fun b o hb x => (Heap.SameBut.extBut hs') b o (fun h => hb (by simp [h])) x
  apart := fun i T h hM hm => hM.2.2 (List.mem_singleton.mp hm)
  done := fun s Q E st hQ => by
    obtain ⟨⟨ok, ov, e⟩, hd⟩ := st
    exact wpAny_pyNext_items_end hh e hd (by simp) fun h' he' => hQ h' s.toks fun b o hb x => he' b o (fun h => hb (by simp [h])) x
  self := fun i s Q E st hQ => by
    obtain ⟨⟨ok, ov, e⟩, hd⟩ := st
    have hT : s.TypeIs (.ref I) "dict_itemiterator" := ⟨_, e, rfl⟩
    refine wpAny_pyIter_slot hT F.slot_dict_itemiterator_iter (wpAny_call_entry F.slot_dict_itemiterator_iter hT entry_items_iter ?_ (F.args_dict_itemiterator_iter_1 _))
    show wpAny _ _ (ret (.ref I)) _ _ s
    exact wpAny_pure ⟨_, rfl, "dict_itemiterator", _, hT, F.slot_dict_itemiterator_next.lookup, hQ⟩
theorem items_loop {d vw : Addr} {od : Obj} {kvs : List (K × Value)} {m₀ : Str → Option Value} {news : List (Addr × Obj)} (J : Nat → (Str → Option Value) → List (Addr × Obj) → Prop)
    (hh : A.handled = none) (hxk : env.kindOf xk = some .local) (hxv : env.kindOf xv = some .local) (hp : (env.scope.kind == .class || (env.scope.kind == .module && env.locals != env.globals)) = false)
    (hvw : ∃ ov, s.heap.get? vw = some ov ∧ ov.cls = .type "dict_items" ∧ ov.data = .fields #[.ref d]) (hm : (d, od) ∈ news) (hd : od.IsDictOf knd kvs)
    (F : Fr h₀ env.locals s.heap m₀) (N : News h₀ env.locals s.heap news) (hj : J 0 m₀ news) (hJm : ∀ i m₁ news₁, J i m₁ news₁ → (d, od) ∈ news₁)
    (turn : ∀ (i : Nat) k v key m₁ news₁ h tk I oI, kvs[i]? = some (k, v) → knd.is k key = true → J i m₁ news₁ → (∀ p ∈ news₁, p.1 ≠ I) → Fr h₀ env.locals h (fun y => if y = xv then some v else if y = xk then some key else m₁ y) → News h₀ env.locals h ((I, oI) :: news₁) →
      wpAny (model prog w) A (execs body env) (TurnJ h₀ env.locals (J (i + 1)) I oI { s with heap := h, toks := tk } Q) (notedBy (model prog w) A env fun e s' => cameBackBy (model prog w) A env E e s') { s with heap := h, toks := tk })
    (done : ∀ m₁ news₁ h tk, J kvs.length m₁ news₁ → Fr h₀ env.locals h m₁ → News h₀ env.locals h news₁ → Q .next { s with heap := h, toks := tk }) :
    wpAny (model prog w) A (pyIter (.ref vw)) (fun it s₂ => PairLoopAt prog w A h₀ env xk xv body Q E it s₂) E s := by
  obtain ⟨ep, hat⟩ := (kda_dict N hm hd).dictAt
  have hne : d ≠ s.heap.objs.size := Nat.ne_of_lt hat.lt_size
  refine wpAny_pyIter_items hvw hat ?_
  refine pair_loop (P := fun i a b => ∃ k, kvs[i]? = some (k, b) ∧ knd.is k a = true) (walks_items hh s.heap.objs.size d hne kvs ep) J hh hxk hxv hp ?_ ?_ ?_ ?_ ?_ ⟨⟨.none, .none, Heap.get?_push_size _ rfl⟩, hat.push _⟩ (F.push _) (fun p hp => ⟨Heap.get?_push_of_some _ (N p hp).1, (N p hp).2⟩) (fun p hp => Nat.ne_of_lt (Heap.lt_size (N p hp).1)) hj ?_ done
  · rintro i vals ⟨k, v, key, hx, hk, rfl⟩; exact ⟨key, v, rfl, k, hx, hk⟩
  · rintro i h ⟨⟨ok, ov, e⟩, _⟩; exact ⟨_, e⟩
  · intro e; exact absurd F.ns.lt (e ▸ Nat.lt_irrefl _)
  · exact next_is_new F
  · intro b hb hbI
    rcases List.mem_cons.mp hb with e | hb
    · exact absurd e hbI
    · exact ⟨od, fun i m₁ news₁ hJ => (List.mem_singleton.mp hb) ▸ hJm i m₁ news₁ hJ⟩
  · rintro i a b m₁ news₁ h tk oI hi ⟨k, hx, hk⟩ hJ off F' N'
    exact turn i k b a m₁ news₁ h tk _ oI hx hk hJ off F' N'
end
theorem off_zipt_0 : True := by
  w_top off
  k_with "om" => (first | (with_reducible first | ((show @Ne Nat _ _); (try dsimp only); first | exact ‹_› | exact Ne.symm ‹_› | exact Nat.ne_of_lt (by k_extra "suc") | exact Nat.ne_of_gt (by k_extra "suc") | ((fail_if_success (fail_if_success refine cj2 ‹_› ?_)); exact Nat.ne_of_gt (by k_extra "pk")) | ((fail_if_success (fail_if_success refine cj1 ‹_› ?_)); exact Nat.ne_of_lt (by k_extra "pk")) | ((fail_if_success (fail_if_success refine cj3 ‹_› ?_)); k_extra "pk") | ((fail_if_success (fail_if_success refine cj4 ‹_› ?_)); k_extra "pk") | ((fail_if_success (fail_if_success refine cj5 ‹_› ?_)); exact Ne.symm (by k_extra "pk")) | ((fail_if_success (fail_if_success refine cj6 ‹_› ?_)); exact Ne.symm (by k_extra "pk")) | exact Nat.ne_of_gt ‹_› | exact Nat.ne_of_lt ‹_›) | ((show _ ∨ _); first | exact lt5_cases ‹_› | exact i5_cases ‹_› ‹_› | exact i3_cases ‹_› ‹_›) | ((show @LT.lt Nat _ _ _); first | exact ‹_› | exact sub_step ‹_› | exact sub_step1 ‹_› | k_extra "suc" | ((fail_if_success (fail_if_success refine cj7 ‹_› ?_)); k_extra "pk")) | ((show @LE.le Nat _ _ _); (try dsimp only); first | exact (by decide) | exact Nat.le_of_lt ‹_› | exact Nat.le_of_lt (by k_extra "suc") | (refine Nat.le_trans ‹_› ?_; decide) | (refine Nat.le_trans (Nat.le_of_eq (Eq.symm ‹_›)) (Nat.le_trans ‹_› ?_); decide) | exact le_s1 (by k_extra "pk") | exact len2a ‹_› ‹_› | exact len2b ‹_› ‹_›) | ((show @LE.le Int _ _ _); exact neg5) | ((show @LT.lt Int _ _ _); exact Int.ofNat_lt.mpr ‹_›)) | lia)
  trivial
section
variable {prog : Program} {A : Around} {E : Value → Shared → Prop} {s : Shared}
theorem nextOf_tuple {it t : Addr} {i : Nat} {items : Array Value} {x : Value} {Q : Value → Shared → Prop} (hit : s.heap.IsTupleIter it t i) (ht : s.heap.IsTuple t items) (hx : items[i]? = some x)
    (hQ : ∀ h', h'.IsTupleIter it t (i + 1) → Heap.SameBut it s.heap h' → Q x { s with heap := h' }) : wpAny (model prog w) A (Builtin.SmallTypes.nextOf (.ref it)) Q E s := by
  obtain ⟨o, ho, hc, hd⟩ := id hit
  obtain ⟨ot, hot, _, n, hdt⟩ := ht
  unfold Builtin.SmallTypes.nextOf
  refine wpAny_bind (wpAny_callSpecial?_slot (name := Str.ofString "__next__") hit.typeIs F.slot_tuple_iterator_next (wpAny_call_entry F.slot_tuple_iterator_next hit.typeIs F.entry_tuple_iterator_next ?_ (F.args_tuple_iterator_next_1 _)))
  show wpAny _ _ (field (.ref it) 0 >>= _) _ _ s
  refine wpAny_bind (wpAny_field ho hd (x := .ref t) rfl ?_)
  show wpAny _ _ (if (Value.ref t == Value.none) = true then _ else _) _ _ s
  rw [if_neg (show ¬ ((Value.ref t == Value.none) = true) from Bool.false_ne_true)]
  show wpAny _ _ (field (.ref it) 1 >>= _) _ _ s
  refine wpAny_bind (wpAny_field ho hd (x := .int i 0) rfl ?_)
  show wpAny _ _ (seqItems? (.ref t) >>= _) _ _ s
  refine wpAny_bind (wpAny_seqItems hot hdt ?_)
  simp only [Int.toNat_natCast, hx]
  refine wpAny_bind (wpAny_setField ho hd (by simp) (wpAny_pure ⟨x, rfl, wpAny_pure (hQ _ ⟨_, Heap.get?_update_self _ ho (Obj.isFreed_of_fields (Obj.data_mapFields hd _)), (Obj.cls_mapFields ..).trans hc, ?_⟩ (Heap.SameBut.update ..))⟩))
  rw [Obj.data_mapFields hd]; simp [rawInt]
theorem nextOf_tuple_end {it t : Addr} {i : Nat} {items : Array Value} {Q : Value → Shared → Prop} (hh : A.handled = none) (hit : s.heap.IsTupleIter it t i) (ht : s.heap.IsTuple t items) (hx : items[i]? = none)
    (hE : ∀ h' e, Heap.ExtBut it s.heap h' → (∃ o, h'.get? e = some o ∧ o.cls = .type "StopIteration") → E (.ref e) { s with heap := h' }) : wpAny (model prog w) A (Builtin.SmallTypes.nextOf (.ref it)) Q E s := by
  obtain ⟨o, ho, hc, hd⟩ := id hit
  obtain ⟨ot, hot, _, n, hdt⟩ := ht
  unfold Builtin.SmallTypes.nextOf
  refine wpAny_bind (wpAny_callSpecial?_slot (name := Str.ofString "__next__") hit.typeIs F.slot_tuple_iterator_next (wpAny_call_entry F.slot_tuple_iterator_next hit.typeIs F.entry_tuple_iterator_next ?_ (F.args_tuple_iterator_next_1 _)))
  show wpAny _ _ (field (.ref it) 0 >>= _) _ _ s
  refine wpAny_bind (wpAny_field ho hd (x := .ref t) rfl ?_)
  show wpAny _ _ (if (Value.ref t == Value.none) = true then _ else _) _ _ s
  rw [if_neg (show ¬ ((Value.ref t == Value.none) = true) from Bool.false_ne_true)]
  show wpAny _ _ (field (.ref it) 1 >>= _) _ _ s
  refine wpAny_bind (wpAny_field ho hd (x := .int i 0) rfl ?_)
  show wpAny _ _ (seqItems? (.ref t) >>= _) _ _ s
  refine wpAny_bind (wpAny_seqItems hot hdt ?_)
  simp only [Int.toNat_natCast, hx]
  refine wpAny_bind (wpAny_rule (wpAny_bind (wpAny_setField ho hd (by simp) ?_)))
  show wpAny _ _ (newExc (.type "StopIteration") [] >>= _) _ _ _
  refine wpAny_bind ?_
  simp only [newExc, newTuple]
  refine wpAny_bind (wpAny_newObj_type ?_ (by size_fits))
  refine wpAny_bind (m := firstArgMember _ _) (wpAny_of_eq (a := Value.none) (by first | rfl | (simp only [firstArgMember]; rfl)) ?_)
  refine wpAny_newObj_type ?_ (by size_fits)
  simp only [raiseNew]
  refine wpAny_bind (wpAny_handled ?_)
  first | rw [show A.in1.handled = none from hh] | rw [hh]
  refine wpAny_bind (wpAny_pure (wpAny_throw ?_))
  exact hE _ _ (((Heap.SameBut.update ..).extBut.push _).push _) ⟨_, Heap.get?_push_size _ rfl, rfl⟩
end
structure ZP (h : Heap) (n p1 p2 : Nat) (x0 x1 y0 y1 : Value) (k : Nat) : Prop where
  iter : IsPair h (n + 2) (.ref n) (.ref (n + 1))
  out : ∃ a b, IsPair h (n + 3) a b
  it1 : h.IsTupleIter n p1 k
  it2 : h.IsTupleIter (n + 1) p2 k
  t1 : h.IsTuple p1 #[x0, x1]
  t2 : h.IsTuple p2 #[y0, y1]
theorem tup_at {h h' : Heap} {a : Addr} {items : Array Value} (x : h.IsTuple a items) (e : ∀ o, h.get? a = some o → h'.get? a = some o) : h'.IsTuple a items := let ⟨o, ho, r⟩ := x; ⟨o, e o ho, r⟩
theorem iter_at {h h' : Heap} {a t : Addr} {i : Nat} (x : h.IsTupleIter a t i) (e : ∀ o, h.get? a = some o → h'.get? a = some o) : h'.IsTupleIter a t i := let ⟨o, ho, r⟩ := x; ⟨o, e o ho, r⟩
theorem ZP.keep {h h' : Heap} {n p1 p2 : Nat} {x0 x1 y0 y1 : Value} {k : Nat} (x : ZP h n p1 p2 x0 x1 y0 y1 k) (hk : ∀ b ∈ ([n, n + 1, n + 2, n + 3, p1, p2] : List Nat), ∀ o, h.get? b = some o → h'.get? b = some o) : ZP h' n p1 p2 x0 x1 y0 y1 k where
  iter := hk (n + 2) (by simp) _ x.iter
  out := let ⟨a, b, e⟩ := x.out; ⟨a, b, hk (n + 3) (by simp) _ e⟩
  it1 := iter_at x.it1 fun o e => hk n (by simp) o e
  it2 := iter_at x.it2 fun o e => hk (n + 1) (by simp) o e
  t1 := tup_at x.t1 fun o e => hk p1 (by simp) o e
  t2 := tup_at x.t2 fun o e => hk p2 (by simp) o e
section
variable {prog : Program} {A : Around} {E : Value → Shared → Prop} {s : Shared}
theorem zip_step {n p1 p2 : Nat} {x0 x1 y0 y1 : Value} {k : Nat} {x y : Value} {Q : Value → Shared → Prop} (h1 : p1 < n) (h2 : p2 < n) (hz : IsZip s.heap (n + 4) (n + 2) (n + 3) .none) (hp : ZP s.heap n p1 p2 x0 x1 y0 y1 k)
    (hx : (#[x0, x1] : Array Value)[k]? = some x) (hy : (#[y0, y1] : Array Value)[k]? = some y)
    (hQ : ∀ h', IsZip h' (n + 4) (n + 2) (n + 3) (rawInt s.heap.objs.size) → ZP h' n p1 p2 x0 x1 y0 y1 (k + 1) → IsPair h' s.heap.objs.size x y → (∀ c o, c ∉ ([n, n + 1, n + 3, n + 4] : List Nat) → s.heap.get? c = some o → h'.get? c = some o) → Q (.ref s.heap.objs.size) { s with heap := h' }) :
    wpAny (model prog w) A (Builtin.«zip.__next__» ⟨[.ref (n + 4)], []⟩) (fun fin s' => ∃ v, fin = .done (.ret v) ∧ Q v s') E s := by
  have ne : ∀ {a b : Nat}, a ≠ b → @Ne Addr a b := fun h => h
  show wpAny _ _ (field (.ref (n + 4)) 2 >>= _) _ _ _
  refine wpAny_bind (wpAny_field hz rfl (x := .bool false) rfl ?_)
  show wpAny _ _ (field (.ref (n + 4)) 3 >>= _) _ _ _
  refine wpAny_bind (wpAny_field hz rfl (x := .ref (n + 2)) rfl ?_)
  refine wpAny_bind (wpAny_seqItems hp.iter rfl ?_)
  show wpAny _ _ (Builtin.SmallTypes.ownedTupleIsFree (.ref (n + 4)) >>= _) _ _ _
  refine wpAny_bind ?_
  unfold Builtin.SmallTypes.ownedTupleIsFree
  refine wpAny_bind (wpAny_field hz rfl (x := .none) rfl (wpAny_pure ?_))
  simp only [if_true]
  refine wpAny_bind (wpAny_rule ?_)
  refine wpAny_bind (wpAny_field hz rfl (x := .ref (n + 3)) rfl ?_)
  refine wpAny_bind (wpAny_setField_rec hz (by simp) fun g1 zg1 sg1 => ?_)
  replace zg1 : IsZip g1 (n + 4) (n + 2) (n + 3) .ellipsis := zg1
  have k1 : ∀ c o, c ≠ n + 4 → s.heap.get? c = some o → g1.get? c = some o := fun c o hc e => Heap.SameBut.extBut sg1 c o hc e
  have hp1 := hp.keep (h' := g1) fun b hb o e => k1 b o (by simp at hb; rcases hb with rfl | rfl | rfl | rfl | rfl | rfl <;> exact ne (by omega)) e
  refine wpAny_bind ?_
  simp only [List.zipIdx_cons, List.zipIdx_nil, List.forIn_cons, List.forIn_nil]
  refine wpAny_bind (wpAny_bind (wpAny_onRaise ?_))
  show wpAny _ _ (Builtin.SmallTypes.nextOf (.ref n) >>= _) _ _ _
  refine wpAny_bind (nextOf_tuple hp1.it1 hp1.t1 hx fun g2 i2 sg2 => wpAny_pure ?_)
  have k2 : ∀ c o, c ≠ n → g1.get? c = some o → g2.get? c = some o := fun c o hc e => Heap.SameBut.extBut sg2 c o hc e
  obtain ⟨a, b, hout⟩ := hp1.out
  have out2 : IsPair g2 (n + 3) a b := k2 _ _ (ne (by omega)) hout
  refine wpAny_bind (wpAny_seqItems out2 rfl ?_)
  refine wpAny_bind (wpAny_updateSeq_pair out2 fun g3 out3 sg3 => ?_)
  replace out3 : IsPair g3 (n + 3) x b := out3
  have k3 : ∀ c o, c ≠ n + 3 → g2.get? c = some o → g3.get? c = some o := fun c o hc e => Heap.SameBut.extBut sg3 c o hc e
  refine wpAny_bind (wpAny_letGo (wpAny_pure ?_))
  refine wpAny_bind (wpAny_bind (wpAny_onRaise ?_))
  show wpAny _ _ (Builtin.SmallTypes.nextOf (.ref (n + 1)) >>= _) _ _ _
  refine wpAny_bind (nextOf_tuple (iter_at hp1.it2 fun o e => k3 _ o (ne (by omega)) (k2 _ o (ne (by omega)) e)) (tup_at hp1.t2 fun o e => k3 _ o (ne (by omega)) (k2 _ o (ne (by omega)) e)) hy fun g4 i4 sg4 => wpAny_pure ?_)
  have k4 : ∀ c o, c ≠ n + 1 → g3.get? c = some o → g4.get? c = some o := fun c o hc e => Heap.SameBut.extBut sg4 c o hc e
  have out4 : IsPair g4 (n + 3) x b := k4 _ _ (ne (by omega)) out3
  refine wpAny_bind (wpAny_seqItems out4 rfl ?_)
  refine wpAny_bind (wpAny_updateSeq_pair out4 fun g5 out5 sg5 => ?_)
  replace out5 : IsPair g5 (n + 3) x y := out5
  have k5 : ∀ c o, c ≠ n + 3 → g4.get? c = some o → g5.get? c = some o := fun c o hc e => Heap.SameBut.extBut sg5 c o hc e
  refine wpAny_bind (wpAny_letGo (wpAny_pure (wpAny_pure ?_)))
  refine wpAny_bind (wpAny_seqItems out5 rfl ?_)
  refine wpAny_bind (wpAny_newTuple ?_)
  have hsz : g5.objs.size = s.heap.objs.size := by rw [sg5.1, sg4.1, sg3.1, sg2.1, sg1.1]
  have z5 : IsZip g5 (n + 4) (n + 2) (n + 3) .ellipsis := k5 _ _ (ne (by omega)) (k4 _ _ (ne (by omega)) (k3 _ _ (ne (by omega)) (k2 _ _ (ne (by omega)) zg1)))
  show wpAny _ _ (Builtin.SmallTypes.ownedTupleHandOut (.ref (n + 4)) (.ref g5.objs.size) >>= _) _ _ _
  refine wpAny_bind ?_
  unfold Builtin.SmallTypes.ownedTupleHandOut
  have z6 : IsZip (g5.push { cls := .type "tuple", data := .seq #[x, y] }) (n + 4) (n + 2) (n + 3) .ellipsis := Heap.get?_push_of_some _ z5
  refine wpAny_bind (wpAny_setField_rec z6 (by simp) fun g7 z7 sg7 => ?_)
  replace z7 : IsZip g7 (n + 4) (n + 2) (n + 3) (rawInt g5.objs.size) := z7
  refine wpAny_setField_rec z7 (by simp) fun g8 z8 sg8 => ?_
  replace z8 : IsZip g8 (n + 4) (n + 2) (n + 3) (rawInt g5.objs.size) := z8
  have k8 : ∀ c o, c ≠ n + 4 → g5.get? c = some o → g8.get? c = some o := fun c o hc e => Heap.SameBut.extBut sg8 c o hc (Heap.SameBut.extBut sg7 c o hc (Heap.get?_push_of_some _ e))
  have hlt : n + 4 < g5.objs.size := Heap.lt_size z5
  have hT : IsPair g8 g5.objs.size x y := Heap.SameBut.extBut sg8 _ _ (Nat.ne_of_gt hlt) (Heap.SameBut.extBut sg7 _ _ (Nat.ne_of_gt hlt) (Heap.get?_push_size _ rfl))
  refine wpAny_pure ⟨_, rfl, ?_⟩
  show Q (.ref g5.objs.size) _
  rw [hsz] at z8 hT ⊢
  refine hQ g8 z8 ⟨?_, ⟨x, y, k8 _ _ (ne (by omega)) out5⟩, ?_, ?_, ?_, ?_⟩ hT ?_
  · exact k8 _ _ (ne (by omega)) (k5 _ _ (ne (by omega)) (k4 _ _ (ne (by omega)) (k3 _ _ (ne (by omega)) (k2 _ _ (ne (by omega)) hp1.iter))))
  · exact iter_at i2 fun o e => k8 _ o (ne (by omega)) (k5 _ o (ne (by omega)) (k4 _ o (ne (by omega)) (k3 _ o (ne (by omega)) e)))
  · exact iter_at i4 fun o e => k8 _ o (ne (by omega)) (k5 _ o (ne (by omega)) e)
  · exact tup_at hp1.t1 fun o e => k8 _ o (ne (by omega)) (k5 _ o (ne (by omega)) (k4 _ o (ne (by omega)) (k3 _ o (ne (by omega)) (k2 _ o (ne (by omega)) e))))
  · exact tup_at hp1.t2 fun o e => k8 _ o (ne (by omega)) (k5 _ o (ne (by omega)) (k4 _ o (ne (by omega)) (k3 _ o (ne (by omega)) (k2 _ o (ne (by omega)) e))))
  · intro c o hc e
    simp only [List.mem_cons, List.not_mem_nil, or_false, not_or] at hc
    obtain ⟨c1, c2, c3, c4⟩ := hc
    exact k8 c o c4 (k5 c o c3 (k4 c o c2 (k3 c o c3 (k2 c o c1 (k1 c o c4 e)))))
end
section
variable {prog : Program} {A : Around} {E : Value → Shared → Prop} {s : Shared}
theorem zip_stop {n p1 p2 : Nat} {x0 x1 y0 y1 : Value} {Q : Fin → Shared → Prop} (hh : A.handled = none) (h1 : p1 < n) (h2 : p2 < n) (hz : IsZip s.heap (n + 4) (n + 2) (n + 3) .none) (hp : ZP s.heap n p1 p2 x0 x1 y0 y1 2)
    (hE : ∀ h' e, (∀ c o, c ∉ ([n, n + 1, n + 3, n + 4] : List Nat) → s.heap.get? c = some o → h'.get? c = some o) → (∃ o, h'.get? e = some o ∧ o.cls = .type "StopIteration") → E (.ref e) { s with heap := h' }) :
    wpAny (model prog w) A (Builtin.«zip.__next__» ⟨[.ref (n + 4)], []⟩) Q E s := by
  have ne : ∀ {a b : Nat}, a ≠ b → @Ne Addr a b := fun h => h
  show wpAny _ _ (field (.ref (n + 4)) 2 >>= _) _ _ _
  refine wpAny_bind (wpAny_field hz rfl (x := .bool false) rfl ?_)
  show wpAny _ _ (field (.ref (n + 4)) 3 >>= _) _ _ _
  refine wpAny_bind (wpAny_field hz rfl (x := .ref (n + 2)) rfl ?_)
  refine wpAny_bind (wpAny_seqItems hp.iter rfl ?_)
  show wpAny _ _ (Builtin.SmallTypes.ownedTupleIsFree (.ref (n + 4)) >>= _) _ _ _
  refine wpAny_bind ?_
  unfold Builtin.SmallTypes.ownedTupleIsFree
  refine wpAny_bind (wpAny_field hz rfl (x := .none) rfl (wpAny_pure ?_))
  simp only [if_true]
  refine wpAny_bind (wpAny_rule ?_)
  refine wpAny_bind (wpAny_field hz rfl (x := .ref (n + 3)) rfl ?_)
  refine wpAny_bind (wpAny_setField_rec hz (by simp) fun g1 zg1 sg1 => ?_)
  replace zg1 : IsZip g1 (n + 4) (n + 2) (n + 3) .ellipsis := zg1
  have k1 : ∀ c o, c ≠ n + 4 → s.heap.get? c = some o → g1.get? c = some o := fun c o hc e => Heap.SameBut.extBut sg1 c o hc e
  refine wpAny_bind ?_
  simp only [List.zipIdx_cons, List.zipIdx_nil, List.forIn_cons, List.forIn_nil]
  refine wpAny_bind (wpAny_bind (wpAny_onRaise ?_))
  show wpAny _ _ (Builtin.SmallTypes.nextOf (.ref n) >>= _) _ _ _
  refine wpAny_bind (nextOf_tuple_end hh (iter_at hp.it1 fun o e => k1 _ o (ne (by omega)) e) (tup_at hp.t1 fun o e => k1 _ o (ne (by omega)) e) rfl fun g2 e sg2 he => ?_)
  obtain ⟨oe, hoe, hce⟩ := he
  have z2 : IsZip g2 (n + 4) (n + 2) (n + 3) .ellipsis := sg2 _ _ (ne (by omega)) zg1
  have hez : e ≠ n + 4 := fun q => by rw [q, z2] at hoe; cases hoe; simp at hce
  refine wpAny_setField_rec z2 (by simp) fun g3 _ sg3 => hE g3 e (fun c o hc x => ?_) ⟨oe, Heap.SameBut.extBut sg3 _ _ hez hoe, hce⟩
  simp only [List.mem_cons, List.not_mem_nil, or_false, not_or] at hc
  obtain ⟨c1, c2, c3, c4⟩ := hc
  exact Heap.SameBut.extBut sg3 _ _ c4 (sg2 _ _ c1 (k1 _ _ c4 x))
theorem walks_zip (hh : A.handled = none) {n p1 p2 : Nat} {x0 x1 y0 y1 : Value} (h1 : p1 < n) (h2 : p2 < n) :
    WalksU prog w A (n + 4) [n, n + 1, n + 2, n + 3, n + 4, p1, p2] [n, n + 1, n + 3, n + 4] 2 (fun i vals => ∃ x y, (#[x0, x1] : Array Value)[i]? = some x ∧ (#[y0, y1] : Array Value)[i]? = some y ∧ vals = #[x, y])
      (fun i h => IsZip h (n + 4) (n + 2) (n + 3) .none ∧ ZP h n p1 p2 x0 x1 y0 y1 i)
      (fun i T h => IsZip h (n + 4) (n + 2) (n + 3) (rawInt T) ∧ ZP h n p1 p2 x0 x1 y0 y1 (i + 1) ∧ n + 4 < T) where
  sub := fun b hb => by simp at hb ⊢; rcases hb with rfl | rfl | rfl | rfl <;> simp
  frame := fun i h h' st hk => ⟨hk (n + 4) (by simp) _ st.1, st.2.keep fun b hb o e => hk b (by simp at hb ⊢; rcases hb with rfl | rfl | rfl | rfl | rfl | rfl <;> simp) o e⟩
  item := fun i s Q E hi st hQ => by
    obtain ⟨hz, hp⟩ := st
    have hT : s.TypeIs (.ref (n + 4)) "zip" := ⟨_, hz, rfl⟩
    obtain ⟨x, hx⟩ : ∃ x, (#[x0, x1] : Array Value)[i]? = some x := ⟨(#[x0, x1] : Array Value)[i], by simp [hi]⟩
    obtain ⟨y, hy⟩ : ∃ y, (#[y0, y1] : Array Value)[i]? = some y := ⟨(#[y0, y1] : Array Value)[i], by simp [hi]⟩
    unfold pyNext
    refine wpAny_bind (wpAny_attempt (wpAny_callSpecial?_slot (name := Str.ofString "__next__") hT F.slot_zip_next (wpAny_call_entry F.slot_zip_next hT F.entry_zip_next ?_ (F.args_zip_next_1 _))))
    refine zip_step h1 h2 hz hp hx hy fun h' hz' hp' hT' hk => ?_
    refine wpAny_pure ?_
    exact hQ _ #[x, y] h' s.toks ⟨x, y, hx, hy, rfl⟩ ⟨_, hT', rfl, _, rfl⟩ ⟨hz', hp', Heap.lt_size hz⟩ fun b o hb e => hk b o (fun h => hb (by simpa using h)) e
  go := fun elts k pos i T s Q E hM hQ => by
    obtain ⟨hz, hp, hlt⟩ := hM
    refine wpAny_letOwnedTupleGo_zip hz fun h' hz' hs' => hQ h' ⟨hz', hp.keep fun b hb o e => Heap.SameBut.extBut hs' b o ?_ e⟩ fun b o hb e => Heap.SameBut.extBut hs' b o (fun h => hb (by simp [h])) e
    simp at hb
    show @Ne Nat b (n + 4)
    rcases hb with rfl | rfl | rfl | rfl | rfl | rfl <;> omega
  apart := fun i T h hM hm => by
    have := hM.2.2
    simp at hm
    have ht : @LT.lt Nat _ (n + 4) T := this
    rcases hm with e | e | e | e
    · have e' : @Eq Nat T n := e; omega
    · have e' : @Eq Nat T (n + 1) := e; omega
    · have e' : @Eq Nat T (n + 3) := e; omega
    · have e' : @Eq Nat T (n + 4) := e; omega
  done := fun s Q E st hQ => by
    obtain ⟨hz, hp⟩ := st
    have hT : s.TypeIs (.ref (n + 4)) "zip" := ⟨_, hz, rfl⟩
    unfold pyNext
    refine wpAny_bind (wpAny_attempt (wpAny_callSpecial?_slot (name := Str.ofString "__next__") hT F.slot_zip_next (wpAny_call_entry F.slot_zip_next hT F.entry_zip_next (zip_stop hh h1 h2 hz hp fun h' e hk he => ?_) (F.args_zip_next_1 _))))
    obtain ⟨o, ho, hc⟩ := he
    refine wpAny_bind (wpAny_isInstance (T := "StopIteration") (b := true) ⟨o, ho, hc⟩ isSubtype_stop ?_)
    exact wpAny_pure (hQ h' s.toks fun b o hb e => hk b o (fun h => hb (by simpa using h)) e)
  self := fun i s Q E st hQ => wpAny_pyIter_zip st.1 hQ
end
noncomputable abbrev zt1 (h : Heap) (p : Addr) : Heap := h.push { cls := .type "tuple_iterator", data := .fields #[.ref p, .int 0 0] }
noncomputable abbrev zt3 (h : Heap) (p q : Addr) : Heap := (zt1 (zt1 h p) q).push { cls := .type "tuple", data := .seq #[.ref h.objs.size, .ref (zt1 h p).objs.size] }
noncomputable abbrev zt4 (h : Heap) (p q : Addr) : Heap := (zt3 h p q).push { cls := .type "tuple", data := .seq #[.none, .none] }
noncomputable abbrev zt5 (h : Heap) (p q : Addr) : Heap := (zt4 h p q).push { cls := .type "zip", data := .fields #[.none, .bool false, .bool false, .ref (zt1 (zt1 h p) q).objs.size, .ref (zt3 h p q).objs.size] }
theorem zip_new_tuples (p q : Addr) (xs ys : Array Value) :
    Meets (Builtin.«zip.__new__» ⟨[.type "zip", .ref p, .ref q], []⟩) (fun _ R s => s.heap.IsTuple p xs ∧ s.heap.IsTuple q ys ∧ R (.ok (.ret (.ref (zt4 s.heap p q).objs.size))) { s with heap := zt5 s.heap p q }) :=
  .of_wp fun prog w A R s h => by
    obtain ⟨hp, g, d, tk, os⟩ := s
    obtain ⟨t1, t2, h⟩ := h
    have hsub := sub_zip
    have T1 : Heap.IsTuple (Shared.heap ⟨hp, g, d, tk, os⟩) p xs := t1
    have T2 : Heap.IsTuple (Shared.heap ⟨zt1 hp p, g, d, tk, os⟩) q ys := Heap.IsTuple.push t2 _
    wp_walk using wpAny_pyIter_tuple T1, wpAny_pyIter_tuple T2
    exact ⟨_, rfl, h⟩
section
variable {prog : Program} {A : Around} {E : Value → Shared → Prop} {s : Shared}
theorem call_zip_tuples {p q : Addr} {x0 x1 y0 y1 : Value} {Q : Value → Shared → Prop} (t1 : s.heap.IsTuple p #[x0, x1]) (t2 : s.heap.IsTuple q #[y0, y1])
    (h : ∀ h', IsZip h' (s.heap.objs.size + 4) (s.heap.objs.size + 2) (s.heap.objs.size + 3) .none → ZP h' s.heap.objs.size p q x0 x1 y0 y1 0 → h'.objs.size = s.heap.objs.size + 5 → (∀ c o, s.heap.get? c = some o → h'.get? c = some o) → Q (.ref (s.heap.objs.size + 4)) { s with heap := h' }) :
    wpAny (model prog w) A (call (.type "zip") [.ref p, .ref q]) Q E s := by
  refine callType_new F.called_zip (by decide) (F.typeCall_zip_2 _ _) (F.newCall_zip_2 _ _) (fun obj => F.args_object_init_3 obj _ _) F.entry_zip_new (zip_new_tuples p q #[x0, x1] #[y0, y1]) ⟨t1, t2, ?_⟩
  have z1 : (zt1 s.heap p).objs.size = s.heap.objs.size + 1 := Heap.size_push ..
  have z2 : (zt1 (zt1 s.heap p) q).objs.size = s.heap.objs.size + 2 := by rw [Heap.size_push, z1]
  have z3 : (zt3 s.heap p q).objs.size = s.heap.objs.size + 3 := by rw [Heap.size_push, z2]
  have z4 : (zt4 s.heap p q).objs.size = s.heap.objs.size + 4 := by rw [Heap.size_push, z3]
  have z5 : (zt5 s.heap p q).objs.size = s.heap.objs.size + 5 := by rw [Heap.size_push, z4]
  have g5 : (zt5 s.heap p q).get? (zt4 s.heap p q).objs.size = some _ := Heap.get?_push_size _ rfl
  have g4 : (zt5 s.heap p q).get? (zt3 s.heap p q).objs.size = some _ := Heap.get?_push_of_some _ (Heap.get?_push_size _ rfl)
  have g3 : (zt5 s.heap p q).get? (zt1 (zt1 s.heap p) q).objs.size = some _ := Heap.get?_push_of_some _ (Heap.get?_push_of_some _ (Heap.get?_push_size _ rfl))
  have g2 : (zt5 s.heap p q).get? (zt1 s.heap p).objs.size = some _ := Heap.get?_push_of_some _ (Heap.get?_push_of_some _ (Heap.get?_push_of_some _ (Heap.get?_push_size _ rfl)))
  have g1 : (zt5 s.heap p q).get? s.heap.objs.size = some _ := Heap.get?_push_of_some _ (Heap.get?_push_of_some _ (Heap.get?_push_of_some _ (Heap.get?_push_of_some _ (Heap.get?_push_size _ rfl))))
  have keep : ∀ c o, s.heap.get? c = some o → (zt5 s.heap p q).get? c = some o := fun c o e => Heap.get?_push_of_some _ (Heap.get?_push_of_some _ (Heap.get?_push_of_some _ (Heap.get?_push_of_some _ (Heap.get?_push_of_some _ e))))
  show _ ∧ _
  rw [z2, z3, z4] at g5
  rw [z1, z2] at g3
  rw [z3] at g4
  rw [z1] at g2
  rw [z4]
  exact ⟨⟨_, g5, rfl⟩, h _ g5 ⟨g3, ⟨_, _, g4⟩, ⟨_, g1, rfl, rfl⟩, ⟨_, g2, rfl, rfl⟩, tup_at t1 fun o e => keep _ o e, tup_at t2 fun o e => keep _ o e⟩ z5 keep⟩
end
inductive GenR (prog : Program) (w : World) (A : Around) (a : Addr) (n : Nat) (F : Nat → Value → Prop) (k : Nat) (s : Shared) : Prop
  | mk (fp : List Addr) (wr : List Addr) (g : Nat) (St : Nat → Shared → Prop) (zz1 : WalksS prog w A.in4 a fp wr (GenOnlyQ g) n F St) (zz2 : St 0 s) (zz3 : (∀ i s', St i s' → s'.TypeIs (.ref a) "generator")) (zz4 : a ∈ fp) (zz5 : (∀ b ∈ fp, b < s.heap.objs.size)) (zz6 : ∀ b ∈ wr, @LE.le Nat _ k b) : GenR prog w A a n F k s
section
variable {prog : Program} {A : Around} {E : Value → Shared → Prop} {s : Shared} {h₀ : Heap} {L : Addr} {m : Str → Option Value} {news : List (Addr × Obj)}
theorem tuple_of_gen {a : Addr} {k : Nat} {c0 c1 : Int} {Q : Value → Shared → Prop} (F : Fr h₀ L s.heap m) (N : News h₀ L s.heap news) (G : AllBare s.gens) (hL : @LT.lt Nat _ L k) (hk : ∀ p ∈ news, @LT.lt Nat _ p.1 k) (h0 : @LE.le Nat _ h₀.objs.size k)
    (X : GenR prog w A a 2 (fun j y => ∃ t, y = .int (if j = 0 then c0 else c1) t) k s)
    (h : ∀ D h' tk gs t1 t2, Fr h₀ L h' m → News h₀ L h' ((D, tupO [.int c0 t1, .int c1 t2]) :: news) → (∀ p ∈ news, p.1 < D) → AllBare gs → Q (.ref D) { s with heap := h', toks := tk, gens := gs }) :
    wpAny (model prog w) A (call (.type "tuple") [.ref a]) Q E s := by
  obtain ⟨fp, wr, g, St, W, hst, hT, hI, hfp, hwr⟩ := X
  refine call_tuple_gen W.in4_3 hT hst hfp hI fun s' acc hm hacc => ?_
  have keep : ∀ b o, @LT.lt Nat _ b k → s.heap.get? b = some o → s'.heap.get? b = some o := fun b o hb e => hm.heap b o (fun hw => absurd (hwr b hw) (Nat.not_le.mpr hb)) e
  have F' : Fr h₀ L s'.heap m := by
    obtain ⟨oL, x1, x2, x3, x4⟩ := F.ns
    exact ⟨⟨oL, x1, x2, keep _ _ hL x3, x4⟩, fun b o e => keep _ _ (Nat.lt_of_lt_of_le (Heap.lt_size e) h0) (F.keep b o e), F.above⟩
  have N' : News h₀ L s'.heap news := fun p hp => ⟨keep _ _ (hk p hp) (N p hp).1, (N p hp).2⟩
  obtain ⟨hsz, hel⟩ := hacc
  obtain ⟨v0, e0⟩ : ∃ v, acc[0]? = some v := ⟨acc[0], by simp [hsz]⟩
  obtain ⟨v1, e1⟩ : ∃ v, acc[1]? = some v := ⟨acc[1], by simp [hsz]⟩
  obtain ⟨t1, r0⟩ := hel 0 v0 e0
  obtain ⟨t2, r1⟩ := hel 1 v1 e1
  have ea : acc = (List.toArray [.int c0 t1, .int c1 t2]) := by
    apply Array.ext
    · rw [hsz]; rfl
    · intro i h1 h2
      have : i = 0 ∨ i = 1 := by omega
      rcases this with rfl | rfl
      · rw [Array.getElem?_eq_getElem h1] at e0; cases e0; rw [r0]; rfl
      · rw [Array.getElem?_eq_getElem h1] at e1; cases e1; rw [r1]; rfl
  subst ea
  have es : s' = { s with heap := s'.heap, toks := s'.toks, gens := s'.gens } := by
    have h1 := hm.drawn
    have h2 := hm.os
    cases s'; cases s
    simp only at h1 h2
    subst h1 h2
    rfl
  have := h s'.heap.objs.size (s'.heap.push (tupO [.int c0 t1, .int c1 t2])) s'.toks s'.gens t1 t2 (F'.push _) (News.push F' N' _ rfl) (fun p hp => Heap.lt_size (N' p hp).1) (G.movedS hm)
  rw [es]
  exact this
end
section
variable {prog : Program} {A : Around} {E : Value → Shared → Prop} {s : Shared} {h₀ : Heap} {L : Addr} {p : Program} {loose : List Str} {mean : ExcName → Option Value} {mg mb : Str → Option Value}
theorem walksS_imp {I : Addr} {fp wr : List Addr} {G : Array GenState → Array GenState → Prop} {n : Nat} {P P' : Nat → Value → Prop} {St : Nat → Shared → Prop} (W : WalksS prog w A I fp wr G n P St) (h : ∀ j y, P j y → P' j y) : WalksS prog w A I fp wr G n P' St where
  sub := W.sub
  grefl := W.grefl
  gtrans := W.gtrans
  frame := W.frame
  item := fun i s Q E hi st hQ => W.item i s Q E hi st fun v s' hv => hQ v s' (h _ _ hv)
  done := W.done
  self := W.self
inductive ZipAt (prog : Program) (w : World) (A : Around) (h₀ : Heap) (L c P : Addr) (Q : Value → Shared → Prop) (xv : Value) (s₁ : Shared) : Prop
  | mk (n p q : Nat) (a0 a1 b0 b1 : Int) (ta0 ta1 tb0 tb1 : Tok) (m : Str → Option Value) (news : List (Addr × Obj)) (ps : Array Value) (ex : xv = .ref (n + 4)) (hz : IsZip s₁.heap (n + 4) (n + 2) (n + 3) .none)
    (hp : ZP s₁.heap n p q (.int a0 ta0) (.int a1 ta1) (.int b0 tb0) (.int b1 tb1) 0) (hp1 : p < n) (hp2 : q < n) (hsz : s₁.heap.objs.size = n + 5) (F : Fr h₀ L s₁.heap m) (N : News h₀ L s₁.heap ((P, tabObj ps) :: news)) (htr : TriplesOk ps.toList) (C : CodeHd h₀ c P)
    (offP : ∀ e ∈ news, e.1 ≠ P) (hlt : ∀ e ∈ (P, tabObj ps) :: news, @LT.lt Nat _ e.1 n) (hL : @LT.lt Nat _ L n) (G : AllBare s₁.gens)
    (hQ : ∀ a h' tk gs ps', Fr h₀ L h' m → News h₀ L h' ((P, tabObj ps') :: news) → TriplesOk ps'.toList → AllBare gs →
      GenR prog w A a 2 (fun j y => ∃ t, y = .int (if j = 0 then a0 + b0 else a1 + b1) t) n { s₁ with heap := h', toks := tk, gens := gs } → Q (.ref a) { s₁ with heap := h', toks := tk, gens := gs }) : ZipAt prog w A h₀ L c P Q xv s₁
theorem gen_zip {env : Env} {xi xj : Str} {pi pj pt pe pl pr : Pos} {kt : Nat} {iter : Expr} {scope : Scope} {pos : Pos} {c P : Addr} {Q : Value → Shared → Prop}
    {m₀ : Str → Option Value} (_F : Fr h₀ L s.heap m₀) (hcode : env.code = .ref c) (hglob : env.globals = mainGlobals) (T : Top p loose mean mg mb h₀)
    (hh : A.handled = none) (hco : scope.isCoroutine = false) (hclos : closureFor scope env = pure []) (hcell : ∀ y ∈ scope.names, y.2 ≠ .cell) (h0 : scope.names.lookup (".0" : Str) = some NameKind.local)
    (hxa : scope.names.lookup xi = some .local) (hxb : scope.names.lookup xj = some .local) (hab : xi ≠ xj) (hkind : scope.kind = .function) (hroom : A.depth < recursionLimit)
    (hdi : (xi == ("__debug__" : Str)) = false) (hdj : (xj == ("__debug__" : Str)) = false)
    (h : wpAny (model prog w) A (eval iter env) (ZipAt prog w A h₀ L c P Q) E s)
    (hs : ∀ x, genFold iter env x = pure x) :
    wpAny (model prog w) A (eval (.GeneratorExp (.BinOp (.Name xi pl) .Add (.Name xj pr) pe) [⟨.Tuple [.Name xi pi, .Name xj pj] kt pt, iter, [], 0⟩] scope pos) env) Q E s := by
  refine wpAny_GeneratorExp_walksQT hh hco hclos hcell h0 hxa hxb hab hkind hroom (wpAny_mono h (fun xv s₁ hz => ?_) fun _ _ e => e) hs
  k_fold
  obtain ⟨n, p1, p2, a0, a1, b0, b1, ta0, ta1, tb0, tb1, m, news, ps, rfl, hz, hp, hp1, hp2, hsz, F, N, htr, C, offP, hlt, hL, G, hQ⟩ := hz
  obtain ⟨bm, ob, M⟩ := bmod_of_top T
  refine wpAny_pyIter_zip hz ⟨T.nolimit.keeps F.keep, ?_⟩
  have hP := (N _ (.head _)).1
  -- what the code's making leaves
  have key : ∀ code h' tk ps', Heap.ExtBut P s₁.heap h' → h'.get? P = some (tabObj ps') → TriplesOk ps'.toList → @LE.le Nat _ (n + 5) h'.objs.size →
      wpAny (model prog w) A (builtinsFor env.globals env.builtins) (fun bi s₄ =>
        ∃ I fp wr n₀ Pt St₀ Mid pz Fv, (Value.ref (n + 4)) = .ref I ∧ (∀ A' : Around, A'.handled = none → WalksU prog w A' I fp wr n₀ Pt St₀ Mid) ∧ (∀ i vals, Pt i vals → ∃ va vb, vals = #[va, vb]) ∧ St₀ 0 s₄.heap ∧ (∀ b ∈ fp, b < s₄.heap.objs.size) ∧ s₄.heap.NoLimit ∧ cStatics ∉ wr ∧
          (∀ href : Heap, (∀ b o, s₄.heap.get? b = some o → href.get? b = some o) →
            QuietGenT prog w (genEnv scope [] s₄.heap.objs.size code bi env) xi xj [] (.BinOp (.Name xi pl) .Add (.Name xj pr) pe) (List.range s₄.heap.objs.size) wr Pt pz Fv href) ∧
          (∀ a h₅ tk gs, gs.bare = true → s₄.heap.objs.size < a → h₅.objs.size = a + 1 → (∀ b o, s₄.heap.get? b = some o → h₅.get? b = some o) →
            WalksS prog w A.in4 a (a :: s₄.heap.objs.size :: List.range s₄.heap.objs.size) (s₄.heap.objs.size :: wr) (GenOnlyQ s₄.gens.size) (passing pz n₀ 0).length
              (fun j y => ∃ i, (passing pz n₀ 0)[j]? = some i ∧ Fv i y) (GenAt prog w A.in4 a s₄.gens.size s₄.heap.objs.size (List.range s₄.heap.objs.size) wr pz n₀ Fv) →
            GenAt prog w A.in4 a s₄.gens.size s₄.heap.objs.size (List.range s₄.heap.objs.size) wr pz n₀ Fv 0 { s₄ with gens := s₄.gens.push gs, toks := tk, heap := h₅ } →
            Q (.ref a) { s₄ with gens := s₄.gens.push gs, toks := tk, heap := h₅ })) E { s₁ with heap := h', toks := tk } := by
    intro code h' tk ps' hx hP' htr' hsz'
    have hPL := (N _ (.head _)).2
    have hPn : @LT.lt Nat _ P n := hlt _ (.head _)
    have F' : Fr h₀ L h' m := by
      obtain ⟨oL, x1, x2, x3, x4⟩ := F.ns
      refine ⟨⟨oL, x1, x2, hx _ _ (Ne.symm hPL.1) x3, x4⟩, fun b o e => hx b o (fun e' => ?_) (F.keep b o e), F.above⟩
      rw [e', hPL.2] at e; cases e
    have N' : News h₀ L h' ((P, tabObj ps') :: news) := List.forall_mem_cons.mpr ⟨⟨hP', hPL⟩, fun e he => ⟨hx _ _ (offP e he) (N e (.tail _ he)).1, (N e (.tail _ he)).2⟩⟩
    have hz' : IsZip h' (n + 4) (n + 2) (n + 3) .none := hx _ _ (show @Ne Nat _ _ by omega) hz
    have hp' : ZP h' n p1 p2 (.int a0 ta0) (.int a1 ta1) (.int b0 tb0) (.int b1 tb1) 0 := by
      refine ⟨hx _ _ (show @Ne Nat _ _ by omega) hp.iter, ?_, iter_at hp.it1 fun o e => hx _ o (show @Ne Nat _ _ by omega) e, iter_at hp.it2 fun o e => hx _ o (show @Ne Nat _ _ by omega) e, tup_at hp.t1 fun o e => hx _ o ?_ e, tup_at hp.t2 fun o e => hx _ o ?_ e⟩
      · obtain ⟨a, b, e⟩ := hp.out; exact ⟨a, b, hx _ _ (show @Ne Nat _ _ by omega) e⟩
      · intro e'
        obtain ⟨o, ho, hc, _⟩ := hp.t1
        rw [e', hP] at ho; cases ho; cases hc
      · intro e'
        obtain ⟨o, ho, hc, _⟩ := hp.t2
        rw [e', hP] at ho; cases ho; cases hc
    refine wpAny_builtinsFor (bm := bm) (o := ob) (by rw [hglob]; exact M.ns.at' fun o e => F'.keep _ o e) M.name M.ne (F'.keep _ _ M.obj) M.cls M.dict M.data ?_
    refine ex9 (n + 4) _ _ 2 _ _ _ (fun _ => true) (fun j y => ∃ t, y = .int (if j = 0 then a0 + b0 else a1 + b1) t) ⟨rfl, fun A' hA => walks_zip hA hp1 hp2, fun i vals hv => by obtain ⟨x, y, _, _, e⟩ := hv; exact ⟨x, y, e⟩, ⟨hz', hp'⟩, ?_, T.nolimit.keeps F'.keep, ?_, ?_, ?_⟩
    · intro b hb
      have hb' : @LT.lt Nat _ b h'.objs.size := by
        simp at hb
        rcases hb with rfl | rfl | rfl | rfl | rfl | rfl | rfl <;> (show @LT.lt Nat _ _ _; omega)
      exact hb'
    · intro hm
      obtain ⟨mc, hns, _⟩ := T.nolimit
      have h1 : @LT.lt Nat _ cStatics h₀.objs.size := hns.lt
      have h2 : @LE.le Nat _ h₀.objs.size L := F.above
      simp at hm
      rcases hm with e | e | e | e <;> (rw [e] at h1; have h1' : @LT.lt Nat _ _ h₀.objs.size := h1; omega)
    · intro href hk
      refine ⟨fun A' E' i va vb s₂ m₂ hA hPi hn ha hb hfp => ?_, fun A' E' i va vb s₂ m₂ hA hPi _ hn ha hb hfp => ?_⟩
      · rw [List.forIn_nil]
        exact wpAny_pure ⟨rfl, s₂.heap, s₂.toks, rfl, fun _ _ e => e⟩
      · obtain ⟨x, y, hx1, hy1, e⟩ := hPi
        have e1 : va = x ∧ vb = y := by simpa using congrArg Array.toList e
        obtain ⟨rfl, rfl⟩ := e1
        have hv : (i = 0 ∧ va = .int a0 ta0 ∧ vb = .int b0 tb0) ∨ (i = 1 ∧ va = .int a1 ta1 ∧ vb = .int b1 tb1) := by
          match i, hx1, hy1 with
          | 0, hx1, hy1 => cases hx1; cases hy1; exact .inl ⟨rfl, rfl, rfl⟩
          | 1, hx1, hy1 => cases hx1; cases hy1; exact .inr ⟨rfl, rfl, rfl⟩
          | k + 2, hx1, hy1 => simp at hx1
        refine wpAny_BinOp ?_
        refine wpAny_Name (wpAny_loadName_local (by simpa [genEnv] using hkind) (by simpa [genEnv, Env.kindOf] using hxa) hn ha ?_) hdi
        refine wpAny_Name (wpAny_loadName_local (by simpa [genEnv] using hkind) (by simpa [genEnv, Env.kindOf] using hxb) hn hb ?_) hdj
        rcases hv with ⟨rfl, rfl, rfl⟩ | ⟨rfl, rfl, rfl⟩
        · exact add_int ⟨⟨_, rfl⟩, _, _, rfl, fun _ _ e => e⟩
        · exact add_int ⟨⟨_, rfl⟩, _, _, rfl, fun _ _ e => e⟩
    · intro a h₅ tk₅ gs hgs hlta hsz₅ hk₅ W X
      have F₅ : Fr h₀ L h₅ m := F'.keeps hk₅
      have N₅ : News h₀ L h₅ ((P, tabObj ps') :: news) := fun e he => ⟨hk₅ _ _ (N' e he).1, (N' e he).2⟩
      have hpass : passing (fun _ => true) 2 0 = [0, 1] := rfl
      rw [hpass] at W
      have W' := walksS_imp W (P' := fun j y => ∃ t, y = .int (if j = 0 then a0 + b0 else a1 + b1) t) fun j y hj => by
        obtain ⟨i, hi, t, e⟩ := hj
        match j, hi with
        | 0, hi => cases hi; exact ⟨t, e⟩
        | 1, hi => cases hi; exact ⟨t, e⟩
        | k + 2, hi => simp at hi
      refine hQ a h₅ tk₅ _ ps' F₅ N₅ htr' (G.push hgs) ⟨_, _, _, _, W', X, fun i s' st => st.1.typeIs, List.mem_cons_self, ?_, ?_⟩
      · intro b hb
        have h1 : @LT.lt Nat _ h'.objs.size a := hlta
        have h2 : @Eq Nat h₅.objs.size (a + 1) := hsz₅
        show @LT.lt Nat _ b h₅.objs.size
        rcases List.mem_cons.mp hb with rfl | hb
        · omega
        rcases List.mem_cons.mp hb with rfl | hb
        · show @LT.lt Nat _ h'.objs.size h₅.objs.size; omega
        · have h3 : @LT.lt Nat _ b h'.objs.size := List.mem_range.mp hb
          omega
      · intro b hb
        have h2 : @LE.le Nat _ (n + 5) h'.objs.size := hsz'
        simp at hb
        rcases hb with rfl | rfl | rfl | rfl | rfl <;> (show @LE.le Nat _ _ _; omega)
  have hsz5 : @LE.le Nat _ (n + 5) s₁.heap.objs.size := Nat.le_of_eq hsz.symm
  have C1 : CodeHd s₁.heap c P := C.keeps F.keep
  cases hnf : codeAmong pos ps.toList with
  | some c' => exact wpAny_genexprCode_hit hcode (C1.code hP htr) hnf (key c' s₁.heap s₁.toks ps (Heap.ExtBut.refl _ _) hP htr hsz5)
  | none =>
    refine wpAny_genexprCodeX hcode (C1.code hP htr) (C1.tab hP) hnf fun c' h' tk hx hc1 hc2 _ _ htab' _ => key _ h' tk _ hx htab'.2 ?_ ?_
    · have hl : (ps ++ #[rawInt pos.line, rawInt pos.col, Value.ref c']).toList = ps.toList ++ [rawInt pos.line, rawInt pos.col, .ref c'] := by simp
      rw [hl]; exact TriplesOk_snoc _ _ _ _ htr
    · have h1 : @LE.le Nat _ s₁.heap.objs.size c' := hc1
      have h2 : @LT.lt Nat _ c' h'.objs.size := hc2
      omega
end
section
variable {prog : Program} {A : Around} {E : Value → Shared → Prop} {s : Shared} {env : Env} {h₀ : Heap} {xk xv : Str} {body : List Stmt} {Q : Flow → Shared → Prop}
theorem items_loopG {K : Type} [DecidableEq K] {knd : KeyKind prog w K} {d vw : Addr} {od : Obj} {kvs : List (K × Value)} {m₀ : Str → Option Value} {news : List (Addr × Obj)} (J : Nat → (Str → Option Value) → List (Addr × Obj) → Prop) (GB : Array GenState → Prop) (hGB : GB s.gens)
    (hh : A.handled = none) (hxk : env.kindOf xk = some .local) (hxv : env.kindOf xv = some .local) (hp : (env.scope.kind == .class || (env.scope.kind == .module && env.locals != env.globals)) = false)
    (hvw : ∃ ov, s.heap.get? vw = some ov ∧ ov.cls = .type "dict_items" ∧ ov.data = .fields #[.ref d]) (hm : (d, od) ∈ news) (hd : od.IsDictOf knd kvs)
    (F : Fr h₀ env.locals s.heap m₀) (N : News h₀ env.locals s.heap news) (hj : J 0 m₀ news) (hJm : ∀ i m₁ news₁, J i m₁ news₁ → (d, od) ∈ news₁)
    (turn : ∀ (i : Nat) k v key m₁ news₁ h tk gs I oI, GB gs → kvs[i]? = some (k, v) → knd.is k key = true → J i m₁ news₁ → (∀ p ∈ news₁, p.1 ≠ I) → Fr h₀ env.locals h (fun y => if y = xv then some v else if y = xk then some key else m₁ y) → News h₀ env.locals h ((I, oI) :: news₁) →
      wpAny (model prog w) A (execs body env) (TurnG GB h₀ env.locals (J (i + 1)) I oI { s with heap := h, toks := tk, gens := gs } Q) (notedBy (model prog w) A env fun e s' => cameBackBy (model prog w) A env E e s') { s with heap := h, toks := tk, gens := gs })
    (done : ∀ m₁ news₁ h tk gs, GB gs → J kvs.length m₁ news₁ → Fr h₀ env.locals h m₁ → News h₀ env.locals h news₁ → Q .next { s with heap := h, toks := tk, gens := gs }) :
    wpAny (model prog w) A (pyIter (.ref vw)) (fun it s₂ => PairLoopAt prog w A h₀ env xk xv body Q E it s₂) E s := by
  obtain ⟨ep, hat⟩ := (kda_dict N hm hd).dictAt
  have hne : d ≠ s.heap.objs.size := Nat.ne_of_lt hat.lt_size
  refine wpAny_pyIter_items hvw hat ?_
  refine pair_loopG (P := fun i a b => ∃ k, kvs[i]? = some (k, b) ∧ knd.is k a = true) (walks_items hh s.heap.objs.size d hne kvs ep) J GB hGB hh hxk hxv hp ?_ ?_ ?_ ?_ ?_ ⟨⟨.none, .none, Heap.get?_push_size _ rfl⟩, hat.push _⟩ (F.push _) (fun p hp => ⟨Heap.get?_push_of_some _ (N p hp).1, (N p hp).2⟩) (fun p hp => Nat.ne_of_lt (Heap.lt_size (N p hp).1)) hj ?_ done
  · rintro i vals ⟨k, v, key, hx, hk, rfl⟩; exact ⟨key, v, rfl, k, hx, hk⟩
  · rintro i h ⟨⟨ok, ov, e⟩, _⟩; exact ⟨_, e⟩
  · intro e; exact absurd F.ns.lt (e ▸ Nat.lt_irrefl _)
  · exact next_is_new F
  · intro b hb hbI
    rcases List.mem_cons.mp hb with e | hb
    · exact absurd e hbI
    · exact ⟨od, fun i m₁ news₁ hJ => (List.mem_singleton.mp hb) ▸ hJm i m₁ news₁ hJ⟩
  · rintro i a b m₁ news₁ h tk gs oI gb hi ⟨k, hx, hk⟩ hJ off F' N'
    exact turn i k b a m₁ news₁ h tk gs _ oI gb hx hk hJ off F' N'
end
inductive Cal (news : List (Addr × Obj)) : List (Str × Value) → List (Str × Int × Int) → Prop
  | nil : Cal news [] []
  | cons {k : Str} {P : Addr} {c t : Int} {tc tt : Tok} {kvs : List (Str × Value)} {cs : List (Str × Int × Int)} (h : (P, tupO [.int c tc, .int t tt]) ∈ news) (r : Cal news kvs cs) : Cal news ((k, .ref P) :: kvs) ((k, c, t) :: cs)
theorem map2 {xk xv : Str} {m₀ m' : Str → Option Value} {a b : Option Value} (h : ∀ y : Str, y ≠ xk → y ≠ xv → m' y = m₀ y) : (fun y : Str => if y = xv then b else if y = xk then a else m' y) = fun y : Str => if y = xv then b else if y = xk then a else m₀ y := by
  funext y
  by_cases h1 : y = xv
  · rw [if_pos h1, if_pos h1]
  by_cases h2 : y = xk
  · rw [if_neg h1, if_neg h1, if_pos h2, if_pos h2]
  · rw [if_neg h1, if_neg h1, if_neg h2, if_neg h2, h y h2 h1]
theorem str_key {prog : Program} {k : Str} {v : Value} (h : (PySem.strKind prog w).is k v = true) : ∃ t, v = .str k t := Value.isStrOf_shape h
theorem stored_take {kvs : List (Str × Value)} {i : Nat} {k : Str} {v : Value} (hx : kvs[i]? = some (k, v)) (hn : (kvs.map (·.1)).Nodup) : stored (kvs.take i) k v = kvs.take (i + 1) := by
  have hi : i < kvs.length := (List.getElem?_eq_some_iff.mp hx).1
  have h1 : (kvs.take i).any (fun kv => kv.1 = k) = false := by
    rw [List.any_eq_false]
    intro p hp
    simp only [decide_eq_true_eq]
    intro e
    obtain ⟨j, hj, hjp⟩ := List.mem_iff_getElem.mp hp
    rw [List.length_take] at hj
    have hji : j < i := by omega
    rw [List.getElem_take] at hjp
    have e1 : (kvs.map (·.1))[j]? = some k := by rw [List.getElem?_map, List.getElem?_eq_getElem (by omega), hjp, Option.map_some, e]
    have e2 : (kvs.map (·.1))[i]? = some k := by rw [List.getElem?_map, hx]; rfl
    have := (List.getElem?_inj (by rw [List.length_map]; omega) hn).mp (e1.trans e2.symm)
    omega
  unfold stored
  rw [h1, List.take_add_one, hx]
  rfl
section
variable {prog : Program} {A : Around} {E : Value → Shared → Prop} {s : Shared} {env : Env} {h₀ : Heap} {body : List Stmt} {Q : Flow → Shared → Prop}
noncomputable def CopyJ (prog : Program) (w : World) (m₀ : Str → Option Value) (R : List (Addr × Obj)) (D : Addr) (kvs : List (Str × Value)) (i : Nat) (m' : Str → Option Value) (news' : List (Addr × Obj)) : Prop :=
  (∀ y : Str, y ≠ "func" → y ≠ "caller" → m' y = m₀ y) ∧ ∃ o' : Obj, news' = (D, o') :: R ∧ o'.IsDictOf (PySem.strKind prog w) (kvs.take i)
theorem copy_loop {D d vw : Addr} {od oD : Obj} {kvs : List (Str × Value)} {m₀ : Str → Option Value} {R : List (Addr × Obj)}
    (hh : A.handled = none) (hxk : env.kindOf "func" = some .local) (hxv : env.kindOf "caller" = some .local) (hp : (env.scope.kind == .class || (env.scope.kind == .module && env.locals != env.globals)) = false)
    (hvw : ∃ ov, s.heap.get? vw = some ov ∧ ov.cls = .type "dict_items" ∧ ov.data = .fields #[.ref d]) (hm : (d, od) ∈ R) (hd : od.IsDictOf (PySem.strKind prog w) kvs) (hD : oD.IsDictOf (PySem.strKind prog w) ([] : List (Str × Value)))
    (F : Fr h₀ env.locals s.heap m₀) (N : News h₀ env.locals s.heap ((D, oD) :: R))
    (turn : ∀ (i : Nat) k v t h tk I oI o', kvs[i]? = some (k, v) → o'.IsDictOf (PySem.strKind prog w) (kvs.take i) → @Ne Nat I D → (∀ p ∈ R, p.1 ≠ I) → Fr h₀ env.locals h (fun y : Str => if y = "caller" then some v else if y = "func" then some (.str k t) else m₀ y) → News h₀ env.locals h ((I, oI) :: (D, o') :: R) →
      wpAny (model prog w) A (execs body env) (TurnJ h₀ env.locals (CopyJ prog w m₀ R D kvs (i + 1)) I oI { s with heap := h, toks := tk } Q) (notedBy (model prog w) A env fun e s' => cameBackBy (model prog w) A env E e s') { s with heap := h, toks := tk })
    (done : ∀ o' fv cv h tk, o'.IsDictOf (PySem.strKind prog w) kvs → Fr h₀ env.locals h (fun y : Str => if y = "caller" then cv else if y = "func" then fv else m₀ y) → News h₀ env.locals h ((D, o') :: R) → Q .next { s with heap := h, toks := tk }) :
    wpAny (model prog w) A (pyIter (.ref vw)) (fun it s₂ => PairLoopAt prog w A h₀ env "func" "caller" body Q E it s₂) E s := by
  refine items_loop (CopyJ prog w m₀ R D kvs) hh hxk hxv hp hvw (.tail _ hm) hd F N ⟨fun _ _ _ => rfl, oD, rfl, hD⟩ ?_ ?_ ?_
  · rintro i m₁ news₁ ⟨_, o', rfl, _⟩; exact .tail _ hm
  · rintro i k v key m₁ news₁ h tk I oI hx hk ⟨hmap, o', rfl, ho'⟩ off F' N'
    obtain ⟨t, rfl⟩ := str_key hk
    rw [map2 hmap] at F'
    exact turn i k v t h tk I oI o' hx ho' (fun e => off _ (.head _) e.symm) (fun p hp => off p (.tail _ hp)) F' N'
  · rintro m₁ news₁ h tk ⟨hmap, o', rfl, ho'⟩ F' N'
    rw [List.take_length] at ho'
    have e : m₁ = fun y : Str => if y = "caller" then m₁ "caller" else if y = "func" then m₁ "func" else m₀ y := by
      funext y
      by_cases h1 : y = "caller"
      · rw [if_pos h1, h1]
      by_cases h2 : y = "func"
      · rw [if_neg h1, if_pos h2, h2]
      · rw [if_neg h1, if_neg h2, hmap y h2 h1]
    rw [e] at F'
    exact done o' _ _ h tk ho' F' N'
theorem copy_next {D I : Addr} {o' oI : Obj} {kvs : List (Str × Value)} {m₀ m' : Str → Option Value} {R : List (Addr × Obj)} {i : Nat} {k : Str} {v : Value} {h : Heap} {tk : Nat} (F : Fr h₀ env.locals h m') (N : News h₀ env.locals h ((I, oI) :: (D, o') :: R))
    (hx : kvs[i]? = some (k, v)) (hn : (kvs.map (·.1)).Nodup) (hd : o'.IsDictOf (PySem.strKind prog w) (stored (kvs.take i) k v)) (hI : @Ne Nat I D) (off : ∀ p ∈ R, p.1 ≠ I) (hm : ∀ y : Str, y ≠ "func" → y ≠ "caller" → m' y = m₀ y) :
    TurnJ h₀ env.locals (CopyJ prog w m₀ R D kvs (i + 1)) I oI s Q .next { s with heap := h, toks := tk } := by
  rw [stored_take hx hn] at hd
  exact TurnJ.next F N (List.forall_mem_cons.mpr ⟨Ne.symm hI, off⟩) ⟨hm, o', rfl, hd⟩
noncomputable def OneJ (m₀ : Str → Option Value) (R : List (Addr × Obj)) (Fin : List (Addr × Obj) → Prop) (d : Addr) (od : Obj) (i : Nat) (m' : Str → Option Value) (news' : List (Addr × Obj)) : Prop :=
  (∀ y : Str, y ≠ "func" → y ≠ "caller" → m' y = m₀ y) ∧ (i = 0 → news' = R) ∧ (i = 1 → Fin news') ∧ (d, od) ∈ news'
theorem one_loop {d vw D : Addr} {od oD : Obj} {u : Str} {x : Value} {m₀ : Str → Option Value} {R : List (Addr × Obj)} (Fin : Addr → List (Addr × Obj) → Prop) (GB : Array GenState → Prop) (hGB : GB s.gens)
    (hh : A.handled = none) (hxk : env.kindOf "func" = some .local) (hxv : env.kindOf "caller" = some .local) (hp : (env.scope.kind == .class || (env.scope.kind == .module && env.locals != env.globals)) = false)
    (hvw : ∃ ov, s.heap.get? vw = some ov ∧ ov.cls = .type "dict_items" ∧ ov.data = .fields #[.ref d]) (hm : (d, od) ∈ R) (hd : od.IsDictOf (PySem.strKind prog w) [(u, x)])
    (F : Fr h₀ env.locals s.heap m₀) (N : News h₀ env.locals s.heap ((D, oD) :: R))
    (turn : ∀ t h tk gs I oI, GB gs → @Ne Nat I D → (∀ p ∈ R, p.1 ≠ I) → Fr h₀ env.locals h (fun y : Str => if y = "caller" then some x else if y = "func" then some (.str u t) else m₀ y) → News h₀ env.locals h ((I, oI) :: (D, oD) :: R) →
      wpAny (model prog w) A (execs body env) (TurnG GB h₀ env.locals (OneJ m₀ ((D, oD) :: R) (Fin D) d od 1) I oI { s with heap := h, toks := tk, gens := gs } Q) (notedBy (model prog w) A env fun e s' => cameBackBy (model prog w) A env E e s') { s with heap := h, toks := tk, gens := gs })
    (done : ∀ news' fv cv h tk gs, GB gs → Fin D news' → Fr h₀ env.locals h (fun y : Str => if y = "caller" then cv else if y = "func" then fv else m₀ y) → News h₀ env.locals h news' → Q .next { s with heap := h, toks := tk, gens := gs }) :
    wpAny (model prog w) A (pyIter (.ref vw)) (fun it s₂ => PairLoopAt prog w A h₀ env "func" "caller" body Q E it s₂) E s := by
  refine items_loopG (OneJ m₀ ((D, oD) :: R) (Fin D) d od) GB hGB hh hxk hxv hp hvw (.tail _ hm) hd F N ⟨fun _ _ _ => rfl, fun _ => rfl, (fun e => by cases e), .tail _ hm⟩ ?_ ?_ ?_
  · rintro i m₁ news₁ ⟨_, _, _, h⟩; exact h
  · rintro i k v key m₁ news₁ h tk gs I oI gb hx hk ⟨hmap, h0, _, _⟩ off F' N'
    match i, hx with
    | 0, hx =>
      cases hx
      cases h0 rfl
      obtain ⟨t, rfl⟩ := str_key hk
      rw [map2 hmap] at F'
      exact turn t h tk gs I oI gb (fun e => off _ (.head _) e.symm) (fun p hp => off p (.tail _ hp)) F' N'
    | j + 1, hx => simp at hx
  · rintro m₁ news₁ h tk gs gb ⟨hmap, _, h1, _⟩ F' N'
    have e : m₁ = fun y : Str => if y = "caller" then m₁ "caller" else if y = "func" then m₁ "func" else m₀ y := by
      funext y
      by_cases h1 : y = "caller"
      · rw [if_pos h1, h1]
      by_cases h2 : y = "func"
      · rw [if_neg h1, if_pos h2, h2]
      · rw [if_neg h1, if_neg h2, hmap y h2 h1]
    rw [e] at F'
    exact done news₁ _ _ h tk gs gb (h1 rfl) F' N'
theorem one_next {d D I : Addr} {od oD oI : Obj} {m₀ m' : Str → Option Value} {R news' : List (Addr × Obj)} {Fin : Addr → List (Addr × Obj) → Prop} {GB : Array GenState → Prop} {h : Heap} {tk : Nat} {gs : Array GenState} (gb : GB gs) (F : Fr h₀ env.locals h m') (N : News h₀ env.locals h ((I, oI) :: news'))
    (hF : Fin D news') (off : ∀ p ∈ news', p.1 ≠ I) (hm : ∀ y : Str, y ≠ "func" → y ≠ "caller" → m' y = m₀ y) (hd : (d, od) ∈ news') :
    TurnG GB h₀ env.locals (OneJ m₀ ((D, oD) :: R) (Fin D) d od 1) I oI s Q .next { s with heap := h, toks := tk, gens := gs } :=
  TurnG.next gb F N off ⟨hm, (fun e => by cases e), fun _ => hF, hd⟩
end
theorem isSome_none {kvs : List (Str × Value)} {u : Str} (h : valueAt kvs u = none) : (valueAt kvs u).isSome = false := by rw [h]; rfl
theorem isSome_some {kvs : List (Str × Value)} {u : Str} {v : Value} (h : valueAt kvs u = some v) : (valueAt kvs u).isSome = true := by rw [h]; rfl
theorem take_size {kvs : List (Str × Value)} {i : Nat} (h : kvs.length ≤ 1000) : (kvs.take i).length ≤ sizeLine := by rw [List.length_take, sizeLine_eq]; omega
theorem dict_size {kvs : List (Str × Value)} (h : kvs.length ≤ 1000) : kvs.length ≤ sizeLine := by rw [sizeLine_eq]; omega
theorem dict_nodup {prog : Program} {K : Type} [DecidableEq K] {knd : KeyKind prog w K} {o : Obj} {kvs : List (K × Value)} (h : o.IsDictOf knd kvs) : (kvs.map (·.1)).Nodup := by
  obtain ⟨es, ep, _, _, _, _, hn⟩ := h
  exact hn
theorem stored_length {kvs : List (Str × Value)} {k : Str} {v : Value} : (stored kvs k v).length ≤ kvs.length + 1 := by
  unfold stored
  split
  · rw [List.length_map]; omega
  · rw [List.length_append]; simp
theorem Cal.mono {news news' : List (Addr × Obj)} {kvs : List (Str × Value)} {cs : List (Str × Int × Int)} (h : Cal news kvs cs) (sub : ∀ p ∈ news, p ∈ news') : Cal news' kvs cs := by
  induction h with
  | nil => exact .nil
  | cons h _ ih => exact .cons (sub _ h) ih
noncomputable def addC (cs : List (Str × Int × Int)) (u : Str) (a b : Int) : List (Str × Int × Int) := if cs.any (fun e => e.1 = u) then cs.map (fun e => if e.1 = u then (e.1, a + e.2.1, b + e.2.2) else e) else cs ++ [(u, a, b)]
theorem Cal.keys {news : List (Addr × Obj)} {kvs : List (Str × Value)} {cs : List (Str × Int × Int)} (h : Cal news kvs cs) : kvs.map (·.1) = cs.map (·.1) := by
  induction h with
  | nil => rfl
  | cons _ _ ih => simp [ih]
theorem any_key {α : Type} {l : List (Str × α)} {u : Str} : l.any (fun e => e.1 = u) = (l.map (·.1)).any (fun k => k = u) := by rw [List.any_map]; rfl
theorem valueAt_none {kvs : List (Str × Value)} {u : Str} (h : valueAt kvs u = none) : kvs.any (fun e => e.1 = u) = false := by
  unfold valueAt at h
  rw [Option.map_eq_none_iff, List.find?_eq_none] at h
  rw [List.any_eq_false]
  exact h
theorem valueAt_some {kvs : List (Str × Value)} {u : Str} {v : Value} (h : valueAt kvs u = some v) : kvs.any (fun e => e.1 = u) = true := by
  unfold valueAt at h
  rw [Option.map_eq_some_iff] at h
  obtain ⟨p, hp, _⟩ := h
  exact List.any_eq_true.mpr ⟨p, List.mem_of_find?_eq_some hp, by simpa using List.find?_some hp⟩
theorem Cal.append {news : List (Addr × Obj)} {kvs : List (Str × Value)} {cs : List (Str × Int × Int)} (h : Cal news kvs cs) {k : Str} {P : Addr} {c t : Int} {tc tt : Tok} (hP : (P, tupO [.int c tc, .int t tt]) ∈ news) : Cal news (kvs ++ [(k, .ref P)]) (cs ++ [(k, c, t)]) := by
  induction h with
  | nil => exact .cons hP .nil
  | cons h _ ih => exact .cons h ih
theorem Cal.new {news : List (Addr × Obj)} {kvs : List (Str × Value)} {cs : List (Str × Int × Int)} (h : Cal news kvs cs) {u : Str} {P : Addr} {a b : Int} {tc tt : Tok} (hv : valueAt kvs u = none) (hP : (P, tupO [.int a tc, .int b tt]) ∈ news) : Cal news (stored kvs u (.ref P)) (addC cs u a b) := by
  have e := valueAt_none hv
  unfold stored addC
  rw [e, any_key, ← h.keys, ← any_key, e]
  exact h.append hP
theorem Cal.at {news : List (Addr × Obj)} {kvs : List (Str × Value)} {cs : List (Str × Int × Int)} (h : Cal news kvs cs) {u : Str} {v : Value} (hv : valueAt kvs u = some v) (hn : (kvs.map (·.1)).Nodup) :
    ∃ P c t tc tt, v = .ref P ∧ (P, tupO [.int c tc, .int t tt]) ∈ news ∧ ∀ news', (∀ p ∈ news, p ∈ news') → ∀ P' a b ta tb, (P', tupO [.int (a + c) ta, .int (b + t) tb]) ∈ news' → Cal news' (stored kvs u (.ref P')) (addC cs u a b) := by
  have key : ∀ {kvs : List (Str × Value)} {cs : List (Str × Int × Int)}, Cal news kvs cs → valueAt kvs u = some v → (kvs.map (·.1)).Nodup → ∃ P c t tc tt, v = .ref P ∧ (P, tupO [.int c tc, .int t tt]) ∈ news ∧ ∀ news', (∀ p ∈ news, p ∈ news') → ∀ P' a b ta tb, (P', tupO [.int (a + c) ta, .int (b + t) tb]) ∈ news' →
      Cal news' (kvs.map fun kv => if kv.1 = u then (kv.1, Value.ref P') else kv) (cs.map fun e => if e.1 = u then (e.1, a + e.2.1, b + e.2.2) else e) := by
    intro kvs cs h
    induction h with
    | nil => intro hv; cases hv
    | @cons k P c t tc tt kvs cs hP r ih =>
      intro hv hn
      have hn' := List.nodup_cons.mp (by simpa only [List.map_cons] using hn)
      by_cases hk : k = u
      · have e1 : valueAt ((k, Value.ref P) :: kvs) u = some (.ref P) := by simp [valueAt, hk]
        rw [e1] at hv
        cases hv
        refine ⟨P, c, t, tc, tt, rfl, hP, fun news' sub P' a b ta tb hP' => ?_⟩
        have hno : ∀ kv ∈ kvs, kv.1 ≠ u := fun kv hkv e => hn'.1 (by rw [hk, ← e]; exact List.mem_map_of_mem hkv)
        have hno2 : ∀ e ∈ cs, e.1 ≠ u := fun e he e2 => hn'.1 (by rw [r.keys, hk, ← e2]; exact List.mem_map_of_mem he)
        have m1 : (kvs.map fun kv => if kv.1 = u then (kv.1, Value.ref P') else kv) = kvs := (List.map_congr_left fun kv hkv => if_neg (hno kv hkv)).trans (List.map_id' kvs)
        have m2 : (cs.map fun e => if e.1 = u then (e.1, a + e.2.1, b + e.2.2) else e) = cs := (List.map_congr_left fun e he => if_neg (hno2 e he)).trans (List.map_id' cs)
        rw [List.map_cons, List.map_cons, if_pos hk, if_pos hk, m1, m2]
        exact .cons hP' (r.mono sub)
      · have e1 : valueAt ((k, Value.ref P) :: kvs) u = valueAt kvs u := by simp [valueAt, hk]
        rw [e1] at hv
        obtain ⟨P1, c1, t1, tc1, tt1, ev, hP1, hmk⟩ := ih hv hn'.2
        refine ⟨P1, c1, t1, tc1, tt1, ev, hP1, fun news' sub P' a b ta tb hP' => ?_⟩
        rw [List.map_cons, List.map_cons, if_neg hk, if_neg hk]
        exact .cons (sub _ hP) (hmk news' sub P' a b ta tb hP')
  obtain ⟨P, c, t, tc, tt, ev, hP, hmk⟩ := key h hv hn
  refine ⟨P, c, t, tc, tt, ev, hP, fun news' sub P' a b ta tb hP' => ?_⟩
  have e := valueAt_some hv
  unfold stored addC
  rw [e, any_key, ← h.keys, ← any_key, e]
  exact hmk news' sub P' a b ta tb hP'
section
variable {prog : Program} {A : Around} {E : Value → Shared → Prop} {s : Shared} {h₀ : Heap} {L : Addr} {m : Str → Option Value}
theorem items_method {d : Addr} {o : Obj} {kvs : List (Str × Value)} {news : List (Addr × Obj)} {pl : Sem Bool} {Q : Value × List Value → Shared → Prop} (N : News h₀ L s.heap news) (hp : (d, o) ∈ news) (hd : o.IsDictOf (PySem.strKind prog w) kvs) (h : Q (.builtin "dict.items", [.ref d]) s) : wpAny (model prog w) A (getMethod (.ref d) "items" pl) Q E s :=
  have hD := kda_dict N hp hd
  getMethod_builtin hD.typeIs PySem.F.plainAttrs_dict PySem.F.slot_dict_items PySem.F.type_dict_items hD.mapOf.noDict h
theorem zip_at {c P p q : Addr} {a0 a1 b0 b1 : Int} {ta0 ta1 tb0 tb1 : Tok} {news : List (Addr × Obj)} {ps : Array Value} {Q : Value → Shared → Prop} (F : Fr h₀ L s.heap m) (N : News h₀ L s.heap ((P, tabObj ps) :: news))
    (hp : (p, tupO [.int a0 ta0, .int a1 ta1]) ∈ news) (hq : (q, tupO [.int b0 tb0, .int b1 tb1]) ∈ news) (htr : TriplesOk ps.toList) (C : CodeHd h₀ c P) (offP : ∀ e ∈ news, e.1 ≠ P) (G : AllBare s.gens)
    (h : ∀ (k : Nat) a h' tk gs ps', (∀ e ∈ (P, tabObj ps') :: news, @LT.lt Nat _ e.1 k) → @LT.lt Nat _ L k → @LE.le Nat _ h₀.objs.size k → Fr h₀ L h' m → News h₀ L h' ((P, tabObj ps') :: news) → TriplesOk ps'.toList → AllBare gs →
      GenR prog w A a 2 (fun j y => ∃ t, y = .int (if j = 0 then a0 + b0 else a1 + b1) t) k { s with heap := h', toks := tk, gens := gs } → Q (.ref a) { s with heap := h', toks := tk, gens := gs }) :
    wpAny (model prog w) A (call (.type "zip") [.ref p, .ref q]) (ZipAt prog w A h₀ L c P Q) E s := by
  have t1 : s.heap.IsTuple p #[.int a0 ta0, .int a1 ta1] := ⟨_, (N _ (.tail _ hp)).1, rfl, _, rfl⟩
  have t2 : s.heap.IsTuple q #[.int b0 tb0, .int b1 tb1] := ⟨_, (N _ (.tail _ hq)).1, rfl, _, rfl⟩
  refine call_zip_tuples t1 t2 fun h' hz hzp hsz hk => ?_
  have lt : ∀ e ∈ (P, tabObj ps) :: news, @LT.lt Nat _ e.1 s.heap.objs.size := fun e he => Heap.lt_size (N e he).1
  refine ⟨s.heap.objs.size, p, q, a0, a1, b0, b1, ta0, ta1, tb0, tb1, m, news, ps, rfl, hz, hzp, lt _ (.tail _ hp), lt _ (.tail _ hq), hsz, F.keeps hk, fun e he => ⟨hk _ _ (N e he).1, (N e he).2⟩, htr, C, offP, lt, F.ns.lt, G, ?_⟩
  intro a h'' tk gs ps' F' N' htr' G' X
  refine h s.heap.objs.size a h'' tk gs ps' (List.forall_mem_cons.mpr ⟨(show @LT.lt Nat _ P s.heap.objs.size from lt (P, tabObj ps) (.head _)), fun e he => lt e (.tail _ he)⟩) F.ns.lt (Nat.le_trans F.above (Nat.le_of_lt F.ns.lt)) F' N' htr' G' X
end
inductive CalFin (w : World) (news n0 : List (Addr × Obj)) (kt : List (Str × Value)) (ct : List (Str × Int × Int)) (u : Str) (tn : Int) (D : Addr) (n' : List (Addr × Obj)) : Prop
  | mk (o' : Obj) (ex : List (Addr × Obj)) (ps' : Array Value) (kt' : List (Str × Value)) (zz1 : n' = (D, o') :: (ex ++ (129, tabObj ps') :: news)) (zz2 : o'.IsDictOf (PySem.strKind PySem.Challenge.rw_xo0026_01.row.prog w) kt') (zz3 : Cal (ex ++ n0) kt' (addC ct u 1 tn)) (zz4 : (∀ p ∈ ex, @LT.lt Nat _ D p.1)) (zz5 : TriplesOk ps'.toList) (zz6 : kt'.length ≤ kt.length + 1) : CalFin w news n0 kt ct u tn D n'
theorem rot3 {h₀ h : Heap} {L : Addr} {e1 e2 e3 : Addr × Obj} {r : List (Addr × Obj)} (N : News h₀ L h (e1 :: e2 :: e3 :: r)) : News h₀ L h (e3 :: e1 :: e2 :: r) := fun p hp => N p (by revert p; k_extra "subl")
theorem rot22 {h₀ h : Heap} {L : Addr} {e1 e2 e3 e4 : Addr × Obj} {r : List (Addr × Obj)} (N : News h₀ L h (e1 :: e2 :: e3 :: e4 :: r)) : News h₀ L h (e3 :: e4 :: e1 :: e2 :: r) := fun p hp => N p (by revert p; k_extra "subl")
section
variable {mg mb : Str → Option Value} {mean : ExcName → Option Value} {loose : List Str} {dp un : Nat} {gd : Option (List Code)} {cn : Str} {cs : Scope} {a : Addr} {ccd : Value} {cl : List (Str × Addr)} {outer : List Env} {A₀ : Around} {base h₀ : Heap} {L : Addr} {m : Str → Option Value} {s : Shared} {Q E : Value → Shared → Prop}
theorem off_addcall_1 : True := by
  w_top off
  k_with_none
  k_with "subl" => ((repeat' (first | refine List.forall_mem_cons.mpr ⟨by (repeat (first | exact List.Mem.head _ | refine List.Mem.tail _ ?_ | refine List.mem_append_right _ ?_)), ?_⟩ | refine List.forall_mem_append.mpr ⟨?_, ?_⟩)); all_goals (intro _ hpw219; (repeat (first | exact hpw219 | refine List.Mem.tail _ ?_ | exact List.mem_append_left _ hpw219 | refine List.mem_append_right _ ?_))))
  k_with "pk" => (with_reducible first | exact pk1 ‹_› | exact pk2 ‹_› | exact pk3 ‹_› | exact pk4 ‹_› | exact pk5 ‹_› | exact pk6 ‹_› | exact pk7 ‹_› | exact pk8 ‹_› | exact pk9 ‹_› | exact pk10 ‹_› | exact pk11 ‹_› | exact pk12 ‹_› | exact pk13 ‹_› | exact pk14 ‹_› | exact pl2 ‹_› | exact pl3 ‹_› | exact pl4 ‹_› | exact pl5 ‹_› | exact pl6 ‹_› | exact pl7 ‹_›)
  k_with "suc" => (with_reducible first | exact lts1 | exact lts2 | exact lts3 | exact lts4 | exact lts5 | exact lts6 | exact lts7)
  k_with "hop" => (with_reducible first | exact ‹_› | k_extra "pk" | (refine Nat.lt_trans ?_ (by first | assumption | k_extra "pk"); k_extra "hop"))
  k_with "om" => (first | (with_reducible first | ((show @Ne Nat _ _); (try dsimp only); first | exact ‹_› | exact Ne.symm ‹_› | exact Nat.ne_of_lt (by k_extra "suc") | exact Nat.ne_of_gt (by k_extra "suc") | ((fail_if_success (fail_if_success refine cj2 ‹_› ?_)); exact Nat.ne_of_gt (by k_extra "pk")) | ((fail_if_success (fail_if_success refine cj1 ‹_› ?_)); exact Nat.ne_of_lt (by k_extra "pk")) | ((fail_if_success (fail_if_success refine cj3 ‹_› ?_)); k_extra "pk") | ((fail_if_success (fail_if_success refine cj4 ‹_› ?_)); k_extra "pk") | ((fail_if_success (fail_if_success refine cj5 ‹_› ?_)); exact Ne.symm (by k_extra "pk")) | ((fail_if_success (fail_if_success refine cj6 ‹_› ?_)); exact Ne.symm (by k_extra "pk")) | exact Nat.ne_of_gt ‹_› | exact Nat.ne_of_lt ‹_›) | ((show _ ∨ _); first | exact lt5_cases ‹_› | exact i5_cases ‹_› ‹_› | exact i3_cases ‹_› ‹_›) | ((show @LT.lt Nat _ _ _); first | exact ‹_› | exact sub_step ‹_› | exact sub_step1 ‹_› | k_extra "suc" | ((fail_if_success (fail_if_success refine cj7 ‹_› ?_)); k_extra "pk")) | ((show @LE.le Nat _ _ _); (try dsimp only); first | exact (by decide) | exact Nat.le_of_lt ‹_› | exact Nat.le_of_lt (by k_extra "suc") | (refine Nat.le_trans ‹_› ?_; decide) | (refine Nat.le_trans (Nat.le_of_eq (Eq.symm ‹_›)) (Nat.le_trans ‹_› ?_); decide) | exact le_s1 (by k_extra "pk") | exact len2a ‹_› ‹_› | exact len2b ‹_› ‹_›) | ((show @LE.le Int _ _ _); exact neg5) | ((show @LT.lt Int _ _ _); exact Int.ofNat_lt.mpr ‹_›)))
  k_with "my_enter" => k_dflt (first | (refine' code_def ?k1w914 ?k2w914 ?k3w914 ?k4w914 ?k5w914 ?kAw914 ?kFw914 ?kKw914 ?k6w914 ?k7w914 ?k8w914 ?k9w914 ?kBw914 ?_ ?c2w914 ?c3w914 ?c4w914 ?c5w914; (case kAw914 => exact rfl); (case kFw914 => exact rfl); (case kKw914 => assumption); (case k1w914 => k_asm); (case k2w914 => k_asm); (case k3w914 => k_asm); (case k4w914 => k_asm); (case k5w914 => k_asm); (case k6w914 => k_is); (case k7w914 => k_is); (case k8w914 => k_room); (case k9w914 => first | exact BindsTo.of_eq rfl | exact binds_K (by k_in) rfl (by k_is) rfl rfl rfl); (case c5w914 => decide); (case kBw914 => exact locs rfl); (case c2w914 => exact rfl); (case c3w914 => exact rfl); (case c4w914 => exact rfl); k_whole; intro _ _ _ _ _ N'w914 B'w914 _ _; (try dsimp only); (try k_lift B'w914); (try k_fold)) | (refine' code_defC ?k1w914 ?k2w914 ?k3w914 ?k4w914 ?k5w914 ?kAw914 ?kFw914 ?kKw914 ?k6w914 ?k7w914 ?k8w914 ?k9w914 ?kBw914 ?kDw914 ?_ ?c2w914 ?c3w914 ?c4w914; (case kAw914 => exact rfl); (case kFw914 => exact rfl); (case kKw914 => assumption); (case k1w914 => k_asm); (case k2w914 => k_asm); (case k3w914 => k_asm); (case k4w914 => k_asm); (case k5w914 => k_asm); (case k6w914 => k_is); (case k7w914 => k_is); (case k8w914 => k_room); (case k9w914 => first | exact BindsTo.of_eq rfl | exact binds_K (by k_in) rfl (by k_is) rfl rfl rfl); (case kBw914 => exact rfl); (case kDw914 => decide +kernel); (case c2w914 => exact rfl); (case c3w914 => exact rfl); (case c4w914 => exact rfl); k_whole; intro _ _ _ _ _ _ _ N'w914 Y'w914 B'w914 _ _ l1w914; (try k_lt l1w914); k_cells Y'w914; (try simp only [List.cons_append, List.nil_append] at N'w914); (try dsimp only); (try k_lift B'w914); (try k_fold)))
  k_with "my_unrolled" => (k_dflt (first | (refine LCg.CompSrc.ledger (by rfl) (by k_asm) (by k_asm) (by k_mem) (by first | size_fits | exact Nat.le_of_ble_eq_true rfl) ?_; intro _; lcg_lit) | (refine LCg.CompSrc.base (by rfl) (by k_asm) (by k_asm) ‹_› (by first | size_fits | exact Nat.le_of_ble_eq_true rfl) ?_; intro _; lcg_lit) | (refine LCg.CompSrc.range (by rfl) (by k_asm) (by k_asm) ‹_› (by first | decide | rfl) (by first | rfl | decide) (by first | size_fits | exact Nat.le_of_ble_eq_true rfl) ?_; intro _; lcg_lit)))
  k_with "my_comp" => k_dflt (refine LCg.ListComp_U (F₀ := by k_asm) (by with_unfolding_all rfl) (by decide) (by rfl) (by decide) (by rfl) ?_)
  k_with "my_compA" => k_dflt (refine LCg.Assign_ListComp_U (F₀ := by k_asm) (by rfl) (by with_unfolding_all rfl) (by with_unfolding_all rfl) (by decide) (by rfl) (by decide) (by rfl) (by rfl) (by rfl) ?_)
  k_with "CompRest" => (with_unfolding_all first | (refine LCg.CompRest.succ ?_; intro _ _ _ _ _ _ _ _ _ _ hv'w186 _ hx'w186 _ _ off'w186 _; (first | lcg_open hv'w186 | (obtain ⟨_, hv9'w186⟩ := hv'w186; subst hv9'w186; (try simp only [Int.zero_add, Int.natCast_zero, Int.natCast_one, Int.reduceAdd, Nat.reduceAdd, Int.cast_ofNat_Int] at hx'w186))); (try simp only [LCg.Off3, and_true] at off'w186)) | refine LCg.CompRest.zero ?_)
  k_with "eval ListComp" => (k_here; k_extra "my_comp")
  k_with "exec Assign cons ListComp" => (k_here; k_extra "my_compA")
  k_with "exec For" => k_extra "my For"
  k_with "getMethod ref" => k_extra "my getMethod"
  k_with "binaryOp Add str str" => (k_here; (with_reducible show wpAny _ _ (binaryOp Operator.Add (Value.str _ _) (Value.str _ _)) _ _ _); (refine add_short (by with_reducible assumption) (by with_reducible assumption) ?_); intro _ _ _)
  k_with "call type:str" => (k_here; (with_reducible show wpAny _ _ (call (Value.type "str") [Value.int _ _]) _ _ _); (refine str_digit ‹_› ‹_› ?_); intro _ _ _)
  k_with "pyIter ref" => k_extra "my pyIter"
  k_with "lex white" => (k_here; k_dflt (refine lex_white ‹_› ?_; intro _))
  k_with "FnAt" => k_dflt (exact FnAt.of (by k_asm) (by k_mem))
  k_with "pair for" => (k_here; k_dflt (refine For_pairF (by k_asm) ?_))
  k_with "TurnJ" => k_dflt (refine TurnJ.ret ?_; (try dsimp only))
  k_with "exec For Tuple Call cons nil" => k_extra "my For"
  k_with "call builtin:dict.items" => k_extra "my items"
  k_with "setItem ref str" => k_extra "my set"
  k_with "compareOp In str ref" => k_extra "my in dict"
  k_with "items method" => (k_here; k_dflt (refine' items_method ?Nw972 ?pw972 ?dw972 ?_; (case Nw972 => k_asm); (case pw972 => k_extra "in news"); (case dw972 => assumption)))
  k_with "in news" => (repeat (first | assumption | exact List.Mem.head _ | refine List.Mem.tail _ ?_))
  k_with "run mem" => (k_extra "in run"; done)
  k_with "call items" => (k_here; k_dflt (refine' kta_callItems (knd := PySem.strKind _ _) ?Fw681 ?Nw681 ?mw681 ?dw681 ?low681 ?_; (case Fw681 => k_asm); (case Nw681 => k_asm); (case mw681 => k_extra "in news"); (case dw681 => assumption); (case low681 => assumption); intro _ _ _ _))
  k_with "copy loop" => (k_here; k_dflt (refine' copy_loop ?hhw564 ?hxkw564 ?hxvw564 ?hpw564 ?hvww564 ?hmw564 ?hdw564 ?hDw564 ?Fw564 ?Nw564 ?_ ?_; (case hhw564 => exact rfl); (case hxkw564 => exact rfl); (case hxvw564 => exact rfl); (case hpw564 => exact rfl); (case Fw564 => k_asm); (case Nw564 => k_asm); (case hvww564 => assumption); (case hmw564 => k_extra "in news"); (case hdw564 => assumption); (case hDw564 => assumption); ((intro _ _ _ _ _ _ _ _ _ _ _ _ _ _ _; (try k_fold))); rotate_left; ((intro _ _ _ _ _ _ _ _; (try k_fold)))))
  k_with "TurnG" => k_dflt (refine TurnG.ret ?_; (try dsimp only))
  k_with "dict set" => (k_here; k_dflt (refine' kda_set (knd := PySem.strKind _ _) ?Fw365 ?Nw365 ?Uw365 ?dw365 (strKind_is _ _ _ _) ?zw365 ?_; (case Fw365 => k_asm); (case Nw365 => k_asm); (case Uw365 => k_updF); (case dw365 => assumption); (case zw365 => first | exact take_size ‹_› | exact dict_size ‹_›); intro _ _ _ N'w365 _; (try dsimp only at N'w365)))
  k_with "dict in" => (k_here; k_dflt (first | (refine' kda_in (knd := PySem.strKind _ _) ?Nw789 ?pw789 ?dw789 ?low789 (strKind_is _ _ _ _) false ?hbw789 ?_; (case Nw789 => k_asm); (case pw789 => k_extra "in news"); (case dw789 => assumption); (case hbw789 => exact isSome_none ‹_›); (case low789 => assumption)) | (refine' kda_in (knd := PySem.strKind _ _) ?Nw789 ?pw789 ?dw789 ?low789 (strKind_is _ _ _ _) true ?hbw789 ?_; (case Nw789 => k_asm); (case pw789 => k_extra "in news"); (case dw789 => assumption); (case hbw789 => exact isSome_some ‹_›); (case low789 => assumption))))
  k_with "copy ends" => (k_dflt (refine' copy_next ?Fw792 ?Nw792 ?hxw792 ?hnw792 ?hdw792 ?hIw792 ?offw792 ?hmw792; (case Fw792 => k_asm); (case Nw792 => k_asm); (case hxw792 => assumption); (case hdw792 => assumption); (case hnw792 => exact dict_nodup ‹_›); (case hIw792 => assumption); (case offw792 => assumption); (case hmw792 => (intro _ h1'w792 h2'w792; simp only [if_neg h1'w792, if_neg h2'w792]))))
  k_with "exec For Name Call cons nil" => k_extra "my For"
  k_with "exec For Name Name cons nil" => k_extra "my For"
  trivial
theorem c_callers_new {Td Sd P : Addr} {ot os : Obj} {kt : List (Str × Value)} {ct : List (Str × Int × Int)} {u : Str} {tn : Int} {t1 t2 : Tok} {ps : Array Value} {news n0 : List (Addr × Obj)}
    (B : Below A₀ base outer h₀) (F : Fr h₀ L s.heap m) (X : (hd.heap_1 w.params).In h₀) (N : News h₀ L s.heap ((129, tabObj ps) :: news)) (T : Top topProg loose mean mg mb h₀) (hk : cs.kind = .function) (h1 : dp ≤ 320) (h2 : un ≤ 100)
    (G : AllBare s.gens) (C9 : CodeHd base 133 129) (htr : TriplesOk ps.toList) (off9 : ∀ p ∈ news, p.1 ≠ 129)
    (hT : (Td, ot) ∈ news) (dT : ot.IsDictOf (PySem.strKind PySem.Challenge.rw_xo0026_01.row.prog w) kt) (loT : (Td == sysModules) = false) (sub0 : ∀ p ∈ n0, p ∈ news) (cT : Cal n0 kt ct) (hz : kt.length ≤ 1000)
    (hS : (Sd, os) ∈ news) (dS : os.IsDictOf (PySem.strKind PySem.Challenge.rw_xo0026_01.row.prog w) [(u, .ref P)]) (loS : (Sd == sysModules) = false) (hP : (P, tupO [.int 1 t1, .int tn t2]) ∈ news) (hPn : (P, tupO [.int 1 t1, .int tn t2]) ∈ n0) (hv : valueAt kt u = none)
    (ret : ∀ D o' kt' ex ps' h' tk' gs', o'.IsDictOf (PySem.strKind PySem.Challenge.rw_xo0026_01.row.prog w) kt' → Cal (ex ++ n0) kt' (addC ct u 1 tn) → (∀ p ∈ ex, @LT.lt Nat _ D p.1) → (D == sysModules) = false → (@LT.lt Nat _ 129 D ∧ AllLt D news) → TriplesOk ps'.toList → kt'.length ≤ kt.length + 1 → AllBare gs' →
      Fr h₀ L h' m → News h₀ L h' ((D, o') :: (ex ++ (129, tabObj ps') :: news)) → Q (.ref D) { s with heap := h', toks := tk', gens := gs' }) :
    wpAny (model PySem.Challenge.rw_xo0026_01.row.prog w) (ktrTop dp un gd cn cs L a ccd cl outer) (call (.ref 134) [.ref Td, .ref Sd]) Q E s := by
  refine lift h1 h2 ?_
  revert X; k_fill; intro X
  refine wpAny_call ?_
  k_with "my For" => k_extra "pair for"
  k_with "my getMethod" => k_extra "items method"
  k_with "my items" => k_extra "call items"
  k_with "my pyIter" => first | k_extra "copy loop" | k_dflt (refine' one_loop (Fin := CalFin w news n0 kt ct u tn) (GB := AllBare) ?gb ?hh ?hxk ?hxv ?hp ?hvw ?hm ?hd ?F ?N ?turn ?done; (case' hh => exact rfl); (case' hxk => exact rfl); (case' hxv => exact rfl); (case' hp => exact rfl); (case' F => k_asm); (case' N => k_asm); (case' hvw => assumption); (case' hm => k_extra "in news"); (case' hd => assumption); (case' gb => assumption); (case' turn => (intro t' h' tk' gs' I' oI' gb' hI' off' F' N'; (try k_fold))); (case' done => (intro n' fv' cv' h' tk' gs' gb' hf' F' N'; (try k_fold))))
  k_with "my set" => k_extra "dict set"
  k_with "my in dict" => k_extra "dict in"
  k_extra "my_enter"
  k_steps
  all_goals first
    | k_extra "copy ends"
    | (obtain ⟨o9, ex9, ps9, kt9, rfl, f1, f2, f3, f4, f5⟩ := (by assumption : CalFin w news n0 kt ct u tn _ _)
       exact ret _ _ _ _ _ _ _ _ f1 f2 f3 ‹_› ‹_› f4 f5 ‹_› ‹_› ‹_›)
    | (k_dflt (refine' one_next ?zgb ?zF ?zN ?zhF ?zoff ?zhm ?zhd; (case' zgb => assumption); (case' zF => k_asm); (case' zN => k_asm); (case' zhm => (intro y' h1' h2'; simp only [if_neg h1', if_neg h2'])); (case' zhd => k_extra "in news"); (case' zoff => (refine List.forall_mem_cons.mpr ⟨?_, ?_⟩; (first | assumption | exact Ne.symm ‹_›); assumption)))
       exact ⟨_, [], ps, _, rfl, by assumption, cT.new hv hPn, (fun p hp => nomatch hp), htr, stored_length⟩)
theorem off_addcall_2 : True := by
  w_top off
  k_with "eval GeneratorExp" => k_extra "my gen"
  k_with "call type:zip" => k_extra "my zip"
  k_with "call type:tuple" => k_extra "my tuple"
  k_with "subscriptTail Name Name ref str" => k_extra "my dict item"
  k_with "dict item" => (k_here; k_dflt (refine' kda_item (knd := PySem.strKind _ _) ?Nw951 ?pw951 ?dw951 (strKind_is _ _ _ _) ?hlw951 ?_ ?hsw951 ?hgw951; (case Nw951 => k_asm); (case pw951 => k_extra "in news"); (case dw951 => assumption); (case hlw951 => assumption); (case hsw951 => with_unfolding_all rfl); (case hgw951 => (intro _; with_unfolding_all rfl))))
  k_with "gen zip" => (k_here; k_dflt (refine' gen_zip (c := 133) (P := 129) ?Fw42 ?hcodew42 ?hglobw42 ?Tw42 ?hhw42 ?hcow42 ?hclosw42 ?hcellw42 ?h0w42 ?hxaw42 ?hxbw42 ?habw42 ?hkindw42 ?hroomw42 ?hdiw42 ?hdjw42 ?hw42 ?hsw42; (case Fw42 => k_asm); (case hcodew42 => exact rfl); (case hglobw42 => exact rfl); (case Tw42 => k_asm); (case hhw42 => exact rfl); (case hcow42 => exact rfl); (case hclosw42 => with_unfolding_all rfl); (case hcellw42 => decide); (case h0w42 => with_unfolding_all rfl); (case hxaw42 => with_unfolding_all rfl); (case hxbw42 => with_unfolding_all rfl); (case habw42 => decide); (case hkindw42 => exact rfl); (case hroomw42 => k_room); (case hdiw42 => decide); (case hdjw42 => decide); (case hsw42 => (intro _; with_unfolding_all rfl))))
  k_with "zip at" => (k_here; k_dflt (refine' zip_at ?Fw559 ?Nw559 ?hpw559 ?hqw559 ?htrw559 ?Cw559 ?offPw559 ?Gw559 ?_; (case Fw559 => k_asm); (case Nw559 => exact rot3 (by k_asm)); (case hpw559 => k_extra "in news"); (case hqw559 => k_extra "in news"); (case htrw559 => assumption); (case Cw559 => kn_code); (case offPw559 => (refine List.forall_mem_cons.mpr ⟨?_, ?_⟩; (exact Ne.symm ((by assumption : ∀ p ∈ (129, tabObj _) :: _, p.1 ≠ _) _ (.head _))); (refine List.forall_mem_cons.mpr ⟨?_, ?_⟩; (show @Ne Nat _ _; omega); assumption))); (case Gw559 => assumption); ((intro _ _ _ _ _ _ _ _ _ _ _ _ _ _; (try k_fold)))))
  k_with "gen tuple" => (k_here; k_dflt (refine' tuple_of_gen ?Fw95 ?Nw95 ?Gw95 ?hLw95 ?hkw95 ?h0w95 ?Xw95 ?_; (case Fw95 => k_asm); (case Nw95 => k_asm); (case Xw95 => assumption); (case Gw95 => assumption); (case hLw95 => assumption); (case hkw95 => assumption); (case h0w95 => assumption); ((intro _ _ _ _ _ _ _ _ l1w95 _; (try k_lt l1w95); (try k_fold)))))
  trivial
theorem c_callers_old {Td Sd P P0 : Addr} {ot os : Obj} {kt : List (Str × Value)} {ct : List (Str × Int × Int)} {u : Str} {tn : Int} {c0 t0 : Int} {t1 t2 t3 t4 : Tok} {ps : Array Value} {news n0 : List (Addr × Obj)}
    (B : Below A₀ base outer h₀) (F : Fr h₀ L s.heap m) (X : (hd.heap_1 w.params).In h₀) (N : News h₀ L s.heap ((129, tabObj ps) :: news)) (T : Top topProg loose mean mg mb h₀) (hk : cs.kind = .function) (h1 : dp ≤ 320) (h2 : un ≤ 100)
    (G : AllBare s.gens) (C9 : CodeHd base 133 129) (htr : TriplesOk ps.toList) (off9 : ∀ p ∈ news, p.1 ≠ 129)
    (hT : (Td, ot) ∈ news) (dT : ot.IsDictOf (PySem.strKind PySem.Challenge.rw_xo0026_01.row.prog w) kt) (loT : (Td == sysModules) = false) (sub0 : ∀ p ∈ n0, p ∈ news) (cT : Cal n0 kt ct) (hz : kt.length ≤ 1000)
    (hS : (Sd, os) ∈ news) (dS : os.IsDictOf (PySem.strKind PySem.Challenge.rw_xo0026_01.row.prog w) [(u, .ref P)]) (loS : (Sd == sysModules) = false) (hP : (P, tupO [.int 1 t1, .int tn t2]) ∈ news) (hPn : (P, tupO [.int 1 t1, .int tn t2]) ∈ n0) (hv : valueAt kt u = some (.ref P0)) (hP0 : (P0, tupO [.int c0 t3, .int t0 t4]) ∈ news) (hmk : ∀ news', (∀ p ∈ n0, p ∈ news') → ∀ P' a b ta tb, (P', tupO [.int (a + c0) ta, .int (b + t0) tb]) ∈ news' → Cal news' (stored kt u (.ref P')) (addC ct u a b))
    (ret : ∀ D o' kt' ex ps' h' tk' gs', o'.IsDictOf (PySem.strKind PySem.Challenge.rw_xo0026_01.row.prog w) kt' → Cal (ex ++ n0) kt' (addC ct u 1 tn) → (∀ p ∈ ex, @LT.lt Nat _ D p.1) → (D == sysModules) = false → (@LT.lt Nat _ 129 D ∧ AllLt D news) → TriplesOk ps'.toList → kt'.length ≤ kt.length + 1 → AllBare gs' →
      Fr h₀ L h' m → News h₀ L h' ((D, o') :: (ex ++ (129, tabObj ps') :: news)) → Q (.ref D) { s with heap := h', toks := tk', gens := gs' }) :
    wpAny (model PySem.Challenge.rw_xo0026_01.row.prog w) (ktrTop dp un gd cn cs L a ccd cl outer) (call (.ref 134) [.ref Td, .ref Sd]) Q E s := by
  refine lift h1 h2 ?_
  revert X; k_fill; intro X
  refine wpAny_call ?_
  k_with "my For" => k_extra "pair for"
  k_with "my getMethod" => k_extra "items method"
  k_with "my items" => k_extra "call items"
  k_with "my pyIter" => first | k_extra "copy loop" | k_dflt (refine' one_loop (Fin := CalFin w news n0 kt ct u tn) (GB := AllBare) ?gb ?hh ?hxk ?hxv ?hp ?hvw ?hm ?hd ?F ?N ?turn ?done; (case' hh => exact rfl); (case' hxk => exact rfl); (case' hxv => exact rfl); (case' hp => exact rfl); (case' F => k_asm); (case' N => k_asm); (case' hvw => assumption); (case' hm => k_extra "in news"); (case' hd => assumption); (case' gb => assumption); (case' turn => (intro t' h' tk' gs' I' oI' gb' hI' off' F' N'; (try k_fold))); (case' done => (intro n' fv' cv' h' tk' gs' gb' hf' F' N'; (try k_fold))))
  k_with "my set" => k_extra "dict set"
  k_with "my in dict" => k_extra "dict in"
  k_with "my dict item" => k_extra "dict item"
  k_with "my gen" => k_extra "gen zip"
  k_with "my zip" => k_extra "zip at"
  k_with "my tuple" => k_extra "gen tuple"
  k_extra "my_enter"
  k_steps
  all_goals first
    | k_extra "copy ends"
    | (obtain ⟨o9, ex9, ps9, kt9, rfl, f1, f2, f3, f4, f5⟩ := (by assumption : CalFin w news n0 kt ct u tn _ _)
       exact ret _ _ _ _ _ _ _ _ f1 f2 f3 ‹_› ‹_› f4 f5 ‹_› ‹_› ‹_›)
    | (rename (∀ p ∈ (129, tabObj ps) :: news, p.1 ≠ _) => hoff
       k_dflt (refine' one_next ?zgb ?zF ?zN ?zhF ?zoff ?zhm ?zhd; (case' zgb => assumption); (case' zF => k_asm); (case' zN => exact rot22 (by k_asm)); (case' zhm => (intro y' h1' h2'; simp only [if_neg h1', if_neg h2'])); (case' zhd => (refine List.Mem.tail _ (List.Mem.tail _ (List.Mem.tail _ ?_)); assumption)); (case' zoff => exact List.forall_mem_cons.mpr ⟨Ne.symm ‹_›, List.forall_mem_cons.mpr ⟨by (show @Ne Nat _ _; omega), List.forall_mem_cons.mpr ⟨hoff (129, tabObj ps) (.head _), fun p hp => hoff p (.tail _ hp)⟩⟩⟩))
       exact ⟨_, [_], _, _, rfl, by assumption, hmk _ (fun p hp => .tail _ hp) _ _ _ _ _ (.head _), (fun p hp => by rw [List.mem_singleton.mp hp]; (show @LT.lt Nat _ _ _); omega), by assumption, stored_length⟩)
theorem c_callers {Td Sd P : Addr} {ot os : Obj} {kt : List (Str × Value)} {ct : List (Str × Int × Int)} {u : Str} {tn : Int} {t1 t2 : Tok} {ps : Array Value} {news n0 : List (Addr × Obj)}
    (B : Below A₀ base outer h₀) (F : Fr h₀ L s.heap m) (X : (hd.heap_1 w.params).In h₀) (N : News h₀ L s.heap ((129, tabObj ps) :: news)) (T : Top topProg loose mean mg mb h₀) (hk : cs.kind = .function) (h1 : dp ≤ 320) (h2 : un ≤ 100)
    (G : AllBare s.gens) (C9 : CodeHd base 133 129) (htr : TriplesOk ps.toList) (off9 : ∀ p ∈ news, p.1 ≠ 129)
    (hT : (Td, ot) ∈ news) (dT : ot.IsDictOf (PySem.strKind PySem.Challenge.rw_xo0026_01.row.prog w) kt) (loT : (Td == sysModules) = false) (sub0 : ∀ p ∈ n0, p ∈ news) (cT : Cal n0 kt ct) (hz : kt.length ≤ 1000)
    (hS : (Sd, os) ∈ news) (dS : os.IsDictOf (PySem.strKind PySem.Challenge.rw_xo0026_01.row.prog w) [(u, .ref P)]) (loS : (Sd == sysModules) = false) (hP : (P, tupO [.int 1 t1, .int tn t2]) ∈ news) (hPn : (P, tupO [.int 1 t1, .int tn t2]) ∈ n0)
    (ret : ∀ D o' kt' ex ps' h' tk' gs', o'.IsDictOf (PySem.strKind PySem.Challenge.rw_xo0026_01.row.prog w) kt' → Cal (ex ++ n0) kt' (addC ct u 1 tn) → (∀ p ∈ ex, @LT.lt Nat _ D p.1) → (D == sysModules) = false → (@LT.lt Nat _ 129 D ∧ AllLt D news) → TriplesOk ps'.toList → kt'.length ≤ kt.length + 1 → AllBare gs' →
      Fr h₀ L h' m → News h₀ L h' ((D, o') :: (ex ++ (129, tabObj ps') :: news)) → Q (.ref D) { s with heap := h', toks := tk', gens := gs' }) :
    wpAny (model PySem.Challenge.rw_xo0026_01.row.prog w) (ktrTop dp un gd cn cs L a ccd cl outer) (call (.ref 134) [.ref Td, .ref Sd]) Q E s := by
  cases hv : valueAt kt u with
  | none => exact c_callers_new B F X N T hk h1 h2 G C9 htr off9 hT dT loT sub0 cT hz hS dS loS hP hPn hv ret
  | some v =>
    obtain ⟨P0, c0, t0, t3, t4, rfl, hP0, hmk⟩ := cT.at hv (dict_nodup dT)
    exact c_callers_old B F X N T hk h1 h2 G C9 htr off9 hT dT loT sub0 cT hz hS dS loS hP hPn hv (sub0 _ hP0) hmk ret
end
section
variable {mg mb : Str → Option Value} {mean : ExcName → Option Value} {loose : List Str} {dp un : Nat} {gd : Option (List Code)} {cn : Str} {cs : Scope} {a : Addr} {ccd : Value} {cl : List (Str × Addr)} {outer : List Env} {A₀ : Around} {base h₀ : Heap} {L : Addr} {m : Str → Option Value} {s : Shared} {Q E : Value → Shared → Prop}
theorem off_stats_1 : True := by
  w_top off
  k_with "om" => (first | (with_reducible first | ((show @Ne Nat _ _); (try dsimp only); first | exact ‹_› | exact Ne.symm ‹_› | exact Nat.ne_of_lt (by k_extra "suc") | exact Nat.ne_of_gt (by k_extra "suc") | ((fail_if_success (fail_if_success refine cj2 ‹_› ?_)); exact Nat.ne_of_gt (by k_extra "pk")) | ((fail_if_success (fail_if_success refine cj1 ‹_› ?_)); exact Nat.ne_of_lt (by k_extra "pk")) | ((fail_if_success (fail_if_success refine cj3 ‹_› ?_)); k_extra "pk") | ((fail_if_success (fail_if_success refine cj4 ‹_› ?_)); k_extra "pk") | ((fail_if_success (fail_if_success refine cj5 ‹_› ?_)); exact Ne.symm (by k_extra "pk")) | ((fail_if_success (fail_if_success refine cj6 ‹_› ?_)); exact Ne.symm (by k_extra "pk")) | exact Nat.ne_of_gt ‹_› | exact Nat.ne_of_lt ‹_›) | ((show _ ∨ _); first | exact lt5_cases ‹_› | exact i5_cases ‹_› ‹_› | exact i3_cases ‹_› ‹_›) | ((show @LT.lt Nat _ _ _); first | exact ‹_› | exact sub_step ‹_› | exact sub_step1 ‹_› | k_extra "suc" | ((fail_if_success (fail_if_success refine cj7 ‹_› ?_)); k_extra "pk")) | ((show @LE.le Nat _ _ _); (try dsimp only); first | exact (by decide) | exact Nat.le_of_lt ‹_› | exact Nat.le_of_lt (by k_extra "suc") | (refine Nat.le_trans ‹_› ?_; decide) | (refine Nat.le_trans (Nat.le_of_eq (Eq.symm ‹_›)) (Nat.le_trans ‹_› ?_); decide) | exact le_s1 (by k_extra "pk") | exact len2a ‹_› ‹_› | exact len2b ‹_› ‹_›) | ((show @LE.le Int _ _ _); exact neg5) | ((show @LT.lt Int _ _ _); exact Int.ofNat_lt.mpr ‹_›)) | lia)
  k_with "call ref" => k_extra "my call"
  k_with "call callers" => (k_here; k_dflt (refine' c_callers ?Bw950 ?Fw950 ?Xw950 ?Nw950 ?Tw950 ?hkw950 ?h1w950 ?h2w950 ?Gw950 ?C9w950 ?htrw950 ?off9w950 ?hTw950 ?dTw950 ?loTw950 ?sub0w950 ?cTw950 ?hzw950 ?hSw950 ?dSw950 ?loSw950 ?hPw950 ?hPnw950 ?_; (case Bw950 => k_asm); (case Fw950 => k_asm); (case Xw950 => k_asm); (case Nw950 => k_asm); (case Tw950 => k_asm); (case hkw950 => exact rfl); (case h1w950 => exact Nat.le_of_ble_eq_true rfl); (case h2w950 => exact Nat.le_of_ble_eq_true rfl); (case Gw950 => assumption); (case C9w950 => assumption); (case htrw950 => assumption); (case off9w950 => assumption); (case hTw950 => assumption); (case dTw950 => assumption); (case loTw950 => assumption); (case cTw950 => assumption); (case sub0w950 => assumption); (case hzw950 => assumption); (case hSw950 => assumption); (case dSw950 => assumption); (case loSw950 => assumption); (case hPw950 => assumption); (case hPnw950 => assumption); ((k_whole; intro _ _ _ _ _ _ _ _ _ _ _ _ _ _ _ _ _ _; (try k_sweep)))))
  trivial
theorem c_stats {Tt St Td Sd P : Addr} {ot os : Obj} {kt : List (Str × Value)} {ct : List (Str × Int × Int)} {u : Str} {tn : Int} {t1 t2 : Tok} {a1 a2 a3 a4 b1 b2 b3 b4 : Int} {e1 e2 e3 e4 f1 f2 f3 f4 : Tok} {ps : Array Value} {news n0 : List (Addr × Obj)}
    (B : Below A₀ base outer h₀) (F : Fr h₀ L s.heap m) (X : (hd.heap_1 w.params).In h₀) (N : News h₀ L s.heap ((129, tabObj ps) :: news)) (T : Top topProg loose mean mg mb h₀) (hk : cs.kind = .function) (h1 : dp ≤ 315) (h2 : un ≤ 50)
    (G : AllBare s.gens) (C9 : CodeHd base 133 129) (htr : TriplesOk ps.toList) (off9 : ∀ p ∈ news, p.1 ≠ 129)
    (hTt : (Tt, tupO [.int a1 e1, .int a2 e2, .int a3 e3, .int a4 e4, .ref Td]) ∈ news) (hSt : (St, tupO [.int b1 f1, .int b2 f2, .int b3 f3, .int b4 f4, .ref Sd]) ∈ news)
    (hT : (Td, ot) ∈ news) (dT : ot.IsDictOf (PySem.strKind PySem.Challenge.rw_xo0026_01.row.prog w) kt) (loT : (Td == sysModules) = false) (sub0 : ∀ p ∈ n0, p ∈ news) (cT : Cal n0 kt ct) (hz : kt.length ≤ 1000)
    (hS : (Sd, os) ∈ news) (dS : os.IsDictOf (PySem.strKind PySem.Challenge.rw_xo0026_01.row.prog w) [(u, .ref P)]) (loS : (Sd == sysModules) = false) (hP : (P, tupO [.int 1 t1, .int tn t2]) ∈ news) (hPn : (P, tupO [.int 1 t1, .int tn t2]) ∈ n0)
    (ret : ∀ R D o' kt' ex ps' g1 g2 g3 g4 h' tk' gs', o'.IsDictOf (PySem.strKind PySem.Challenge.rw_xo0026_01.row.prog w) kt' → Cal (ex ++ n0) kt' (addC ct u 1 tn) → (∀ p ∈ ex, @LT.lt Nat _ D p.1) → (D == sysModules) = false → (@LT.lt Nat _ 129 D ∧ AllLt D news) → (∀ p ∈ (D, o') :: (ex ++ (129, tabObj ps') :: news), @LT.lt Nat _ p.1 R) → TriplesOk ps'.toList → kt'.length ≤ kt.length + 1 → AllBare gs' →
      Fr h₀ L h' m → News h₀ L h' ((R, tupO [.int (b1 + a1) g1, .int (b2 + a2) g2, .int (b3 + a3) g3, .int (b4 + a4) g4, .ref D]) :: (D, o') :: (ex ++ (129, tabObj ps') :: news)) → Q (.ref R) { s with heap := h', toks := tk', gens := gs' }) :
    wpAny (model PySem.Challenge.rw_xo0026_01.row.prog w) (ktrTop dp un gd cn cs L a ccd cl outer) (call (.ref 127) [.ref Tt, .ref St]) Q E s := by
  refine lift h1 h2 ?_
  revert X; k_fill; intro X
  refine wpAny_call ?_
  k_with "my call" => k_extra "call callers"
  k_extra "my_enter"
  k_steps
  rename (@LT.lt Nat _ _ _ ∧ AllLt _ (_ ++ _)) => l9
  exact ret _ _ _ _ _ _ _ _ _ _ _ _ _ ‹_› ‹_› ‹_› ‹_› ‹_› (List.forall_mem_cons.mpr ⟨l9.1, fun p hp => ktn_ltOf l9.2 p hp⟩) ‹_› ‹_› ‹_› ‹_› ‹_›
end
noncomputable def NameLoopAt (prog : Program) (w : World) (A : Around) (env : Env) (x : Str) (body : List Stmt) (Q : Flow → Shared → Prop) (E : Value → Shared → Prop) (itv : Value) (s₂ : Shared) : Prop :=
  ∀ (px : Pos), codeAny (model prog w) A (.forLoop (.Name x px) itv body [] env) (fun r s' => match r with | .ok f => Q f s' | .error e => cameBackBy (model prog w) A env E e s') s₂
section
variable {prog : Program} {A : Around} {E : Value → Shared → Prop} {s : Shared} {env : Env} {h₀ : Heap} {x : Str} {body : List Stmt} {Q : Flow → Shared → Prop}
theorem For_name {px pos : Pos} {iter : Expr} (h : wpAny (model prog w) A (eval iter env) (fun xv s₁ => wpAny (model prog w) A (pyIter xv) (fun it s₂ => NameLoopAt prog w A env x body Q E it s₂) E s₁) E s)
    (hs : ∀ v, foldedSetIterable iter env v = pure v := by intro _; rfl) : wpAny (model prog w) A (exec (.For (.Name x px) iter body [] pos) env) Q E s :=
  wpAny_For (wpAny_mono h (fun _ _ h₁ => wpAny_mono h₁ (fun _ _ h₂ => h₂ px) fun _ _ e => e) fun _ _ e => e) hs
theorem name_loopG {I : Addr} {fp : List Addr} {n : Nat} {P : Nat → Value → Prop} {St : Nat → Heap → Prop} {m₀ : Str → Option Value} {news : List (Addr × Obj)}
    (W : Walks prog w A I fp [I] n P St) (J : Nat → (Str → Option Value) → List (Addr × Obj) → Prop) (GB : Array GenState → Prop) (hGB : GB s.gens)
    (hx : env.kindOf x = some .local) (hp : (env.scope.kind == .class || (env.scope.kind == .module && env.locals != env.globals)) = false)
    (hI : ∀ i h, St i h → ∃ o, h.get? I = some o) (hIL : I ≠ env.locals) (hI0 : h₀.get? I = none) (hJm : ∀ b ∈ fp, b ≠ I → ∃ o, ∀ i m₁ news₁, J i m₁ news₁ → (b, o) ∈ news₁)
    (hst : St 0 s.heap) (F : Fr h₀ env.locals s.heap m₀) (N : News h₀ env.locals s.heap news) (hn : ∀ p ∈ news, p.1 ≠ I) (hj : J 0 m₀ news)
    (turn : ∀ (i : Nat) v m₁ news₁ h tk gs oI, GB gs → i < n → P i v → J i m₁ news₁ → (∀ p ∈ news₁, p.1 ≠ I) → Fr h₀ env.locals h (fun y => if y = x then some v else m₁ y) → News h₀ env.locals h ((I, oI) :: news₁) →
      wpAny (model prog w) A (execs body env) (TurnG GB h₀ env.locals (J (i + 1)) I oI { s with heap := h, toks := tk, gens := gs } Q) (notedBy (model prog w) A env fun e s' => cameBackBy (model prog w) A env E e s') { s with heap := h, toks := tk, gens := gs })
    (done : ∀ m₁ news₁ h tk gs, GB gs → J n m₁ news₁ → Fr h₀ env.locals h m₁ → News h₀ env.locals h news₁ → Q .next { s with heap := h, toks := tk, gens := gs }) :
    NameLoopAt prog w A env x body Q E (.ref I) s := by
  intro px
  refine codeAny_forLoop (LoopG GB h₀ env.locals J I St n s) ?_ n (.mk s.heap s.toks s.gens m₀ news 0 hGB hst F N hn hj (Nat.zero_le _) rfl)
  intro k s' hL
  k_fold
  obtain ⟨h, tk, gs, m', news', i, gb, st, F', N', off, hJ, hi, rfl⟩ := hL
  by_cases hin : i < n
  · refine W.item i _ _ _ hin st fun v h₁ tk₁ hPv st₁ hk₁ => ?_
    obtain ⟨F₁, N₁⟩ := keepG hIL hI0 F' N' off hk₁
    refine wpAny_assign_Name (wpAny_storeName_local hx F₁.ns (fun h₂ hn₂ hs₂ => ?_) hp)
    replace hs₂ : Heap.SameBut env.locals h₁ h₂ := hs₂
    obtain ⟨oI, hoI⟩ := hI _ _ st₁
    refine wpAny_mono (turn i v m' news' h₂ _ gs oI gb hin hPv hJ off (F₁.set hn₂ hs₂) (List.forall_mem_cons.mpr ⟨⟨(hs₂.2 I hIL).trans hoI, hIL, hI0⟩, N₁.set hs₂⟩)) (fun f s₃ q => ?_) fun _ _ e => e
    cases f with
    | next => exact BackG.step (fun h6 => W.frame (i + 1) h₁ h6 st₁) hoI N₁ hJ hJm hin q
    | cont => exact BackG.step (fun h6 => W.frame (i + 1) h₁ h6 st₁) hoI N₁ hJ hJm hin q
    | brk => exact q
    | ret v => exact q
  · rw [Nat.le_antisymm hi (Nat.not_lt.mp hin)] at st hJ
    refine W.done _ _ _ st fun h₁ tk₁ hk₁ => wpAny_execs_nil ?_
    obtain ⟨F₂, N₂⟩ := keepG hIL hI0 F' N' off hk₁
    exact done m' news' h₁ tk₁ gs gb hJ F₂ N₂
theorem range_loopG {r : Addr} {a₀ b₀ : Int} {t₀ u₀ v₀ : Tok} {n : Nat} {m₀ : Str → Option Value} {news : List (Addr × Obj)} (J : Nat → (Str → Option Value) → List (Addr × Obj) → Prop) (GB : Array GenState → Prop) (hGB : GB s.gens)
    (hh : A.handled = none) (hx : env.kindOf x = some .local) (hp : (env.scope.kind == .class || (env.scope.kind == .module && env.locals != env.globals)) = false)
    (hr : IsRange s.heap r a₀ b₀ 1 t₀ u₀ v₀) (hsmall : Builtin.Range.small a₀ b₀ 1 = true) (hn : Builtin.Range.rangeSize a₀ b₀ 1 = (n : Int)) (F : Fr h₀ env.locals s.heap m₀) (N : News h₀ env.locals s.heap news) (hj : J 0 m₀ news)
    (turn : ∀ (i : Nat) t m₁ news₁ h tk gs I oI, GB gs → i < n → J i m₁ news₁ → (∀ p ∈ news₁, p.1 ≠ I) → Fr h₀ env.locals h (fun y => if y = x then some (.int (a₀ + (i : Int)) t) else m₁ y) → News h₀ env.locals h ((I, oI) :: news₁) →
      wpAny (model prog w) A (execs body env) (TurnG GB h₀ env.locals (J (i + 1)) I oI { s with heap := h, toks := tk, gens := gs } Q) (notedBy (model prog w) A env fun e s' => cameBackBy (model prog w) A env E e s') { s with heap := h, toks := tk, gens := gs })
    (done : ∀ m₁ news₁ h tk gs, GB gs → J n m₁ news₁ → Fr h₀ env.locals h m₁ → News h₀ env.locals h news₁ → Q .next { s with heap := h, toks := tk, gens := gs }) :
    wpAny (model prog w) A (pyIter (.ref r)) (fun it s₂ => NameLoopAt prog w A env x body Q E it s₂) E s := by
  refine wpAny_pyIter_range hr hsmall ?_
  have W : Walks prog w A s.heap.objs.size [s.heap.objs.size] [s.heap.objs.size] n (fun i v => ∃ t, v = .int (a₀ + (i : Int)) t)
      (fun i h => IsRangeIter h s.heap.objs.size (a₀ + (i : Nat) * 1) ((n : Int) - (i : Nat)) 1) := LCg.range_walks hh a₀ n
  refine name_loopG W J GB hGB hx hp (fun i h st => ⟨_, st⟩) ?_ (next_is_new F) ?_ (by show IsRangeIter _ _ _ _ _; rw [hn]; simpa using Heap.get?_push_size _ rfl) (F.push _) (fun p hp => ⟨Heap.get?_push_of_some _ (N p hp).1, (N p hp).2⟩) (fun p hp => Nat.ne_of_lt (Heap.lt_size (N p hp).1)) hj ?_ done
  · intro e; exact absurd F.ns.lt (e ▸ Nat.lt_irrefl _)
  · intro b hb hbI; exact absurd (List.mem_singleton.mp hb) hbI
  · rintro i v m₁ news₁ h tk gs oI gb hi ⟨t, rfl⟩ hJ off F' N'
    exact turn i t m₁ news₁ h tk gs _ oI gb hi hJ off F' N'
end
noncomputable abbrev Entry := Int × Int × Int × Int × List (Str × Int × Int)
inductive Book (w : World) (news : List (Addr × Obj)) (b : Nat) : List (Str × Value) → List (Str × Entry) → Prop
  | nil : Book w news b [] []
  | cons {k : Str} {R D : Addr} {o' : Obj} {kt : List (Str × Value)} {cc nc tt ct : Int} {cal : List (Str × Int × Int)} {g1 g2 g3 g4 : Tok} {kvs : List (Str × Value)} {bs : List (Str × Entry)}
      (hR : (R, tupO [.int cc g1, .int nc g2, .int tt g3, .int ct g4, .ref D]) ∈ news) (hD : (D, o') ∈ news) (dD : o'.IsDictOf (PySem.strKind PySem.Challenge.rw_xo0026_01.row.prog w) kt) (cD : Cal news kt cal) (lo : (D == sysModules) = false) (hz : kt.length ≤ b)
      (r : Book w news b kvs bs) : Book w news b ((k, .ref R) :: kvs) ((k, (cc, nc, tt, ct, cal)) :: bs)
theorem Book.mono {news news' : List (Addr × Obj)} {b b' : Nat} {kvs : List (Str × Value)} {bs : List (Str × Entry)} (h : Book w news b kvs bs) (sub : ∀ p ∈ news, p ∈ news') (hb : b ≤ b') : Book w news' b' kvs bs := by
  induction h with
  | nil => exact .nil
  | cons hR hD dD cD lo hz _ ih => exact .cons (sub _ hR) (sub _ hD) dD (cD.mono sub) lo (by omega) ih
theorem Book.keys {news : List (Addr × Obj)} {b : Nat} {kvs : List (Str × Value)} {bs : List (Str × Entry)} (h : Book w news b kvs bs) : kvs.map (·.1) = bs.map (·.1) := by
  induction h with
  | nil => rfl
  | cons _ _ _ _ _ _ _ ih => simp [ih]
noncomputable def bump (bs : List (Str × Entry)) (home : Str) (first turn gap : Int) (u : Str) : List (Str × Entry) :=
  if bs.any (fun e => e.1 = home) then bs.map (fun e => if e.1 = home then (e.1, (first + e.2.1, 1 + e.2.2.1, turn + e.2.2.2.1, gap + e.2.2.2.2.1, addC e.2.2.2.2.2 u 1 turn)) else e) else bs ++ [(home, (first + 0, 1 + 0, turn + 0, gap + 0, addC [] u 1 turn))]
theorem Book.append {news : List (Addr × Obj)} {b : Nat} {kvs : List (Str × Value)} {bs : List (Str × Entry)} (h : Book w news b kvs bs) {k : Str} {R D : Addr} {o' : Obj} {kt : List (Str × Value)} {cc nc tt ct : Int} {cal : List (Str × Int × Int)} {g1 g2 g3 g4 : Tok}
    (hR : (R, tupO [.int cc g1, .int nc g2, .int tt g3, .int ct g4, .ref D]) ∈ news) (hD : (D, o') ∈ news) (dD : o'.IsDictOf (PySem.strKind PySem.Challenge.rw_xo0026_01.row.prog w) kt) (cD : Cal news kt cal) (lo : (D == sysModules) = false) (hz : kt.length ≤ b) :
    Book w news b (kvs ++ [(k, .ref R)]) (bs ++ [(k, (cc, nc, tt, ct, cal))]) := by
  induction h with
  | nil => exact .cons hR hD dD cD lo hz .nil
  | cons h1 h2 h3 h4 h5 h6 _ ih => exact .cons h1 h2 h3 h4 h5 h6 ih
theorem Book.new {news : List (Addr × Obj)} {b : Nat} {kvs : List (Str × Value)} {bs : List (Str × Entry)} (h : Book w news b kvs bs) {home u : Str} {first turn gap : Int} {R D : Addr} {o' : Obj} {kt : List (Str × Value)} {g1 g2 g3 g4 : Tok} (hv : valueAt kvs home = none)
    (hR : (R, tupO [.int (first + 0) g1, .int (1 + 0) g2, .int (turn + 0) g3, .int (gap + 0) g4, .ref D]) ∈ news) (hD : (D, o') ∈ news) (dD : o'.IsDictOf (PySem.strKind PySem.Challenge.rw_xo0026_01.row.prog w) kt) (cD : Cal news kt (addC [] u 1 turn)) (lo : (D == sysModules) = false) (hz : kt.length ≤ b) :
    Book w news b (stored kvs home (.ref R)) (bump bs home first turn gap u) := by
  have e := valueAt_none hv
  unfold stored bump
  rw [e, any_key, ← h.keys, ← any_key, e]
  exact h.append hR hD dD cD lo hz
inductive BookAt (w : World) (news : List (Addr × Obj)) (b : Nat) (v : Value) (M : Int → Int → Int → Int → List (Str × Int × Int) → Prop) : Prop
  | mk (R D : Addr) (o' : Obj) (kt : List (Str × Value)) (cc nc tt ct : Int) (cal : List (Str × Int × Int)) (g1 g2 g3 g4 : Tok) (ev : v = .ref R) (hR : (R, tupO [.int cc g1, .int nc g2, .int tt g3, .int ct g4, .ref D]) ∈ news) (hD : (D, o') ∈ news)
      (dD : o'.IsDictOf (PySem.strKind PySem.Challenge.rw_xo0026_01.row.prog w) kt) (cD : Cal news kt cal) (lo : (D == sysModules) = false) (hz : kt.length ≤ b) (mk : M cc nc tt ct cal) : BookAt w news b v M
theorem Book.at {news : List (Addr × Obj)} {b : Nat} {kvs : List (Str × Value)} {bs : List (Str × Entry)} (h : Book w news b kvs bs) {home : Str} {v : Value} (hv : valueAt kvs home = some v) (hn : (kvs.map (·.1)).Nodup) :
    BookAt w news b v (fun cc nc tt ct cal => ∀ news' b', (∀ p ∈ news, p ∈ news') → b ≤ b' → ∀ first turn gap u R' D' o2 kt' e1 e2 e3 e4, (R', tupO [.int (first + cc) e1, .int (1 + nc) e2, .int (turn + tt) e3, .int (gap + ct) e4, .ref D']) ∈ news' → (D', o2) ∈ news' → o2.IsDictOf (PySem.strKind PySem.Challenge.rw_xo0026_01.row.prog w) kt' →
        Cal news' kt' (addC cal u 1 turn) → (D' == sysModules) = false → kt'.length ≤ b' → Book w news' b' (stored kvs home (.ref R')) (bump bs home first turn gap u)) := by
  have key : ∀ {kvs : List (Str × Value)} {bs : List (Str × Entry)}, Book w news b kvs bs → valueAt kvs home = some v → (kvs.map (·.1)).Nodup →
      BookAt w news b v (fun cc nc tt ct cal => ∀ news' b', (∀ p ∈ news, p ∈ news') → b ≤ b' → ∀ first turn gap u R' D' o2 kt' e1 e2 e3 e4, (R', tupO [.int (first + cc) e1, .int (1 + nc) e2, .int (turn + tt) e3, .int (gap + ct) e4, .ref D']) ∈ news' → (D', o2) ∈ news' → o2.IsDictOf (PySem.strKind PySem.Challenge.rw_xo0026_01.row.prog w) kt' →
        Cal news' kt' (addC cal u 1 turn) → (D' == sysModules) = false → kt'.length ≤ b' →
        Book w news' b' (kvs.map fun kv => if kv.1 = home then (kv.1, Value.ref R') else kv) (bs.map fun e => if e.1 = home then (e.1, (first + e.2.1, 1 + e.2.2.1, turn + e.2.2.2.1, gap + e.2.2.2.2.1, addC e.2.2.2.2.2 u 1 turn)) else e)) := by
    intro kvs bs h
    induction h with
    | nil => intro hv; cases hv
    | @cons k R D o' kt cc nc tt ct cal g1 g2 g3 g4 kvs bs hR hD dD cD lo hz r ih =>
      intro hv hn
      have hn' := List.nodup_cons.mp (by simpa only [List.map_cons] using hn)
      by_cases hk : k = home
      · have e1 : valueAt ((k, Value.ref R) :: kvs) home = some (.ref R) := by simp [valueAt, hk]
        rw [e1] at hv
        cases hv
        refine ⟨R, D, o', kt, cc, nc, tt, ct, cal, g1, g2, g3, g4, rfl, hR, hD, dD, cD, lo, hz, fun news' b' sub hb first turn gap u R' D' o2 kt' x1 x2 x3 x4 h1 h2 h3 h4 h5 h6 => ?_⟩
        have hno : ∀ kv ∈ kvs, kv.1 ≠ home := fun kv hkv e => hn'.1 (by rw [hk, ← e]; exact List.mem_map_of_mem hkv)
        have hno2 : ∀ e ∈ bs, e.1 ≠ home := fun e he e2 => hn'.1 (by rw [r.keys, hk, ← e2]; exact List.mem_map_of_mem he)
        have m1 : (kvs.map fun kv => if kv.1 = home then (kv.1, Value.ref R') else kv) = kvs := (List.map_congr_left fun kv hkv => if_neg (hno kv hkv)).trans (List.map_id' kvs)
        have m2 : (bs.map fun e => if e.1 = home then (e.1, (first + e.2.1, 1 + e.2.2.1, turn + e.2.2.2.1, gap + e.2.2.2.2.1, addC e.2.2.2.2.2 u 1 turn)) else e) = bs := (List.map_congr_left fun e he => if_neg (hno2 e he)).trans (List.map_id' bs)
        rw [List.map_cons, List.map_cons, if_pos hk, if_pos hk, m1, m2]
        exact .cons h1 h2 h3 h4 h5 h6 (r.mono sub hb)
      · have e1 : valueAt ((k, Value.ref R) :: kvs) home = valueAt kvs home := by simp [valueAt, hk]
        rw [e1] at hv
        obtain ⟨R1, D1, o1, kt1, cc1, nc1, tt1, ct1, cal1, a1, a2, a3, a4, ev, q1, q2, q3, q4, q5, q6, hmk⟩ := ih hv hn'.2
        refine ⟨R1, D1, o1, kt1, cc1, nc1, tt1, ct1, cal1, a1, a2, a3, a4, ev, q1, q2, q3, q4, q5, q6, fun news' b' sub hb first turn gap u R' D' o2 kt' x1 x2 x3 x4 h1 h2 h3 h4 h5 h6 => ?_⟩
        rw [List.map_cons, List.map_cons, if_neg hk, if_neg hk]
        exact .cons (sub _ hR) (sub _ hD) dD (cD.mono sub) lo (by omega) (hmk news' b' sub hb first turn gap u R' D' o2 kt' x1 x2 x3 x4 h1 h2 h3 h4 h5 h6)
  obtain ⟨R, D, o', kt, cc, nc, tt, ct, cal, g1, g2, g3, g4, ev, q1, q2, q3, q4, q5, q6, hmk⟩ := key h hv hn
  refine ⟨R, D, o', kt, cc, nc, tt, ct, cal, g1, g2, g3, g4, ev, q1, q2, q3, q4, q5, q6, fun news' b' sub hb first turn gap u R' D' o2 kt' x1 x2 x3 x4 h1 h2 h3 h4 h5 h6 => ?_⟩
  have e := valueAt_some hv
  unfold stored bump
  rw [e, any_key, ← h.keys, ← any_key, e]
  exact hmk news' b' sub hb first turn gap u R' D' o2 kt' x1 x2 x3 x4 h1 h2 h3 h4 h5 h6

noncomputable def MkBook (w : World) (R : List (Addr × Obj)) (b : Nat) (kb : List (Str × Value)) (home : Str) (bs : List (Str × Entry)) (cc nc tt ct : Int) (cal : List (Str × Int × Int)) : Prop :=
  ∀ news' b', (∀ p ∈ R, p ∈ news') → b ≤ b' → ∀ first turn gap u R' D' o2 kt' e1 e2 e3 e4, (R', tupO [.int (first + cc) e1, .int (1 + nc) e2, .int (turn + tt) e3, .int (gap + ct) e4, .ref D']) ∈ news' → (D', o2) ∈ news' → o2.IsDictOf (PySem.strKind PySem.Challenge.rw_xo0026_01.row.prog w) kt' →
    Cal news' kt' (addC cal u 1 turn) → (D' == sysModules) = false → kt'.length ≤ b' → Book w news' b' (stored kb home (.ref R')) (bump bs home first turn gap u)
theorem MkBook.none {R : List (Addr × Obj)} {b : Nat} {kb : List (Str × Value)} {home : Str} {bs : List (Str × Entry)} (h : Book w R b kb bs) (hv : valueAt kb home = none) : MkBook w R b kb home bs 0 0 0 0 [] :=
  fun _ _ sub hb _ _ _ _ _ _ _ _ _ _ _ _ h1 h2 h3 h4 h5 h6 => (h.mono sub hb).new hv h1 h2 h3 h4 h5 h6
theorem MkBook.use {R : List (Addr × Obj)} {b : Nat} {kb : List (Str × Value)} {home : Str} {bs : List (Str × Entry)} {cc nc tt ct : Int} {cal : List (Str × Int × Int)} (h : MkBook w R b kb home bs cc nc tt ct cal)
    {news' : List (Addr × Obj)} {b' : Nat} (sub : ∀ p ∈ R, p ∈ news') (hb : b ≤ b') {first turn gap : Int} {u : Str} {R' D' : Addr} {o2 : Obj} {kt' : List (Str × Value)} {e1 e2 e3 e4 : Tok} (h1 : (R', tupO [.int (first + cc) e1, .int (1 + nc) e2, .int (turn + tt) e3, .int (gap + ct) e4, .ref D']) ∈ news') (h2 : (D', o2) ∈ news')
    (h3 : o2.IsDictOf (PySem.strKind PySem.Challenge.rw_xo0026_01.row.prog w) kt') (h4 : Cal news' kt' (addC cal u 1 turn)) (h5 : (D' == sysModules) = false) (h6 : kt'.length ≤ b') : Book w news' b' (stored kb home (.ref R')) (bump bs home first turn gap u) :=
  h _ _ sub hb _ _ _ _ _ _ _ _ _ _ _ _ h1 h2 h3 h4 h5 h6
theorem bring2 {h₀ h : Heap} {L : Addr} {e1 e2 : Addr × Obj} {r : List (Addr × Obj)} (N : News h₀ L h (e1 :: e2 :: r)) : News h₀ L h (e2 :: e1 :: r) := fun p hp => N p (by revert p; k_extra "subl")
theorem bring3 {h₀ h : Heap} {L : Addr} {e1 e2 e3 : Addr × Obj} {r : List (Addr × Obj)} (N : News h₀ L h (e1 :: e2 :: e3 :: r)) : News h₀ L h (e3 :: e1 :: e2 :: r) := rot3 N
theorem bring4 {h₀ h : Heap} {L : Addr} {e1 e2 e3 e4 : Addr × Obj} {r : List (Addr × Obj)} (N : News h₀ L h (e1 :: e2 :: e3 :: e4 :: r)) : News h₀ L h (e4 :: e1 :: e2 :: e3 :: r) := fun p hp => N p (by revert p; k_extra "subl")
theorem bring5 {h₀ h : Heap} {L : Addr} {e1 e2 e3 e4 e5 : Addr × Obj} {r : List (Addr × Obj)} (N : News h₀ L h (e1 :: e2 :: e3 :: e4 :: e5 :: r)) : News h₀ L h (e5 :: e1 :: e2 :: e3 :: e4 :: r) := fun p hp => N p (by revert p; k_extra "subl")
inductive RowAt (w : World) (news : List (Addr × Obj)) (R : Addr) (v : Int) (hm : Str) : Prop
  | mk (q : Addr) (dq : Addr) (t1 : Tok) (t2 : Tok) (t3 : Tok) (t4 : Tok) (zz1 : (R, tupO [.ref q, .int v t1, .str hm t2]) ∈ news) (zz2 : (q, instObj 208 dq) ∈ news) (zz3 : (dq, dictOf (qD w t3 t4 hm) 1) ∈ news) : RowAt w news R v hm
theorem RowAt.mono {news news' : List (Addr × Obj)} {R : Addr} {v : Int} {hm : Str} (h : RowAt w news R v hm) (sub : ∀ p ∈ news, p ∈ news') : RowAt w news' R v hm := by
  obtain ⟨q, dq, t1, t2, t3, t4, h1, h2, h3⟩ := h
  exact ⟨q, dq, t1, t2, t3, t4, sub _ h1, sub _ h2, sub _ h3⟩
noncomputable def rowsK (ws : Nat → Str) (Rf : Nat → Addr) (i : Nat) : List (Str × Value) := (List.range i).map fun k => (ws k, Value.ref (Rf k))
theorem rowsK_length {ws : Nat → Str} {Rf : Nat → Addr} {i : Nat} : (rowsK ws Rf i).length = i := by simp [rowsK]
theorem rowsK_stored {ws : Nat → Str} {Rf : Nat → Addr} {i : Nat} {R : Addr} (inj : ∀ a b, a < 5 → b < 5 → ws a = ws b → a = b) (hi : i < 5) : stored (rowsK ws Rf i) (ws i) (.ref R) = rowsK ws (fun k => if k = i then R else Rf k) (i + 1) := by
  have h1 : (rowsK ws Rf i).any (fun kv => kv.1 = ws i) = false := by
    rw [List.any_eq_false]
    intro p hp
    obtain ⟨k, hk, rfl⟩ := List.mem_map.mp hp
    have hk' := List.mem_range.mp hk
    simp only [decide_eq_true_eq]
    intro e
    have := inj k i (by omega) hi e
    omega
  unfold stored
  rw [h1]
  unfold rowsK
  rw [List.range_succ, List.map_append]
  simp only [Bool.false_eq_true, if_false, List.map_cons, List.map_nil, if_true]
  congr 1
  exact List.map_congr_left fun k hk => by rw [if_neg (Nat.ne_of_lt (List.mem_range.mp hk))]
theorem rowsK_at {ws : Nat → Str} {Rf : Nat → Addr} {n i : Nat} (inj : ∀ a b, a < 5 → b < 5 → ws a = ws b → a = b) (hn : n ≤ 5) (hi : i < n) : valueAt (rowsK ws Rf n) (ws i) = some (.ref (Rf i)) := by
  unfold valueAt rowsK
  have : ∀ l : List Nat, (∀ k ∈ l, k < 5) → i ∈ l → (l.map fun k => (ws k, Value.ref (Rf k))).find? (fun kv => kv.1 = ws i) = some (ws i, .ref (Rf i)) := by
    intro l hl hm
    induction l with
    | nil => cases hm
    | cons k l ih =>
      rw [List.map_cons, List.find?_cons]
      by_cases hk : ws k = ws i
      · have := inj k i (hl k (.head _)) (by omega) hk
        subst this
        simp
      · have hne : i ≠ k := fun e => hk (by rw [e])
        have hm' : i ∈ l := by rcases List.mem_cons.mp hm with e | h; exact absurd e hne; exact h
        simp only [hk, decide_false]
        exact ih (fun k hk => hl k (.tail _ hk)) hm'
  rw [this (List.range n) (fun k hk => by have := List.mem_range.mp hk; omega) (List.mem_range.mpr hi)]
  rfl
section
variable {prog : Program} {A : Around} {E : Value → Shared → Prop} {s : Shared} {env : Env} {h₀ : Heap} {body : List Stmt} {Q : Flow → Shared → Prop}
inductive RowJ (w : World) (ws : Nat → Str) (vs : Nat → Int) (hm : Nat → Str) (m₀ : Str → Option Value) (pb rd : Addr) (ps : Array Value) (rest : List (Addr × Obj)) (i : Nat) (m' : Str → Option Value) (news' : List (Addr × Obj)) : Prop
  | mk (zz1 : (∀ y : Str, y ≠ "place" → y ≠ "home" → m' y = m₀ y)) (Rf : Nat → Addr) (pv : List Value) (n : Nat) (od : Obj) (R : List (Addr × Obj)) (zz2 : news' = (pb, PySem.W.listOf (List.toArray pv) n) :: (rd, od) :: (129, tabObj ps) :: R) (zz3 : (∀ p ∈ rest, p ∈ R)) (zz4 : StrsAre pv ((List.range i).map ws)) (zz5 : od.IsDictOf (PySem.strKind PySem.Challenge.rw_xo0026_01.row.prog w) (rowsK ws Rf i)) (zz6 : (∀ k, k < i → RowAt w R (Rf k) (vs k) (hm k))) (zz7 : (∀ p ∈ R, p.1 ≠ pb)) (zz8 : (∀ p ∈ R, p.1 ≠ rd)) (zz9 : (∀ p ∈ R, p.1 ≠ 129)) : RowJ w ws vs hm m₀ pb rd ps rest i m' news'
theorem rows_loop {r pb rd : Addr} {t₀ u₀ v₀ : Tok} {m₀ : Str → Option Value} {rest : List (Addr × Obj)} {od : Obj} {n : Nat} {ps : Array Value} (ws : Nat → Str) (vs : Nat → Int) (hm : Nat → Str) (GB : Array GenState → Prop) (hGB : GB s.gens)
    (hh : A.handled = none) (hx : env.kindOf "place" = some .local) (hp : (env.scope.kind == .class || (env.scope.kind == .module && env.locals != env.globals)) = false)
    (hr : IsRange s.heap r 0 5 1 t₀ u₀ v₀) (F : Fr h₀ env.locals s.heap m₀) (N : News h₀ env.locals s.heap ((pb, PySem.W.listOf (List.toArray []) n) :: (rd, od) :: (129, tabObj ps) :: rest)) (hd : od.IsDictOf (PySem.strKind PySem.Challenge.rw_xo0026_01.row.prog w) ([] : List (Str × Value)))
    (o1 : ∀ p ∈ rest, p.1 ≠ pb) (o2 : ∀ p ∈ rest, p.1 ≠ rd) (o3 : ∀ p ∈ rest, p.1 ≠ 129) (hre : ∀ i, i < 5 → reHit (ws i) ≤ 1 ∧ (ws i).length ≤ 1000 ∧ reachF (ws i) = hm i ∧ (hm i).length ≤ 1000)
    (turn : ∀ (i : Nat) t hv h tk gs I oI Rf pv n od R, GB gs → i < 5 → (∀ p ∈ rest, p ∈ R) → StrsAre pv ((List.range i).map ws) → od.IsDictOf (PySem.strKind PySem.Challenge.rw_xo0026_01.row.prog w) (rowsK ws Rf i) → (∀ k, k < i → RowAt w R (Rf k) (vs k) (hm k)) →
      (∀ p ∈ R, p.1 ≠ pb) → (∀ p ∈ R, p.1 ≠ rd) → (∀ p ∈ R, p.1 ≠ 129) → (∀ p ∈ R, p.1 ≠ I) → @Ne Nat I pb → @Ne Nat I rd → @Ne Nat I 129 → pv.length ≤ 5 → (rowsK ws Rf i).length ≤ 1000 → reHit (ws i) ≤ 1 → (ws i).length ≤ 1000 → reachF (ws i) = hm i → (hm i).length ≤ 1000 →
      Fr h₀ env.locals h (fun y : Str => if y = "place" then some (.int (i : Int) t) else if y = "home" then hv else m₀ y) → News h₀ env.locals h ((I, oI) :: (pb, PySem.W.listOf (List.toArray pv) n) :: (rd, od) :: (129, tabObj ps) :: R) →
      wpAny (model prog w) A (execs body env) (TurnG GB h₀ env.locals (RowJ w ws vs hm m₀ pb rd ps rest (i + 1)) I oI { s with heap := h, toks := tk, gens := gs } Q) (notedBy (model prog w) A env fun e s' => cameBackBy (model prog w) A env E e s') { s with heap := h, toks := tk, gens := gs })
    (done : ∀ pl hv h tk gs Rf pv n od R, GB gs → (∀ p ∈ rest, p ∈ R) → StrsAre pv ((List.range 5).map ws) → od.IsDictOf (PySem.strKind PySem.Challenge.rw_xo0026_01.row.prog w) (rowsK ws Rf 5) → (∀ k, k < 5 → RowAt w R (Rf k) (vs k) (hm k)) → (∀ p ∈ R, p.1 ≠ pb) → (∀ p ∈ R, p.1 ≠ 129) → (∀ p ∈ R, p.1 ≠ rd) →
      Fr h₀ env.locals h (fun y : Str => if y = "place" then pl else if y = "home" then hv else m₀ y) → News h₀ env.locals h ((pb, PySem.W.listOf (List.toArray pv) n) :: (rd, od) :: (129, tabObj ps) :: R) → Q .next { s with heap := h, toks := tk, gens := gs }) :
    wpAny (model prog w) A (pyIter (.ref r)) (fun it s₂ => NameLoopAt prog w A env "place" body Q E it s₂) E s := by
  refine range_loopG (n := 5) (RowJ w ws vs hm m₀ pb rd ps rest) GB hGB hh hx hp hr rfl rfl F N ⟨fun _ _ _ => rfl, fun _ => 0, [], n, od, rest, rfl, fun _ h => h, .nil, hd, (fun k hk => by omega), o1, o2, o3⟩ ?_ ?_
  · rintro i t m₁ news₁ h tk gs I oI gb hi ⟨hmap, Rf, pv, n, od, R, rfl, sub, hpv, hod, hrow, q1, q2, q3⟩ off F' N'
    have e : (fun y : Str => if y = "place" then some (Value.int (0 + (i : Int)) t) else m₁ y) = fun y : Str => if y = "place" then some (.int (i : Int) t) else if y = "home" then m₁ "home" else m₀ y := by
      funext y
      by_cases h1 : y = "place"
      · rw [if_pos h1, if_pos h1, Int.zero_add]
      by_cases h2 : y = "home"
      · rw [if_neg h1, if_neg h1, if_pos h2, h2]
      · rw [if_neg h1, if_neg h1, if_neg h2, hmap y h1 h2]
    rw [e] at F'
    obtain ⟨g1, g2, g3, g4⟩ := hre i hi
    have hl := hpv.len_eq
    rw [List.length_map, List.length_range] at hl
    exact turn i t _ h tk gs I oI Rf pv n od R gb hi sub hpv hod hrow q1 q2 q3 (fun p hp => off p (.tail _ (.tail _ (.tail _ hp)))) (fun e => off _ (.head _) e.symm) (fun e => off _ (.tail _ (.head _)) e.symm) (fun e => off _ (.tail _ (.tail _ (.head _))) e.symm) (by omega) (by rw [rowsK_length]; omega) g1 g2 g3 g4 F' N'
  · rintro m₁ news₁ h tk gs gb ⟨hmap, Rf, pv, n, od, R, rfl, sub, hpv, hod, hrow, q1, q2, q3⟩ F' N'
    have e : m₁ = fun y : Str => if y = "place" then m₁ "place" else if y = "home" then m₁ "home" else m₀ y := by
      funext y
      by_cases h1 : y = "place"
      · rw [if_pos h1, h1]
      by_cases h2 : y = "home"
      · rw [if_neg h1, if_pos h2, h2]
      · rw [if_neg h1, if_neg h2, hmap y h1 h2]
    rw [e] at F'
    exact done _ _ h tk gs Rf pv n od R gb sub hpv hod hrow q1 q3 q2 F' N'
theorem rows_next {ws : Nat → Str} {vs : Nat → Int} {hm : Nat → Str} {m₀ m' : Str → Option Value} {pb rd I R1 q dq : Addr} {ps : Array Value} {rest R : List (Addr × Obj)} {i n : Nat} {GB : Array GenState → Prop} {h : Heap} {tk : Nat} {gs : Array GenState} {oI od : Obj} {pv : List Value} {Rf : Nat → Addr} {tw t1 t2 t3 t4 : Tok}
    (gb : GB gs) (F : Fr h₀ env.locals h m') (N : News h₀ env.locals h ((pb, PySem.W.listOf (List.toArray (pv ++ [.str (ws i) tw])) n) :: (R1, tupO [.ref q, .int (vs i) t1, .str (hm i) t2]) :: (q, instObj 208 dq) :: (dq, dictOf (qD w t3 t4 (hm i)) 1) :: (I, oI) :: (rd, od) :: (129, tabObj ps) :: R))
    (hi : i < 5) (inj : ∀ a b, a < 5 → b < 5 → ws a = ws b → a = b) (sub : ∀ p ∈ rest, p ∈ R) (hpv : StrsAre pv ((List.range i).map ws)) (hod : od.IsDictOf (PySem.strKind PySem.Challenge.rw_xo0026_01.row.prog w) (stored (rowsK ws Rf i) (ws i) (.ref R1))) (hrow : ∀ k, k < i → RowAt w R (Rf k) (vs k) (hm k))
    (hmap : ∀ y : Str, y ≠ "place" → y ≠ "home" → m' y = m₀ y) (l1 : ∀ p ∈ (I, oI) :: (pb, PySem.W.listOf (List.toArray pv) n) :: (rd, od) :: (129, tabObj ps) :: R, @LT.lt Nat _ p.1 dq) (l2 : @LT.lt Nat _ dq q) (l3 : @LT.lt Nat _ q R1)
    (q1 : ∀ p ∈ R, p.1 ≠ pb) (q2 : ∀ p ∈ R, p.1 ≠ rd) (q3 : ∀ p ∈ R, p.1 ≠ 129) (q4 : ∀ p ∈ R, p.1 ≠ I) (i1 : @Ne Nat I pb) (i2 : @Ne Nat I rd) (i3 : @Ne Nat I 129) :
    TurnG GB h₀ env.locals (RowJ w ws vs hm m₀ pb rd ps rest (i + 1)) I oI s Q .next { s with heap := h, toks := tk, gens := gs } := by
  have g1 := l1 _ (.head _)
  have g2 := l1 _ (.tail _ (.head _))
  have g3 := l1 _ (.tail _ (.tail _ (.head _)))
  have g4 := l1 _ (.tail _ (.tail _ (.tail _ (.head _))))
  have ne : ∀ {x y : Nat}, x ≠ y → @Ne Addr x y := fun h => h
  refine TurnG.next (news' := (pb, PySem.W.listOf (List.toArray (pv ++ [.str (ws i) tw])) n) :: (rd, od) :: (129, tabObj ps) :: (R1, tupO [.ref q, .int (vs i) t1, .str (hm i) t2]) :: (q, instObj 208 dq) :: (dq, dictOf (qD w t3 t4 (hm i)) 1) :: R) gb F (fun p hp => N p (by revert p; k_extra "subl")) ?_ ⟨hmap, fun k => if k = i then R1 else Rf k, _, _, _, _, rfl, fun p hp => .tail _ (.tail _ (.tail _ (sub p hp))), ?_, ?_, ?_, ?_, ?_, ?_⟩
  · refine List.forall_mem_cons.mpr ⟨ne (Ne.symm i1), List.forall_mem_cons.mpr ⟨ne (Ne.symm i2), List.forall_mem_cons.mpr ⟨ne (Ne.symm i3), List.forall_mem_cons.mpr ⟨ne (by omega), List.forall_mem_cons.mpr ⟨ne (by omega), List.forall_mem_cons.mpr ⟨ne (by omega), q4⟩⟩⟩⟩⟩⟩
  · rw [List.range_succ, List.map_append]
    exact hpv.append' (.cons _ _ .nil)
  · rw [← rowsK_stored inj hi]; exact hod
  · intro k hk
    by_cases e : k = i
    · subst e
      rw [if_pos rfl]
      exact ⟨q, dq, t1, t2, t3, t4, .head _, .tail _ (.head _), .tail _ (.tail _ (.head _))⟩
    · rw [if_neg e]
      exact (hrow k (by omega)).mono fun p hp => .tail _ (.tail _ (.tail _ hp))
  · exact List.forall_mem_cons.mpr ⟨ne (by omega), List.forall_mem_cons.mpr ⟨ne (by omega), List.forall_mem_cons.mpr ⟨ne (by omega), q1⟩⟩⟩
  · exact List.forall_mem_cons.mpr ⟨ne (by omega), List.forall_mem_cons.mpr ⟨ne (by omega), List.forall_mem_cons.mpr ⟨ne (by omega), q2⟩⟩⟩
  · exact List.forall_mem_cons.mpr ⟨ne (by omega), List.forall_mem_cons.mpr ⟨ne (by omega), List.forall_mem_cons.mpr ⟨ne (by omega), q3⟩⟩⟩
end
theorem sub_mem {rest R : List (Addr × Obj)} {p : Addr × Obj} (sub : ∀ p ∈ rest, p ∈ R) (h : p ∈ rest) : p ∈ R := sub p h
theorem to_hm {v x y : Str} (e : v = reachF x) (h : reachF x = y) : v = y := e.trans h
section
variable {prog : Program} {A : Around} {E : Value → Shared → Prop} {s : Shared} {value slice : PySem.Expr}
theorem item_fnS {l : Addr} {ws : Nat → Str} {t0 t1 t2 t3 t4 : Tok} {i : Nat} {u : Tok} {Q : Value → Shared → Prop} (hl : s.heap.IsList l (List.toArray [.str (ws 0) t0, .str (ws 1) t1, .str (ws 2) t2, .str (ws 3) t3, .str (ws 4) t4])) (hi : i < 5)
    (h : ∀ t, Q (.str (ws i) t) s) (hs : subscripted slice false (.ref l) (.int i u) = operate [.ref l, .int i u] (getItem (.ref l) (.int i u))) : wpAny (model prog w) A (subscriptTail value slice (.ref l) (.int (i : Int) u)) Q E s := by
  revert i
  refine @(at5 ?_ ?_ ?_ ?_ ?_) <;> exact fun h hs => item_litK hl (by decide) (by decide) (by rfl) (h _) hs
theorem item_fnI {l : Addr} {vs : Nat → Int} {t0 t1 t2 t3 t4 : Tok} {i : Nat} {u : Tok} {Q : Value → Shared → Prop} (hl : s.heap.IsList l (List.toArray [.int (vs 0) t0, .int (vs 1) t1, .int (vs 2) t2, .int (vs 3) t3, .int (vs 4) t4])) (hi : i < 5)
    (h : ∀ t, Q (.int (vs i) t) s) (hs : subscripted slice false (.ref l) (.int i u) = operate [.ref l, .int i u] (getItem (.ref l) (.int i u))) : wpAny (model prog w) A (subscriptTail value slice (.ref l) (.int (i : Int) u)) Q E s := by
  revert i
  refine @(at5 ?_ ?_ ?_ ?_ ?_) <;> exact fun h hs => item_litK hl (by decide) (by decide) (by rfl) (h _) hs
end
noncomputable abbrev St3 := Nat × List Nat × List (Str × Entry)
noncomputable def stepR (gt : Nat → Nat → Bool) (hm : Nat → Str) (vs : Nat → Int) (turn : Int) (σ : St3) : St3 := match σ.2.1 with
  | [] => σ
  | j :: r => if gt σ.1 j then (σ.1, r ++ [j], bump σ.2.2 (hm j) (if turn = 1 then 1 else 0) turn (vs σ.1 - vs j) (hm σ.1)) else (j, r ++ [σ.1], σ.2.2)
noncomputable def stepsR (gt : Nat → Nat → Bool) (hm : Nat → Str) (vs : Nat → Int) (turn : Int) (σ : St3) : Nat → St3
  | 0 => σ
  | k + 1 => stepR gt hm vs turn (stepsR gt hm vs turn σ k)
noncomputable def turnR (gt : Nat → Nat → Bool) (hm : Nat → Str) (vs : Nat → Int) (turn : Int) (τ : List Nat × List (Str × Entry)) : List Nat × List (Str × Entry) := match τ.1 with
  | [] => τ
  | i :: r => ((stepsR gt hm vs turn (i, r, τ.2) 4).2.1 ++ [(stepsR gt hm vs turn (i, r, τ.2) 4).1], (stepsR gt hm vs turn (i, r, τ.2) 4).2.2)
noncomputable def runR (gt : Nat → Nat → Bool) (hm : Nat → Str) (vs : Nat → Int) : Nat → List Nat × List (Str × Entry)
  | 0 => ([0, 1, 2, 3, 4], [])
  | k + 1 => turnR gt hm vs (1 + (k : Int)) (runR gt hm vs k)
section
variable {gt : Nat → Nat → Bool} {hm : Nat → Str} {vs : Nat → Int} {turn : Int}
theorem stepR_ok {σ : St3} (h1 : σ.1 < 5) (h2 : σ.2.1.length = 4) (h3 : ∀ j ∈ σ.2.1, j < 5) : (stepR gt hm vs turn σ).1 < 5 ∧ (stepR gt hm vs turn σ).2.1.length = 4 ∧ ∀ j ∈ (stepR gt hm vs turn σ).2.1, j < 5 := by
  obtain ⟨i, line, bs⟩ := σ
  match line, h2, h3 with
  | j :: r, h2, h3 =>
    simp only [List.length_cons] at h2
    have hj := h3 j (.head _)
    have hr : ∀ k ∈ r, k < 5 := fun k hk => h3 k (.tail _ hk)
    unfold stepR
    dsimp only
    split
    · refine ⟨h1, by simp; omega, fun k hk => ?_⟩
      rcases List.mem_append.mp hk with hk | hk
      · exact hr k hk
      · rw [List.mem_singleton.mp hk]; exact hj
    · refine ⟨hj, by simp; omega, fun k hk => ?_⟩
      rcases List.mem_append.mp hk with hk | hk
      · exact hr k hk
      · rw [List.mem_singleton.mp hk]; exact h1
theorem stepsR_ok {σ : St3} (h1 : σ.1 < 5) (h2 : σ.2.1.length = 4) (h3 : ∀ j ∈ σ.2.1, j < 5) : ∀ k, (stepsR gt hm vs turn σ k).1 < 5 ∧ (stepsR gt hm vs turn σ k).2.1.length = 4 ∧ ∀ j ∈ (stepsR gt hm vs turn σ k).2.1, j < 5
  | 0 => ⟨h1, h2, h3⟩
  | k + 1 => by
    obtain ⟨a, b, c⟩ := stepsR_ok h1 h2 h3 k
    exact stepR_ok a b c
theorem runR_ok : ∀ k, (runR gt hm vs k).1.length = 5 ∧ ∀ j ∈ (runR gt hm vs k).1, j < 5
  | 0 => ⟨rfl, by intro j hj; simp only [runR, List.mem_cons, List.not_mem_nil, or_false] at hj; omega⟩
  | k + 1 => by
    obtain ⟨a, b⟩ := runR_ok k
    unfold runR turnR
    generalize runR gt hm vs k = τ at a b
    obtain ⟨line, bs⟩ := τ
    match line, a, b with
    | i :: r, a, b =>
      simp only [List.length_cons] at a
      obtain ⟨c, d, e⟩ := stepsR_ok (gt := gt) (hm := hm) (vs := vs) (turn := 1 + (k : Int)) (σ := (i, r, bs)) (b i (.head _)) (show r.length = 4 by omega) (fun j hj => b j (.tail _ hj)) 4
      refine ⟨by simp only [List.length_append, List.length_singleton]; omega, fun j hj => ?_⟩
      rcases List.mem_append.mp hj with hj | hj
      · exact e j hj
      · rw [List.mem_singleton.mp hj]; exact c
end
theorem strs_cons {vs : List Value} {x : Str} {r : List Str} (h : StrsAre vs (x :: r)) : ∃ t vs', vs = .str x t :: vs' ∧ StrsAre vs' r := by
  cases h with
  | cons k t hr => exact ⟨t, _, rfl, hr⟩
section
variable {prog : Program} {A : Around} {E : Value → Shared → Prop} {s : Shared} {env : Env} {h₀ : Heap} {body : List Stmt} {Q : Flow → Shared → Prop}
inductive RunAt (w : World) (ws : Nat → Str) (pb bk : Addr) (rest : List (Addr × Obj)) (b : Nat) (line : List Nat) (bs : List (Str × Entry)) (news' : List (Addr × Obj)) : Prop
  | mk (pv : List Value) (n : Nat) (ob : Obj) (kb : List (Str × Value)) (ps : Array Value) (R : List (Addr × Obj)) (zz1 : news' = (pb, PySem.W.listOf (List.toArray pv) n) :: (bk, ob) :: (129, tabObj ps) :: R) (zz2 : (∀ p ∈ rest, p ∈ R)) (zz3 : StrsAre pv (line.map ws)) (zz4 : ob.IsDictOf (PySem.strKind PySem.Challenge.rw_xo0026_01.row.prog w) kb) (zz5 : Book w R b kb bs) (zz6 : kb.length ≤ b) (zz7 : TriplesOk ps.toList) (zz8 : (∀ p ∈ R, p.1 ≠ pb)) (zz9 : (∀ p ∈ R, p.1 ≠ bk)) (zz10 : (∀ p ∈ R, p.1 ≠ 129)) : RunAt w ws pb bk rest b line bs news'
inductive RunAtE (w : World) (ws : Nat → Str) (pb bk : Addr) (e : Addr × Obj) (rest : List (Addr × Obj)) (b : Nat) (line : List Nat) (bs : List (Str × Entry)) (news' : List (Addr × Obj)) : Prop
  | mk (pv : List Value) (n : Nat) (ob : Obj) (kb : List (Str × Value)) (ps : Array Value) (R : List (Addr × Obj)) (zz1 : news' = (pb, PySem.W.listOf (List.toArray pv) n) :: (bk, ob) :: (129, tabObj ps) :: e :: R) (zz2 : (∀ p ∈ rest, p ∈ R)) (zz3 : StrsAre pv (line.map ws)) (zz4 : ob.IsDictOf (PySem.strKind PySem.Challenge.rw_xo0026_01.row.prog w) kb) (zz5 : Book w R b kb bs) (zz6 : kb.length ≤ b) (zz7 : TriplesOk ps.toList) (zz8 : (∀ p ∈ R, p.1 ≠ pb)) (zz9 : (∀ p ∈ R, p.1 ≠ bk)) (zz10 : (∀ p ∈ R, p.1 ≠ 129)) (zz11 : (∀ p ∈ R, p.1 ≠ e.1)) : RunAtE w ws pb bk e rest b line bs news'
noncomputable def StepJ (w : World) (ws : Nat → Str) (m₀ : Str → Option Value) (pb bk : Addr) (e0 : Addr × Obj) (rest : List (Addr × Obj)) (b : Nat) (σ : Nat → St3) (k : Nat) (m' : Str → Option Value) (news' : List (Addr × Obj)) : Prop :=
  (∀ y : Str, y ≠ "step" → y ≠ "held" → y ≠ "word" → y ≠ "gap" → y ≠ "run" → y ≠ "home" → m' y = m₀ y) ∧ (∃ t, m' "held" = some (.str (ws (σ k).1) t)) ∧ RunAtE w ws pb bk e0 rest (b + k) (σ k).2.1 (σ k).2.2 news'
theorem step_map {m₀ m' : Str → Option Value} {a hv : Option Value} (h : ∀ y : Str, y ≠ "step" → y ≠ "held" → y ≠ "word" → y ≠ "gap" → y ≠ "run" → y ≠ "home" → m' y = m₀ y) (hh : m' "held" = hv) :
    (fun y : Str => if y = "step" then a else m' y) = fun y : Str => if y = "step" then a else if y = "held" then hv else if y = "word" then m' "word" else if y = "gap" then m' "gap" else if y = "run" then m' "run" else if y = "home" then m' "home" else m₀ y := by
  funext y
  by_cases h1 : y = "step"
  · rw [if_pos h1, if_pos h1]
  by_cases h2 : y = "held"
  · rw [if_neg h1, if_neg h1, if_pos h2, h2, hh]
  by_cases h3 : y = "word"
  · rw [if_neg h1, if_neg h1, if_neg h2, if_pos h3, h3]
  by_cases h4 : y = "gap"
  · rw [if_neg h1, if_neg h1, if_neg h2, if_neg h3, if_pos h4, h4]
  by_cases h5 : y = "run"
  · rw [if_neg h1, if_neg h1, if_neg h2, if_neg h3, if_neg h4, if_pos h5, h5]
  by_cases h6 : y = "home"
  · rw [if_neg h1, if_neg h1, if_neg h2, if_neg h3, if_neg h4, if_neg h5, if_pos h6, h6]
  · rw [if_neg h1, if_neg h1, if_neg h2, if_neg h3, if_neg h4, if_neg h5, if_neg h6, h y h1 h2 h3 h4 h5 h6]
theorem steps_loop {r pb bk : Addr} {e0 : Addr × Obj} {t₀ u₀ v₀ : Tok} {m₀ : Str → Option Value} {rest R0 : List (Addr × Obj)} {ob : Obj} {n b : Nat} {ps : Array Value} {pv : List Value} {kb : List (Str × Value)} {ws : Nat → Str} {gt : Nat → Nat → Bool} {hm : Nat → Str} {vs : Nat → Int} {turn : Int} {i0 : Nat} {line : List Nat} {bs0 : List (Str × Entry)} {th : Tok}
    (hGB : AllBare s.gens) (hh : A.handled = none) (hx : env.kindOf "step" = some .local) (hp : (env.scope.kind == .class || (env.scope.kind == .module && env.locals != env.globals)) = false)
    (hr : IsRange s.heap r 0 4 1 t₀ u₀ v₀) (F : Fr h₀ env.locals s.heap m₀) (N : News h₀ env.locals s.heap ((pb, PySem.W.listOf (List.toArray pv) n) :: (bk, ob) :: (129, tabObj ps) :: e0 :: R0))
    (hheld : m₀ "held" = some (.str (ws i0) th)) (sub : ∀ p ∈ rest, p ∈ R0) (hpv : StrsAre pv (line.map ws)) (hob : ob.IsDictOf (PySem.strKind PySem.Challenge.rw_xo0026_01.row.prog w) kb) (hB : Book w R0 b kb bs0) (hkb : kb.length ≤ b) (hb : b ≤ 50) (htr : TriplesOk ps.toList)
    (o1 : ∀ p ∈ R0, p.1 ≠ pb) (o2 : ∀ p ∈ R0, p.1 ≠ bk) (o3 : ∀ p ∈ R0, p.1 ≠ 129) (o4 : ∀ p ∈ R0, p.1 ≠ e0.1) (l1 : i0 < 5) (l2 : line.length = 4) (l3 : ∀ j ∈ line, j < 5)
    (turnP : ∀ (k i j : Nat) lr t th tj wv gv rv hv h tk gs I oI pv' n ob kb ps R bs, AllBare gs → k < 4 → stepsR gt hm vs turn (i0, line, bs0) k = (i, j :: lr, bs) → i < 5 → j < 5 → (∀ p ∈ rest, p ∈ R) → StrsAre pv' (lr.map ws) → pv'.length ≤ 10 → ob.IsDictOf (PySem.strKind PySem.Challenge.rw_xo0026_01.row.prog w) kb → Book w R (b + k) kb bs → kb.length ≤ b + k → kb.length ≤ 1000 → TriplesOk ps.toList →
      (∀ p ∈ R, p.1 ≠ pb) → (∀ p ∈ R, p.1 ≠ bk) → (∀ p ∈ R, p.1 ≠ 129) → (∀ p ∈ R, p.1 ≠ e0.1) → (∀ p ∈ R, p.1 ≠ I) → @Ne Nat I pb → @Ne Nat I bk → @Ne Nat I 129 → @Ne Nat I e0.1 →
      Fr h₀ env.locals h (fun y : Str => if y = "step" then some (.int (k : Int) t) else if y = "held" then some (.str (ws i) th) else if y = "word" then wv else if y = "gap" then gv else if y = "run" then rv else if y = "home" then hv else m₀ y) → News h₀ env.locals h ((I, oI) :: (pb, PySem.W.listOf (List.toArray (.str (ws j) tj :: pv')) n) :: (bk, ob) :: (129, tabObj ps) :: e0 :: R) →
      wpAny (model prog w) A (execs body env) (TurnG AllBare h₀ env.locals (StepJ w ws m₀ pb bk e0 rest b (stepsR gt hm vs turn (i0, line, bs0)) (k + 1)) I oI { s with heap := h, toks := tk, gens := gs } Q) (notedBy (model prog w) A env fun e s' => cameBackBy (model prog w) A env E e s') { s with heap := h, toks := tk, gens := gs })
    (done : ∀ sv th wv gv rv hv h tk gs pv' n ob kb ps R, AllBare gs → (∀ p ∈ rest, p ∈ R) → StrsAre pv' ((stepsR gt hm vs turn (i0, line, bs0) 4).2.1.map ws) → pv'.length ≤ 10 → ob.IsDictOf (PySem.strKind PySem.Challenge.rw_xo0026_01.row.prog w) kb → Book w R (b + 4) kb (stepsR gt hm vs turn (i0, line, bs0) 4).2.2 → kb.length ≤ b + 4 → TriplesOk ps.toList →
      (∀ p ∈ R, p.1 ≠ pb) → (∀ p ∈ R, p.1 ≠ bk) → (∀ p ∈ R, p.1 ≠ 129) → (∀ p ∈ R, p.1 ≠ e0.1) →
      Fr h₀ env.locals h (fun y : Str => if y = "step" then sv else if y = "held" then some (.str (ws (stepsR gt hm vs turn (i0, line, bs0) 4).1) th) else if y = "word" then wv else if y = "gap" then gv else if y = "run" then rv else if y = "home" then hv else m₀ y) → News h₀ env.locals h ((pb, PySem.W.listOf (List.toArray pv') n) :: (bk, ob) :: (129, tabObj ps) :: e0 :: R) → Q .next { s with heap := h, toks := tk, gens := gs }) :
    wpAny (model prog w) A (pyIter (.ref r)) (fun it s₂ => NameLoopAt prog w A env "step" body Q E it s₂) E s := by
  have ok := stepsR_ok (gt := gt) (hm := hm) (vs := vs) (turn := turn) (σ := (i0, line, bs0)) l1 l2 l3
  refine range_loopG (n := 4) (StepJ w ws m₀ pb bk e0 rest b (stepsR gt hm vs turn (i0, line, bs0))) AllBare hGB hh hx hp hr rfl rfl F N ⟨fun _ _ _ _ _ _ _ => rfl, ⟨th, hheld⟩, pv, n, ob, kb, ps, R0, rfl, sub, hpv, hob, hB, hkb, htr, o1, o2, o3, o4⟩ ?_ ?_
  · rintro k t m₁ news₁ h tk gs I oI gb hk ⟨hmap, ⟨th', hhe⟩, pv', n', ob', kb', ps', R', rfl, sub', hpv', hob', hB', hkb', htr', q1, q2, q3, q4⟩ off F' N'
    obtain ⟨k1, k2, k3⟩ := ok k
    have e0 : (fun y : Str => if y = "step" then some (Value.int (0 + (k : Int)) t) else m₁ y) = fun y : Str => if y = "step" then some (Value.int (k : Int) t) else m₁ y := by rw [Int.zero_add]
    rw [e0, step_map hmap hhe] at F'
    obtain ⟨i, lin, bs, e⟩ : ∃ i lin bs, stepsR gt hm vs turn (i0, line, bs0) k = (i, lin, bs) := ⟨_, _, _, rfl⟩
    rw [e] at k1 k2 k3 hpv' hB' F'
    match lin, k2, k3, hpv', e with
    | j :: lr, k2, k3, hpv', e =>
      obtain ⟨tj, pv2, rfl, hpv2⟩ := strs_cons hpv'
      have hl := hpv2.len_eq
      rw [List.length_map] at hl
      simp only [List.length_cons] at k2
      exact turnP k i j lr t th' tj _ _ _ _ h tk gs I oI pv2 n' ob' kb' ps' R' bs gb hk e k1 (k3 j (.head _)) sub' hpv2 (by omega) hob' hB' hkb' (by omega) htr' q1 q2 q3 q4 (fun p hp => off p (.tail _ (.tail _ (.tail _ (.tail _ hp))))) (fun e => off _ (.head _) e.symm) (fun e => off _ (.tail _ (.head _)) e.symm) (fun e => off _ (.tail _ (.tail _ (.head _))) e.symm) (fun e => off _ (.tail _ (.tail _ (.tail _ (.head _)))) e.symm) F' N'
  · rintro m₁ news₁ h tk gs gb ⟨hmap, ⟨th', hhe⟩, pv', n', ob', kb', ps', R', rfl, sub', hpv', hob', hB', hkb', htr', q1, q2, q3, q4⟩ F' N'
    obtain ⟨k1, k2, k3⟩ := ok 4
    have hl := hpv'.len_eq
    rw [List.length_map] at hl
    have e : m₁ = fun y : Str => if y = "step" then m₁ "step" else if y = "held" then some (.str (ws (stepsR gt hm vs turn (i0, line, bs0) 4).1) th') else if y = "word" then m₁ "word" else if y = "gap" then m₁ "gap" else if y = "run" then m₁ "run" else if y = "home" then m₁ "home" else m₀ y := by
      rw [← step_map hmap hhe]
      funext y
      by_cases h1 : y = "step"
      · rw [if_pos h1, h1]
      · rw [if_neg h1]
    rw [e] at F'
    exact done _ th' _ _ _ _ h tk gs pv' n' ob' kb' ps' R' gb sub' hpv' (by omega) hob' hB' hkb' htr' q1 q2 q3 q4 F' N'
end
theorem step_keep {gt : Nat → Nat → Bool} {hm : Nat → Str} {vs : Nat → Int} {turn : Int} {σ : St3} {k i j : Nat} {lr : List Nat} {bs : List (Str × Entry)} (e : stepsR gt hm vs turn σ k = (i, j :: lr, bs)) (h : gt i j = false) : stepsR gt hm vs turn σ (k + 1) = (j, lr ++ [i], bs) := by
  show stepR gt hm vs turn (stepsR gt hm vs turn σ k) = _
  rw [e]; unfold stepR; dsimp only; rw [h]; rfl
theorem step_swap {gt : Nat → Nat → Bool} {hm : Nat → Str} {vs : Nat → Int} {turn : Int} {σ : St3} {k i j : Nat} {lr : List Nat} {bs : List (Str × Entry)} (e : stepsR gt hm vs turn σ k = (i, j :: lr, bs)) (h : gt i j = true) : stepsR gt hm vs turn σ (k + 1) = (i, lr ++ [j], bump bs (hm j) (if turn = 1 then 1 else 0) turn (vs i - vs j) (hm i)) := by
  show stepR gt hm vs turn (stepsR gt hm vs turn σ k) = _
  rw [e]; unfold stepR; dsimp only; rw [h]; rfl
section
variable {prog : Program} {A : Around} {E : Value → Shared → Prop} {s : Shared} {env : Env} {h₀ : Heap} {body : List Stmt} {Q : Flow → Shared → Prop}
noncomputable def OutJ (w : World) (ws : Nat → Str) (m₀ : Str → Option Value) (pb bk : Addr) (rest : List (Addr × Obj)) (τ : Nat → List Nat × List (Str × Entry)) (k : Nat) (m' : Str → Option Value) (news' : List (Addr × Obj)) : Prop :=
  (∀ y : Str, y ≠ "turn" → y ≠ "step" → y ≠ "held" → y ≠ "word" → y ≠ "gap" → y ≠ "run" → y ≠ "home" → m' y = m₀ y) ∧ RunAt w ws pb bk rest (4 * k) (τ k).1 (τ k).2 news'
theorem out_map {m₀ m' : Str → Option Value} {a : Option Value} (h : ∀ y : Str, y ≠ "turn" → y ≠ "step" → y ≠ "held" → y ≠ "word" → y ≠ "gap" → y ≠ "run" → y ≠ "home" → m' y = m₀ y) :
    (fun y : Str => if y = "turn" then a else m' y) = fun y : Str => if y = "turn" then a else if y = "step" then m' "step" else if y = "held" then m' "held" else if y = "word" then m' "word" else if y = "gap" then m' "gap" else if y = "run" then m' "run" else if y = "home" then m' "home" else m₀ y := by
  funext y
  by_cases h0 : y = "turn"
  · rw [if_pos h0, if_pos h0]
  by_cases h1 : y = "step"
  · rw [if_neg h0, if_neg h0, if_pos h1, h1]
  by_cases h2 : y = "held"
  · rw [if_neg h0, if_neg h0, if_neg h1, if_pos h2, h2]
  by_cases h3 : y = "word"
  · rw [if_neg h0, if_neg h0, if_neg h1, if_neg h2, if_pos h3, h3]
  by_cases h4 : y = "gap"
  · rw [if_neg h0, if_neg h0, if_neg h1, if_neg h2, if_neg h3, if_pos h4, h4]
  by_cases h5 : y = "run"
  · rw [if_neg h0, if_neg h0, if_neg h1, if_neg h2, if_neg h3, if_neg h4, if_pos h5, h5]
  by_cases h6 : y = "home"
  · rw [if_neg h0, if_neg h0, if_neg h1, if_neg h2, if_neg h3, if_neg h4, if_neg h5, if_pos h6, h6]
  · rw [if_neg h0, if_neg h0, if_neg h1, if_neg h2, if_neg h3, if_neg h4, if_neg h5, if_neg h6, h y h0 h1 h2 h3 h4 h5 h6]
theorem turns_loop {r pb bk : Addr} {t₀ u₀ v₀ : Tok} {m₀ : Str → Option Value} {R0 : List (Addr × Obj)} {ob : Obj} {n : Nat} {ps : Array Value} {pv : List Value} {ws : Nat → Str} (gt : Nat → Nat → Bool) (hm : Nat → Str) (vs : Nat → Int)
    (hGB : AllBare s.gens) (hh : A.handled = none) (hx : env.kindOf "turn" = some .local) (hp : (env.scope.kind == .class || (env.scope.kind == .module && env.locals != env.globals)) = false)
    (hr : IsRange s.heap r 1 5 1 t₀ u₀ v₀) (F : Fr h₀ env.locals s.heap m₀) (N : News h₀ env.locals s.heap ((pb, PySem.W.listOf (List.toArray pv) n) :: (bk, ob) :: (129, tabObj ps) :: R0))
    (hpv : StrsAre pv ((List.range 5).map ws)) (hob : ob.IsDictOf (PySem.strKind PySem.Challenge.rw_xo0026_01.row.prog w) ([] : List (Str × Value))) (htr : TriplesOk ps.toList)
    (o1 : ∀ p ∈ R0, p.1 ≠ pb) (o2 : ∀ p ∈ R0, p.1 ≠ bk) (o3 : ∀ p ∈ R0, p.1 ≠ 129)
    (turnP : ∀ (k i : Nat) lr t ti sv hd wv gv rv hv h tk gs I oI pv' n ob kb ps R bs, AllBare gs → k < 4 → runR gt hm vs k = (i :: lr, bs) → i < 5 → lr.length = 4 → (∀ j ∈ lr, j < 5) → (∀ p ∈ R0, p ∈ R) → StrsAre pv' (lr.map ws) → pv'.length ≤ 10 → ob.IsDictOf (PySem.strKind PySem.Challenge.rw_xo0026_01.row.prog w) kb → Book w R (4 * k) kb bs → kb.length ≤ 4 * k → TriplesOk ps.toList →
      (∀ p ∈ R, p.1 ≠ pb) → (∀ p ∈ R, p.1 ≠ bk) → (∀ p ∈ R, p.1 ≠ 129) → (∀ p ∈ R, p.1 ≠ I) → @Ne Nat I pb → @Ne Nat I bk → @Ne Nat I 129 →
      Fr h₀ env.locals h (fun y : Str => if y = "turn" then some (.int (1 + (k : Int)) t) else if y = "step" then sv else if y = "held" then hd else if y = "word" then wv else if y = "gap" then gv else if y = "run" then rv else if y = "home" then hv else m₀ y) → News h₀ env.locals h ((I, oI) :: (pb, PySem.W.listOf (List.toArray (.str (ws i) ti :: pv')) n) :: (bk, ob) :: (129, tabObj ps) :: R) →
      wpAny (model prog w) A (execs body env) (TurnG AllBare h₀ env.locals (OutJ w ws m₀ pb bk R0 (runR gt hm vs) (k + 1)) I oI { s with heap := h, toks := tk, gens := gs } Q) (notedBy (model prog w) A env fun e s' => cameBackBy (model prog w) A env E e s') { s with heap := h, toks := tk, gens := gs })
    (done : ∀ tv sv hd wv gv rv hv h tk gs pv' n ob kb ps R, AllBare gs → (∀ p ∈ R0, p ∈ R) → StrsAre pv' ((runR gt hm vs 4).1.map ws) → ob.IsDictOf (PySem.strKind PySem.Challenge.rw_xo0026_01.row.prog w) kb → Book w R 16 kb (runR gt hm vs 4).2 → TriplesOk ps.toList →
      (∀ p ∈ R, p.1 ≠ pb) → (∀ p ∈ R, p.1 ≠ bk) → (∀ p ∈ R, p.1 ≠ 129) →
      Fr h₀ env.locals h (fun y : Str => if y = "turn" then tv else if y = "step" then sv else if y = "held" then hd else if y = "word" then wv else if y = "gap" then gv else if y = "run" then rv else if y = "home" then hv else m₀ y) → News h₀ env.locals h ((pb, PySem.W.listOf (List.toArray pv') n) :: (bk, ob) :: (129, tabObj ps) :: R) → Q .next { s with heap := h, toks := tk, gens := gs }) :
    wpAny (model prog w) A (pyIter (.ref r)) (fun it s₂ => NameLoopAt prog w A env "turn" body Q E it s₂) E s := by
  refine range_loopG (n := 4) (OutJ w ws m₀ pb bk R0 (runR gt hm vs)) AllBare hGB hh hx hp hr rfl rfl F N ⟨fun _ _ _ _ _ _ _ _ => rfl, pv, n, ob, [], ps, R0, rfl, fun _ h => h, hpv, hob, .nil, Nat.zero_le _, htr, o1, o2, o3⟩ ?_ ?_
  · rintro k t m₁ news₁ h tk gs I oI gb hk ⟨hmap, pv', n', ob', kb', ps', R', rfl, sub', hpv', hob', hB', hkb', htr', q1, q2, q3⟩ off F' N'
    obtain ⟨k1, k2⟩ := runR_ok (gt := gt) (hm := hm) (vs := vs) k
    rw [out_map hmap] at F'
    obtain ⟨lin, bs, e⟩ : ∃ lin bs, runR gt hm vs k = (lin, bs) := ⟨_, _, rfl⟩
    rw [e] at k1 k2 hpv' hB'
    match lin, k1, k2, hpv', e with
    | i :: lr, k1, k2, hpv', e =>
      obtain ⟨ti, pv2, rfl, hpv2⟩ := strs_cons hpv'
      have hl := hpv2.len_eq
      rw [List.length_map] at hl
      simp only [List.length_cons] at k1
      exact turnP k i lr t ti _ _ _ _ _ _ h tk gs I oI pv2 n' ob' kb' ps' R' bs gb hk e (k2 i (.head _)) (by omega) (fun j hj => k2 j (.tail _ hj)) sub' hpv2 (by omega) hob' hB' hkb' htr' q1 q2 q3 (fun p hp => off p (.tail _ (.tail _ (.tail _ hp)))) (fun e => off _ (.head _) e.symm) (fun e => off _ (.tail _ (.head _)) e.symm) (fun e => off _ (.tail _ (.tail _ (.head _))) e.symm) F' N'
  · rintro m₁ news₁ h tk gs gb ⟨hmap, pv', n', ob', kb', ps', R', rfl, sub', hpv', hob', hB', hkb', htr', q1, q2, q3⟩ F' N'
    have e : m₁ = fun y : Str => if y = "turn" then m₁ "turn" else if y = "step" then m₁ "step" else if y = "held" then m₁ "held" else if y = "word" then m₁ "word" else if y = "gap" then m₁ "gap" else if y = "run" then m₁ "run" else if y = "home" then m₁ "home" else m₀ y := by
      rw [← out_map hmap]
      funext y
      by_cases h1 : y = "turn"
      · rw [if_pos h1, h1]
      · rw [if_neg h1]
    rw [e] at F'
    exact done _ _ _ _ _ _ _ h tk gs pv' n' ob' kb' ps' R' gb sub' hpv' hob' hB' htr' q1 q2 q3 F' N'
theorem out_next {pb bk I : Addr} {oI ob : Obj} {m₀ m' : Str → Option Value} {R0 R : List (Addr × Obj)} {n : Nat} {ps : Array Value} {pv : List Value} {kb : List (Str × Value)} {ws : Nat → Str} {gt : Nat → Nat → Bool} {hm : Nat → Str} {vs : Nat → Int} {k i : Nat} {lr : List Nat} {bs : List (Str × Entry)} {th : Tok} {h : Heap} {tk : Nat} {gs : Array GenState}
    (gb : AllBare gs) (F : Fr h₀ env.locals h m') (N : News h₀ env.locals h ((pb, PySem.W.listOf (List.toArray (pv ++ [.str (ws (stepsR gt hm vs (1 + (k : Int)) (i, lr, bs) 4).1) th])) n) :: (I, oI) :: (bk, ob) :: (129, tabObj ps) :: R))
    (e : runR gt hm vs k = (i :: lr, bs)) (hmap : ∀ y : Str, y ≠ "turn" → y ≠ "step" → y ≠ "held" → y ≠ "word" → y ≠ "gap" → y ≠ "run" → y ≠ "home" → m' y = m₀ y) (sub : ∀ p ∈ R0, p ∈ R) (hpv : StrsAre pv ((stepsR gt hm vs (1 + (k : Int)) (i, lr, bs) 4).2.1.map ws))
    (hob : ob.IsDictOf (PySem.strKind PySem.Challenge.rw_xo0026_01.row.prog w) kb) (hB : Book w R (4 * k + 4) kb (stepsR gt hm vs (1 + (k : Int)) (i, lr, bs) 4).2.2) (hkb : kb.length ≤ 4 * k + 4) (htr : TriplesOk ps.toList) (q1 : ∀ p ∈ R, p.1 ≠ pb) (q2 : ∀ p ∈ R, p.1 ≠ bk) (q3 : ∀ p ∈ R, p.1 ≠ 129) (q4 : ∀ p ∈ R, p.1 ≠ I) (i1 : @Ne Nat I pb) (i2 : @Ne Nat I bk) (i3 : @Ne Nat I 129) :
    TurnG AllBare h₀ env.locals (OutJ w ws m₀ pb bk R0 (runR gt hm vs) (k + 1)) I oI s Q .next { s with heap := h, toks := tk, gens := gs } := by
  have e2 : runR gt hm vs (k + 1) = ((stepsR gt hm vs (1 + (k : Int)) (i, lr, bs) 4).2.1 ++ [(stepsR gt hm vs (1 + (k : Int)) (i, lr, bs) 4).1], (stepsR gt hm vs (1 + (k : Int)) (i, lr, bs) 4).2.2) := by
    show turnR gt hm vs (1 + (k : Int)) (runR gt hm vs k) = _
    rw [e]; rfl
  refine TurnG.next gb F (bring2 N) (List.forall_mem_cons.mpr ⟨Ne.symm i1, List.forall_mem_cons.mpr ⟨Ne.symm i2, List.forall_mem_cons.mpr ⟨Ne.symm i3, q4⟩⟩⟩) ⟨hmap, _, _, _, kb, _, _, rfl, sub, ?_, hob, ?_, ?_, htr, q1, q2, q3⟩
  · rw [e2, List.map_append]; exact hpv.append' (.cons _ _ .nil)
  · rw [e2]; exact hB
  · rw [Nat.mul_succ]; exact hkb
theorem step_next {pb bk I : Addr} {e0 : Addr × Obj} {oI ob : Obj} {m₀ m' : Str → Option Value} {rest R : List (Addr × Obj)} {n b k : Nat} {ps : Array Value} {pv : List Value} {kb : List (Str × Value)} {ws : Nat → Str} {σ : Nat → St3} {i j : Nat} {lr : List Nat} {bs : List (Str × Entry)} {th tj : Tok} {h : Heap} {tk : Nat} {gs : Array GenState}
    (gb : AllBare gs) (F : Fr h₀ env.locals h m') (N : News h₀ env.locals h ((pb, PySem.W.listOf (List.toArray (pv ++ [.str (ws j) tj])) n) :: (I, oI) :: (bk, ob) :: (129, tabObj ps) :: e0 :: R))
    (e : σ (k + 1) = (i, lr ++ [j], bs)) (hmap : ∀ y : Str, y ≠ "step" → y ≠ "held" → y ≠ "word" → y ≠ "gap" → y ≠ "run" → y ≠ "home" → m' y = m₀ y) (hheld : m' "held" = some (.str (ws i) th)) (sub : ∀ p ∈ rest, p ∈ R) (hpv : StrsAre pv (lr.map ws))
    (hob : ob.IsDictOf (PySem.strKind PySem.Challenge.rw_xo0026_01.row.prog w) kb) (hB : Book w R (b + k + 1) kb bs) (hkb : kb.length ≤ b + k + 1) (htr : TriplesOk ps.toList) (q1 : ∀ p ∈ R, p.1 ≠ pb) (q2 : ∀ p ∈ R, p.1 ≠ bk) (q3 : ∀ p ∈ R, p.1 ≠ 129) (q5 : ∀ p ∈ R, p.1 ≠ e0.1) (q4 : ∀ p ∈ R, p.1 ≠ I) (i1 : @Ne Nat I pb) (i2 : @Ne Nat I bk) (i3 : @Ne Nat I 129) (i4 : @Ne Nat I e0.1) :
    TurnG AllBare h₀ env.locals (StepJ w ws m₀ pb bk e0 rest b σ (k + 1)) I oI s Q .next { s with heap := h, toks := tk, gens := gs } := by
  refine TurnG.next gb F (bring2 N) (List.forall_mem_cons.mpr ⟨Ne.symm i1, List.forall_mem_cons.mpr ⟨Ne.symm i2, List.forall_mem_cons.mpr ⟨Ne.symm i3, List.forall_mem_cons.mpr ⟨Ne.symm i4, q4⟩⟩⟩⟩) ⟨hmap, ⟨th, by rw [e]; exact hheld⟩, _, _, _, kb, _, _, rfl, sub, ?_, hob, ?_, ?_, htr, q1, q2, q3, q5⟩
  · rw [e, List.map_append]; exact hpv.append' (.cons _ _ .nil)
  · rw [e]; exact hB
  · exact hkb
end
noncomputable def cmpR (i1 : Int) (x1 x2 : Str) (v1 v2 w1 w2 : Int) : Int := if i1 = 0 then cmpA x1 x2 v1 v2 w1 w2 else cmpB x1 x2 v1 v2 w1 w2
section
variable {mg mb : Str → Option Value} {mean : ExcName → Option Value} {loose : List Str} {dp un : Nat} {gd : Option (List Code)} {cn : Str} {cs : Scope} {a : Addr} {ccd : Value} {cl : List (Str × Addr)} {outer : List Env} {A₀ : Around} {base h₀ : Heap} {L : Addr} {m : Str → Option Value} {s : Shared} {Q E : Value → Shared → Prop}
theorem c_cmp {J dj D T1 T2 R1 R2 : Addr} {nD : Nat} {t1 ta tb tc td : Tok} {i1 i2 w1 w2 v1 v2 : Int} {x1 x2 : Str} {news : List (Addr × Obj)}
    (B : Below A₀ base outer h₀) (F : Fr h₀ L s.heap m) (X : (hd.heap_1 w.params).In h₀) (N : News h₀ L s.heap news) (T : Top topProg loose mean mg mb h₀) (hk : cs.kind = .function) (h1 : dp ≤ 324) (h2 : un ≤ 150)
    (hJ : (J, instObj 116 dj) ∈ news) (hdj : (dj, dictOf (selD w t1 D) 1) ∈ news) (hD : (D, PySem.W.listOf (List.toArray [.ref T1, .ref T2]) nD) ∈ news) (hT1 : (T1, tupO [.int i1 ta, .int w1 tb]) ∈ news) (hT2 : (T2, tupO [.int i2 tc, .int w2 td]) ∈ news)
    (hi : i1 = 0 ∧ i2 = 1 ∨ i1 = 1 ∧ i2 = 0) (hR1 : RowAt w news R1 v1 x1) (hR2 : RowAt w news R2 v2 x2) (hz1 : x1.length ≤ 1000) (hz2 : x2.length ≤ 1000) (hv1 : -1 ≤ v1 ∧ v1 ≤ 1) (hv2 : -1 ≤ v2 ∧ v2 ≤ 1) (hw1 : -1 ≤ w1 ∧ w1 ≤ 1) (hw2 : -1 ≤ w2 ∧ w2 ≤ 1)
    (ret : ∀ t h' tk', Fr h₀ L h' m → News h₀ L h' news → Q (.int (cmpR i1 x1 x2 v1 v2 w1 w2) t) { s with heap := h', toks := tk' }) :
    wpAny (model PySem.Challenge.rw_xo0026_01.row.prog w) (ktrTop dp un gd cn cs L a ccd cl outer) (call (.ref 113) [.ref J, .ref R1, .ref R2]) Q E s := by
  obtain ⟨q1, dq1, e1, e2, e3, e4, r1, r2, r3⟩ := hR1
  obtain ⟨q2, dq2, f1, f2, f3, f4, s1, s2, s3⟩ := hR2
  rcases hi with ⟨rfl, rfl⟩ | ⟨rfl, rfl⟩
  · exact c_compareA B F X N T hk h1 h2 hJ hdj hD hT1 hT2 r1 s1 r2 s2 r3 s3 hz1 hz2 hv1 hv2 hw1 hw2 fun r t h' tk' e F' N' => by
      rw [e, show cmpA x1 x2 v1 v2 w1 w2 = cmpR 0 x1 x2 v1 v2 w1 w2 from rfl]; exact ret t h' tk' F' N'
  · exact c_compareB B F X N T hk h1 h2 hJ hdj hD hT1 hT2 r1 s1 r2 s2 r3 s3 hz1 hz2 hv1 hv2 hw1 hw2 fun r t h' tk' e F' N' => by
      rw [e, show cmpB x1 x2 v1 v2 w1 w2 = cmpR 1 x1 x2 v1 v2 w1 w2 from rfl]; exact ret t h' tk' F' N'
end
theorem dict_get {A : Around} {E : Value → Shared → Prop} {s : Shared} {h₀ : Heap} {L d : Addr} {news : List (Addr × Obj)} {o : Obj} {kvs : List (Str × Value)} {k : Str} {t : Tok} {dflt : Value} {Q : Value → Shared → Prop} (N : News h₀ L s.heap news) (hp : (d, o) ∈ news) (hd : o.IsDictOf (PySem.strKind PySem.Challenge.rw_xo0026_01.row.prog w) kvs) (lo : (d == sysModules) = false)
    (h1 : ∀ v, valueAt kvs k = some v → Q v { s with toks := s.toks + 1 }) (h0 : valueAt kvs k = none → Q dflt { s with toks := s.toks + 1 }) : wpAny (model PySem.Challenge.rw_xo0026_01.row.prog w) A (call (.builtin "dict.get") [.ref d, .str k t, dflt]) Q E s := by
  refine kdg_get2 N hp hd lo (strKind_is _ _ _ _) (valueAt kvs k) rfl ?_
  cases e : valueAt kvs k with
  | some v => exact h1 v e
  | none => exact h0 e
theorem get_method {A : Around} {E : Value → Shared → Prop} {s : Shared} {h₀ : Heap} {L d : Addr} {news : List (Addr × Obj)} {o : Obj} {kvs : List (Str × Value)} {pl : Sem Bool} {Q : Value × List Value → Shared → Prop} (N : News h₀ L s.heap news) (hp : (d, o) ∈ news) (hd : o.IsDictOf (PySem.strKind PySem.Challenge.rw_xo0026_01.row.prog w) kvs) (h : Q (.builtin "dict.get", [.ref d]) s) : wpAny (model PySem.Challenge.rw_xo0026_01.row.prog w) A (getMethod (.ref d) "get" pl) Q E s := kdg_method N hp hd h
theorem stats_shape {h₀ h : Heap} {L R D I pb bk I2 : Addr} {oR oD oI opb obk oI2 : Obj} {ex rest : List (Addr × Obj)} {e1 e2 e3 e4 e5 : Addr × Obj} {ps : Array Value} (N : News h₀ L h ((R, oR) :: (D, oD) :: (ex ++ (129, tabObj ps) :: e1 :: e2 :: e3 :: e4 :: e5 :: (I, oI) :: (pb, opb) :: (bk, obk) :: (I2, oI2) :: rest)))
    (hR : ∀ p ∈ (D, oD) :: (ex ++ (129, tabObj ps) :: e1 :: e2 :: e3 :: e4 :: e5 :: (I, oI) :: (pb, opb) :: (bk, obk) :: (I2, oI2) :: rest), @LT.lt Nat _ p.1 R) (hx : ∀ p ∈ ex, @LT.lt Nat _ D p.1) (hD : @LT.lt Nat _ 129 D ∧ AllLt D (e1 :: e2 :: e3 :: e4 :: e5 :: (I, oI) :: (pb, opb) :: (bk, obk) :: (I2, oI2) :: rest))
    (o1 : ∀ p ∈ [e1, e2, e3, e4, e5], p.1 ≠ pb ∧ p.1 ≠ bk ∧ p.1 ≠ 129 ∧ p.1 ≠ I ∧ p.1 ≠ I2) (q1 : ∀ p ∈ rest, p.1 ≠ pb) (q2 : ∀ p ∈ rest, p.1 ≠ bk) (q3 : ∀ p ∈ rest, p.1 ≠ 129) (q4 : ∀ p ∈ rest, p.1 ≠ I) (q5 : ∀ p ∈ rest, p.1 ≠ I2) :
    ∃ R', News h₀ L h ((I, oI) :: (pb, opb) :: (bk, obk) :: (129, tabObj ps) :: (I2, oI2) :: R') ∧ (R, oR) ∈ R' ∧ (D, oD) ∈ R' ∧ (∀ p ∈ ex ++ e4 :: rest, p ∈ R') ∧ (∀ p ∈ rest, p ∈ R') ∧ (∀ p ∈ ex, p ∈ R') ∧
      (∀ p ∈ R', p.1 ≠ pb) ∧ (∀ p ∈ R', p.1 ≠ bk) ∧ (∀ p ∈ R', p.1 ≠ 129) ∧ (∀ p ∈ R', p.1 ≠ I) ∧ (∀ p ∈ R', p.1 ≠ I2) := by
  have lt := ktn_ltOf hD.2
  have gI : @LT.lt Nat _ I D := lt (I, oI) (by simp)
  have gp : @LT.lt Nat _ pb D := lt (pb, opb) (by simp)
  have gb : @LT.lt Nat _ bk D := lt (bk, obk) (by simp)
  have g2 : @LT.lt Nat _ I2 D := lt (I2, oI2) (by simp)
  have gR : @LT.lt Nat _ D R := hR (D, oD) (.head _)
  have ne : ∀ {x y : Nat}, x ≠ y → @Ne Addr x y := fun h => h
  have g9 := hD.1
  have oall : ∀ p ∈ e1 :: e2 :: e3 :: e4 :: e5 :: rest, p.1 ≠ pb ∧ p.1 ≠ bk ∧ p.1 ≠ 129 ∧ p.1 ≠ I ∧ p.1 ≠ I2 := by
    intro p hp
    by_cases hr : p ∈ rest
    · exact ⟨q1 p hr, q2 p hr, q3 p hr, q4 p hr, q5 p hr⟩
    · refine o1 p ?_
      simp only [List.mem_cons] at hp ⊢
      rcases hp with h | h | h | h | h | h
      · exact .inl h
      · exact .inr (.inl h)
      · exact .inr (.inr (.inl h))
      · exact .inr (.inr (.inr (.inl h)))
      · exact .inr (.inr (.inr (.inr (.inl h))))
      · exact absurd h hr
  refine ⟨(R, oR) :: (D, oD) :: (ex ++ e1 :: e2 :: e3 :: e4 :: e5 :: rest), fun p hp => N p ?_, .head _, .tail _ (.head _), fun p hp => ?_, fun p hp => by simp [hp], fun p hp => by simp [hp], ?_, ?_, ?_, ?_, ?_⟩
  · revert p; k_extra "subl"
  · revert p; k_extra "subl"
  all_goals (
    refine List.forall_mem_cons.mpr ⟨ne (by omega), List.forall_mem_cons.mpr ⟨ne (by omega), fun p hp => ?_⟩⟩
    rcases List.mem_append.mp hp with hp | hp)
  all_goals first
    | (have := hx _ hp; exact ne (by omega))
    | exact (oall _ hp).1
    | exact (oall _ hp).2.1
    | exact (oall _ hp).2.2.1
    | exact (oall _ hp).2.2.2.1
    | exact (oall _ hp).2.2.2.2
theorem row_in {R news : List (Addr × Obj)} {Rf : Nat → Addr} {vs : Nat → Int} {hm : Nat → Str} {i : Nat} (h : ∀ k, k < 5 → RowAt w R (Rf k) (vs k) (hm k)) (hi : i < 5) (sub : ∀ p ∈ R, p ∈ news) : RowAt w news (Rf i) (vs i) (hm i) := (h i hi).mono sub
theorem hre_at {ws hm : Nat → Str} {i : Nat} (h : ∀ i, i < 5 → reHit (ws i) ≤ 1 ∧ (ws i).length ≤ 1000 ∧ reachF (ws i) = hm i ∧ (hm i).length ≤ 1000) (hi : i < 5) : reHit (ws i) ≤ 1 ∧ (ws i).length ≤ 1000 ∧ reachF (ws i) = hm i ∧ (hm i).length ≤ 1000 := h i hi
theorem vs_at {vs : Nat → Int} {i : Nat} (h : ∀ i, i < 5 → -1 ≤ vs i ∧ vs i ≤ 1) (hi : i < 5) : -1 ≤ vs i ∧ vs i ≤ 1 := h i hi
section
variable {prog : Program} {A : Around} {E : Value → Shared → Prop} {s : Shared} {h₀ : Heap} {L : Addr} {value slice : PySem.Expr} {news : List (Addr × Obj)} {R : Addr} {v : Int} {hm : Str} {u : Tok} {Q : Value → Shared → Prop}
theorem row_item1 (N : News h₀ L s.heap news) (hr : RowAt w news R v hm) (h : ∀ t, Q (.int v t) s)
    (hs : subscripted slice false (.ref R) (.int 1 u) = operate [.ref R, .int 1 u] (getItem (.ref R) (.int 1 u))) : wpAny (model prog w) A (subscriptTail value slice (.ref R) (.int 1 u)) Q E s := by
  obtain ⟨q, dq, t1, t2, t3, t4, h1, _, _⟩ := hr
  have ht : IsTup s.heap R (List.toArray [.ref q, .int v t1, .str hm t2]) := ⟨_, (N _ h1).1, rfl, _, rfl⟩
  exact tail_any ht.typeIs slot_tuple_getitem.lookup (getItem_tuple ht (by decide) (by decide) (by rfl) (by rfl) (h _)) hs
theorem row_item2 (N : News h₀ L s.heap news) (hr : RowAt w news R v hm) (h : ∀ t, Q (.str hm t) s)
    (hs : subscripted slice false (.ref R) (.int 2 u) = operate [.ref R, .int 2 u] (getItem (.ref R) (.int 2 u))) : wpAny (model prog w) A (subscriptTail value slice (.ref R) (.int 2 u)) Q E s := by
  obtain ⟨q, dq, t1, t2, t3, t4, h1, _, _⟩ := hr
  have ht : IsTup s.heap R (List.toArray [.ref q, .int v t1, .str hm t2]) := ⟨_, (N _ h1).1, rfl, _, rfl⟩
  exact tail_any ht.typeIs slot_tuple_getitem.lookup (getItem_tuple ht (by decide) (by decide) (by rfl) (by rfl) (h _)) hs
end
section
local macro_rules | `(tactic| k_mem) => `(tactic| (k_extra "in run"; done))
noncomputable def gtR (i1 w1 w2 : Int) (hm : Nat → Str) (vs : Nat → Int) (i j : Nat) : Bool := decide (0 < cmpR i1 (hm i) (hm j) (vs i) (vs j) w1 w2)
theorem steps_order {h₀ h : Heap} {L : Addr} {e1 e2 e3 e4 : Addr × Obj} {r : List (Addr × Obj)} (N : News h₀ L h (e1 :: e2 :: e3 :: e4 :: r)) : News h₀ L h (e1 :: e3 :: e4 :: e2 :: r) := fun p hp => N p (by revert p; k_extra "subl")
theorem run_order {h₀ h : Heap} {L : Addr} {e1 e2 e3 e4 : Addr × Obj} {r : List (Addr × Obj)} (N : News h₀ L h (e1 :: e2 :: e3 :: e4 :: r)) : News h₀ L h (e2 :: e1 :: e4 :: e3 :: r) := fun p hp => N p (by revert p; k_extra "subl")
structure Cut (P : Prop) : Prop where
  out : P
theorem out_order {h₀ h : Heap} {L : Addr} {e1 e2 e3 e4 : Addr × Obj} {r : List (Addr × Obj)} (N : News h₀ L h (e1 :: e2 :: e3 :: e4 :: r)) : News h₀ L h (e1 :: e4 :: e2 :: e3 :: r) := fun p hp => N p (by revert p; k_extra "subl")
section
variable {mg mb : Str → Option Value} {mean : ExcName → Option Value} {loose : List Str} {dp un : Nat} {gd : Option (List Code)} {cn : Str} {cs : Scope} {a : Addr} {ccd : Value} {cl : List (Str × Addr)} {outer : List Env} {A₀ : Around} {base h₀ : Heap} {L : Addr} {m : Str → Option Value} {s : Shared} {Q E : Value → Shared → Prop}
theorem off_run1_1 : True := by
  w_top off
  k_with_none
  k_with "subl" => ((repeat' (first | refine List.forall_mem_cons.mpr ⟨by (repeat (first | exact List.Mem.head _ | refine List.Mem.tail _ ?_ | refine List.mem_append_right _ ?_)), ?_⟩ | refine List.forall_mem_append.mpr ⟨?_, ?_⟩)); all_goals (intro _ hpw219; (repeat (first | exact hpw219 | refine List.Mem.tail _ ?_ | exact List.mem_append_left _ hpw219 | refine List.mem_append_right _ ?_))))
  k_with "pk" => (with_reducible first | exact pk1 ‹_› | exact pk2 ‹_› | exact pk3 ‹_› | exact pk4 ‹_› | exact pk5 ‹_› | exact pk6 ‹_› | exact pk7 ‹_› | exact pk8 ‹_› | exact pk9 ‹_› | exact pk10 ‹_› | exact pk11 ‹_› | exact pk12 ‹_› | exact pk13 ‹_› | exact pk14 ‹_› | exact pl2 ‹_› | exact pl3 ‹_› | exact pl4 ‹_› | exact pl5 ‹_› | exact pl6 ‹_› | exact pl7 ‹_›)
  k_with "suc" => (with_reducible first | exact lts1 | exact lts2 | exact lts3 | exact lts4 | exact lts5 | exact lts6 | exact lts7)
  k_with "hop" => (with_reducible first | exact ‹_› | k_extra "pk" | (refine Nat.lt_trans ?_ (by first | assumption | k_extra "pk"); k_extra "hop"))
  k_with "om" => (first | (with_reducible first | ((show @Ne Nat _ _); (try dsimp only); first | exact ‹_› | exact Ne.symm ‹_› | exact Nat.ne_of_lt (by k_extra "suc") | exact Nat.ne_of_gt (by k_extra "suc") | ((fail_if_success (fail_if_success refine cj2 ‹_› ?_)); exact Nat.ne_of_gt (by k_extra "pk")) | ((fail_if_success (fail_if_success refine cj1 ‹_› ?_)); exact Nat.ne_of_lt (by k_extra "pk")) | ((fail_if_success (fail_if_success refine cj3 ‹_› ?_)); k_extra "pk") | ((fail_if_success (fail_if_success refine cj4 ‹_› ?_)); k_extra "pk") | ((fail_if_success (fail_if_success refine cj5 ‹_› ?_)); exact Ne.symm (by k_extra "pk")) | ((fail_if_success (fail_if_success refine cj6 ‹_› ?_)); exact Ne.symm (by k_extra "pk")) | exact Nat.ne_of_gt ‹_› | exact Nat.ne_of_lt ‹_› | exact Nat.ne_of_lt (up1 (by k_extra "pk")) | exact Nat.ne_of_lt (up2 (by k_extra "pk")) | exact Nat.ne_of_lt (up3 (by k_extra "pk")) | exact Nat.ne_of_lt (up4 (by k_extra "pk")) | exact Nat.ne_of_gt (by k_extra "hop") | exact Nat.ne_of_lt (by k_extra "hop")) | ((show _ ∨ _); first | exact lt5_cases ‹_› | exact i5_cases ‹_› ‹_› | exact i3_cases ‹_› ‹_›) | ((show @LT.lt Nat _ _ _); first | exact ‹_› | exact sub_step ‹_› | exact sub_step1 ‹_› | k_extra "suc" | ((fail_if_success (fail_if_success refine cj7 ‹_› ?_)); k_extra "pk")) | ((show @LE.le Nat _ _ _); (try dsimp only); first | exact (by decide) | exact Nat.le_of_lt ‹_› | exact Nat.le_of_lt (by k_extra "suc") | (refine Nat.le_trans ‹_› ?_; decide) | (refine Nat.le_trans (Nat.le_of_eq (Eq.symm ‹_›)) (Nat.le_trans ‹_› ?_); decide) | exact le_s1 (by k_extra "pk") | exact le_s1 (by k_extra "hop") | exact len2a ‹_› ‹_› | exact len2b ‹_› ‹_›) | ((show @LE.le Int _ _ _); exact neg5) | ((show @LT.lt Int _ _ _); exact Int.ofNat_lt.mpr ‹_›)))
  k_with "my_enter" => k_dflt (first | (refine' code_def ?k1w914 ?k2w914 ?k3w914 ?k4w914 ?k5w914 ?kAw914 ?kFw914 ?kKw914 ?k6w914 ?k7w914 ?k8w914 ?k9w914 ?kBw914 ?_ ?c2w914 ?c3w914 ?c4w914 ?c5w914; (case kAw914 => exact rfl); (case kFw914 => exact rfl); (case kKw914 => assumption); (case k1w914 => k_asm); (case k2w914 => k_asm); (case k3w914 => k_asm); (case k4w914 => k_asm); (case k5w914 => k_asm); (case k6w914 => k_is); (case k7w914 => k_is); (case k8w914 => k_room); (case k9w914 => first | exact BindsTo.of_eq rfl | exact binds_K (by k_in) rfl (by k_is) rfl rfl rfl); (case c5w914 => decide); (case kBw914 => exact locs rfl); (case c2w914 => exact rfl); (case c3w914 => exact rfl); (case c4w914 => exact rfl); k_whole; intro _ _ _ _ _ N'w914 B'w914 _ _; (try dsimp only); (try k_lift B'w914); (try k_fold)) | (refine' code_defC ?k1w914 ?k2w914 ?k3w914 ?k4w914 ?k5w914 ?kAw914 ?kFw914 ?kKw914 ?k6w914 ?k7w914 ?k8w914 ?k9w914 ?kBw914 ?kDw914 ?_ ?c2w914 ?c3w914 ?c4w914; (case kAw914 => exact rfl); (case kFw914 => exact rfl); (case kKw914 => assumption); (case k1w914 => k_asm); (case k2w914 => k_asm); (case k3w914 => k_asm); (case k4w914 => k_asm); (case k5w914 => k_asm); (case k6w914 => k_is); (case k7w914 => k_is); (case k8w914 => k_room); (case k9w914 => first | exact BindsTo.of_eq rfl | exact binds_K (by k_in) rfl (by k_is) rfl rfl rfl); (case kBw914 => exact rfl); (case kDw914 => decide +kernel); (case c2w914 => exact rfl); (case c3w914 => exact rfl); (case c4w914 => exact rfl); k_whole; intro _ _ _ _ _ _ _ N'w914 Y'w914 B'w914 _ _ l1w914; (try k_lt l1w914); k_cells Y'w914; (try simp only [List.cons_append, List.nil_append] at N'w914); (try dsimp only); (try k_lift B'w914); (try k_fold)))
  k_with "my_unrolled" => (k_dflt (first | (refine LCg.CompSrc.ledger (by rfl) (by k_asm) (by k_asm) (by k_mem) (by first | size_fits | exact Nat.le_of_ble_eq_true rfl) ?_; intro _; lcg_lit) | (refine LCg.CompSrc.base (by rfl) (by k_asm) (by k_asm) ‹_› (by first | size_fits | exact Nat.le_of_ble_eq_true rfl) ?_; intro _; lcg_lit) | (refine LCg.CompSrc.range (by rfl) (by k_asm) (by k_asm) ‹_› (by first | decide | rfl) (by first | rfl | decide) (by first | size_fits | exact Nat.le_of_ble_eq_true rfl) ?_; intro _; lcg_lit)))
  k_with "my_comp" => k_dflt (refine LCg.ListComp_U (F₀ := by k_asm) (by with_unfolding_all rfl) (by decide) (by rfl) (by decide) (by rfl) ?_)
  k_with "my_compA" => k_dflt (refine LCg.Assign_ListComp_U (F₀ := by k_asm) (by rfl) (by with_unfolding_all rfl) (by with_unfolding_all rfl) (by decide) (by rfl) (by decide) (by rfl) (by rfl) (by rfl) ?_)
  k_with "CompRest" => (with_unfolding_all first | (refine LCg.CompRest.succ ?_; intro _ _ _ _ _ _ _ _ _ _ hv'w186 _ hx'w186 _ _ off'w186 _; (first | lcg_open hv'w186 | (obtain ⟨_, hv9'w186⟩ := hv'w186; subst hv9'w186; (try simp only [Int.zero_add, Int.natCast_zero, Int.natCast_one, Int.reduceAdd, Nat.reduceAdd, Int.cast_ofNat_Int] at hx'w186))); (try simp only [LCg.Off3, and_true] at off'w186)) | refine LCg.CompRest.zero ?_)
  k_with "eval ListComp" => (k_here; k_extra "my_comp")
  k_with "exec Assign cons ListComp" => (k_here; k_extra "my_compA")
  k_with "call ref" => k_extra "my call"
  k_with "exec For" => k_extra "my For"
  k_with "getMethod ref" => k_extra "my getMethod"
  k_with "subscriptTail Name Name ref int" => k_extra "my item"
  k_with "binaryOp Add str str" => (k_here; (with_reducible show wpAny _ _ (binaryOp Operator.Add (Value.str _ _) (Value.str _ _)) _ _ _); (refine add_short (by with_reducible assumption) (by with_reducible assumption) ?_); intro _ _ _)
  k_with "binaryOp Add str str" => (k_here; (with_reducible show wpAny _ _ (binaryOp Operator.Add (Value.str _ _) (Value.str _ _)) _ _ _); (refine add_short (by first | with_reducible assumption | exact quote_short) (by first | with_reducible assumption | exact quote_short) ?_); intro _ _ _)
  k_with "call type:str" => (k_here; (with_reducible show wpAny _ _ (call (Value.type "str") [Value.int _ _]) _ _ _); (refine str_digit ‹_› ‹_› ?_); intro _ _ _)
  k_with "pyIter ref" => k_extra "my pyIter"
  k_with "lex white" => (k_here; k_dflt (refine lex_white ‹_› ?_; intro _))
  k_with "FnAt" => k_dflt (exact FnAt.of (by k_asm) (by k_mem))
  k_with "TurnJ" => k_dflt (refine TurnJ.ret ?_; (try dsimp only))
  k_with "exec For Tuple Call cons nil" => k_extra "my For"
  k_with "setItem ref str" => k_extra "my set"
  k_with "in run" => (repeat (first | with_reducible assumption | exact List.Mem.head _ | refine List.Mem.tail _ ?_ | assumption | exact sub_mem (by with_reducible assumption) (by with_reducible assumption) | refine sub_mem (by with_reducible assumption) ?_))
  k_with "run mem" => (k_extra "in run"; done)
  k_with "TurnG" => k_dflt (refine TurnG.ret ?_; (try dsimp only))
  k_with "dict set" => (k_here; k_dflt (refine' kda_set (knd := PySem.strKind _ _) ?Fw365 ?Nw365 ?Uw365 ?dw365 (strKind_is _ _ _ _) ?zw365 ?_; (case Fw365 => k_asm); (case Nw365 => k_asm); (case Uw365 => k_updF); (case dw365 => assumption); (case zw365 => first | exact take_size ‹_› | exact dict_size ‹_›); intro _ _ _ N'w365 _; (try dsimp only at N'w365)))
  k_with "subscriptTail Name Name ref str" => k_extra "my dict item"
  k_with "exec For Name Call cons nil" => k_extra "my For"
  k_with "for name" => (k_here; k_dflt (refine For_name ?_))
  k_with "fn item" => (k_here; (with_reducible show wpAny _ _ (subscriptTail _ _ (Value.ref _) (Value.int (Nat.cast _) _)) _ _ _); k_dflt (first | (refine' item_fnS ?zlw125 ?ziw125 ?_ ?zsw125; (case zlw125 => exact News.isList (by k_asm) (by k_extra "in run")); (case ziw125 => assumption); (case zsw125 => with_unfolding_all rfl); intro _) | (refine' item_fnI ?zlw125 ?ziw125 ?_ ?zsw125; (case zlw125 => exact News.isList (by k_asm) (by k_extra "in run")); (case ziw125 => assumption); (case zsw125 => with_unfolding_all rfl); intro _)))
  k_with "call reach" => (k_here; k_dflt (refine' c_reach ?Bw334 ?Fw334 ?Xw334 ?Nw334 ?Tw334 ?hkw334 ?h1w334 ?h2w334 ?hxw334 ?hbw334 ?hzw334 ?_; (case Bw334 => k_asm); (case Fw334 => k_asm); (case Xw334 => k_asm); (case Nw334 => k_asm); (case Tw334 => k_asm); (case hkw334 => exact rfl); (case h1w334 => exact Nat.le_of_ble_eq_true rfl); (case h2w334 => exact Nat.le_of_ble_eq_true rfl); (case hxw334 => exact rfl); (case hbw334 => assumption); (case hzw334 => assumption); ((k_whole; intro _ _ _ _ e'w334 _ _; (have e9'w334 := to_hm e'w334 ‹_›); subst e9'w334; (try k_sweep)))))
  k_with "call qname" => (k_here; k_dflt (refine' c_qname ?Bw84 ?Fw84 ?Xw84 ?Nw84 ?Tw84 ?hkw84 ?h1w84 ?h2w84 ?hzw84 ?_; (case Bw84 => k_asm); (case Fw84 => k_asm); (case Xw84 => k_asm); (case Nw84 => k_asm); (case Tw84 => k_asm); (case hkw84 => exact rfl); (case h1w84 => exact Nat.le_of_ble_eq_true rfl); (case h2w84 => exact Nat.le_of_ble_eq_true rfl); (case hzw84 => assumption); ((k_whole; intro _ _ _ _ _ _ _ _ l1w84 _; (try simp only [AllLt, and_true] at l1w84); (try k_sweep)))))
  k_with "call push" => (k_here; k_dflt (refine' c_push ?Bw230 ?Fw230 ?Xw230 ?Nw230 ?Tw230 ?hkw230 ?h1w230 ?h2w230 ?hxw230 ?hdxw230 ?offw230 ?hvw230 ?_; (case Bw230 => k_asm); (case Fw230 => k_asm); (case Xw230 => k_asm); (case Nw230 => first | k_asm | exact bring2 (by k_asm) | exact bring3 (by k_asm) | exact bring4 (by k_asm) | exact bring5 (by k_asm)); (case Tw230 => k_asm); (case hkw230 => exact rfl); (case h1w230 => exact Nat.le_of_ble_eq_true rfl); (case h2w230 => exact Nat.le_of_ble_eq_true rfl); (case hxw230 => k_extra "in run"); (case hdxw230 => k_extra "in run"); (case offw230 => k_all); (case hvw230 => omega); ((k_whole; intro _ _ _ _ _; (try k_sweep)))))
  k_with "get method" => (k_here; (with_reducible show wpAny _ _ (getMethod (Value.ref _) (Str.ofString "get") _) _ _ _); k_dflt (refine' get_method ?zNw865 ?zpw865 ?zdw865 ?_; (case zNw865 => k_asm); (case zpw865 => k_extra "in run"); (case zdw865 => assumption)))
  k_with "call builtin:dict.get" => k_extra "my get"
  k_with "dict get2" => (k_here; k_dflt (refine' dict_get ?zNw646 ?zpw646 ?zdw646 ?zlow646 ?_ ?_; (case zNw646 => k_asm); (case zpw646 => k_extra "in run"); (case zdw646 => assumption); (case zlow646 => assumption); ((intro _ hv'w646; (obtain ⟨_, _, _, _, _, _, _, _, _, _, _, _, _, ev8'w646, _, _, _, _, _, _, mk8'w646⟩ := Book.at ‹_› hv'w646 (dict_nodup ‹_›)); subst ev8'w646; (have mk9'w646 := (show MkBook _ _ _ _ _ _ _ _ _ _ _ from mk8'w646)); clear mk8'w646; (try k_fold))); rotate_left; ((intro hv'w646; (have mk9'w646 := MkBook.none ‹_› hv'w646); (try k_fold)))))
  k_with "row item" => (k_here; k_dflt (refine' kda_item (knd := PySem.strKind _ _) ?zNw711 ?zpw711 ?zdw711 (strKind_is _ _ _ _) ?zlw711 ?_ ?zsw711 ?zgw711; (case zNw711 => k_asm); (case zpw711 => k_extra "in run"); (case zdw711 => assumption); (case zlw711 => exact rowsK_at ‹_› (Nat.le_refl 5) ‹_›); (case zsw711 => with_unfolding_all rfl); (case zgw711 => (intro _; with_unfolding_all rfl))))
  k_with "call pop" => (k_here; k_dflt (refine' c_pop ?Bw159 ?Fw159 ?Xw159 ?Nw159 ?Tw159 ?hkw159 ?h1w159 ?h2w159 ?hxw159 ?hdxw159 ?offw159 ?hvw159 ?_; (case Bw159 => k_asm); (case Fw159 => k_asm); (case Xw159 => k_asm); (case Nw159 => first | k_asm | exact bring2 (by k_asm) | exact bring3 (by k_asm) | exact bring4 (by k_asm) | exact bring5 (by k_asm)); (case Tw159 => k_asm); (case hkw159 => exact rfl); (case h1w159 => exact Nat.le_of_ble_eq_true rfl); (case h2w159 => exact Nat.le_of_ble_eq_true rfl); (case hxw159 => k_extra "in run"); (case hdxw159 => k_extra "in run"); (case offw159 => k_all); (case hvw159 => omega); ((k_whole; intro _ _ _ _ _; (try k_sweep)))))
  k_with "call cmp" => (k_here; k_dflt (refine' c_cmp ?Bw772 ?Fw772 ?Xw772 ?Nw772 ?Tw772 ?hkw772 ?h1w772 ?h2w772 ?hJw772 ?hdjw772 ?hDw772 ?hT1w772 ?hT2w772 ?hiw772 ?hR1w772 ?hR2w772 ?hz1w772 ?hz2w772 ?hv1w772 ?hv2w772 ?hw1w772 ?hw2w772 ?_; (case Bw772 => k_asm); (case Fw772 => k_asm); (case Xw772 => k_asm); (case Nw772 => k_asm); (case Tw772 => k_asm); (case hkw772 => exact rfl); (case h1w772 => exact Nat.le_of_ble_eq_true rfl); (case h2w772 => exact Nat.le_of_ble_eq_true rfl); (case hJw772 => k_extra "in run"); (case hdjw772 => k_extra "in run"); (case hDw772 => k_extra "in run"); (case hT1w772 => k_extra "in run"); (case hT2w772 => k_extra "in run"); (case hiw772 => assumption); (case hR1w772 => exact row_in ‹_› ‹_› (by intro _ hpw772; (repeat (refine List.Mem.tail _ ?_)); (refine sub_mem (by with_reducible assumption) ?_; exact List.Mem.tail _ hpw772))); (case hR2w772 => exact row_in ‹_› ‹_› (by intro _ hpw772; (repeat (refine List.Mem.tail _ ?_)); (refine sub_mem (by with_reducible assumption) ?_; exact List.Mem.tail _ hpw772))); (case hz1w772 => exact (hre_at ‹_› ‹_›).2.2.2); (case hz2w772 => exact (hre_at ‹_› ‹_›).2.2.2); (case hv1w772 => exact vs_at ‹_› ‹_›); (case hv2w772 => exact vs_at ‹_› ‹_›); (case hw1w772 => assumption); (case hw2w772 => assumption); ((k_whole; intro _ _ _ _ _; (try k_sweep)))))
  k_with "subscriptTail Name Constant ref int" => k_extra "my row part"
  k_with "row part" => (k_here; k_dflt (first | ((with_reducible show wpAny _ _ (subscriptTail _ _ (Value.ref _) (Value.int 1 _)) _ _ _); refine' row_item1 ?zNw159 ?zrw159 ?_ ?zsw159; (case zNw159 => k_asm); (case zrw159 => exact row_in ‹_› ‹_› (by intro _ hpw159; (repeat (refine List.Mem.tail _ ?_)); (refine sub_mem (by with_reducible assumption) ?_; exact List.Mem.tail _ hpw159))); (case zsw159 => with_unfolding_all rfl); intro _) | ((with_reducible show wpAny _ _ (subscriptTail _ _ (Value.ref _) (Value.int 2 _)) _ _ _); refine' row_item2 ?zNw159 ?zrw159 ?_ ?zsw159; (case zNw159 => k_asm); (case zrw159 => exact row_in ‹_› ‹_› (by intro _ hpw159; (repeat (refine List.Mem.tail _ ?_)); (refine sub_mem (by with_reducible assumption) ?_; exact List.Mem.tail _ hpw159))); (case zsw159 => with_unfolding_all rfl); intro _)))
  k_with "eval Dict" => k_extra "my dict"
  k_with "dict of one" => (k_here; k_dflt (refine' kdn_eval (knd := PySem.strKind _ _) ?zFw548 ?zNw548 ?zbw548 ?zaw548 ?zlw548 ?zew548 ?znw548 ?_; (case zFw548 => k_asm); (case zNw548 => k_asm); (case zbw548 => exact Top.nolimit (by k_asm)); (case zaw548 => rfl); (case zlw548 => rfl); (case zew548 => exact List.cons_ne_nil _ _); (case znw548 => exact Nat.le_of_ble_eq_true rfl); intro _ _ _ _ _ l1w548 _ _; (try k_lt l1w548)))
  k_with "subscriptTail Subscript Name Name Constant ref int" => k_extra "my row part"
  k_with "newTuple" => k_extra "my newTuple"
  k_with "new tuple" => (k_here; k_dflt (refine' kup_newTuple ?Fw145 ?Nw145 ?_ ?zw145; (case Fw145 => k_asm); (case Nw145 => k_asm); (case zw145 => kmk_size)); intro _ _ _ _ l1w145; (try k_lt l1w145); (try k_sweep))
  k_with "exec For Name Name cons nil" => k_extra "my For"
  trivial
noncomputable def run_cut {x dx st pb Lw Lv J dj D T1 T2 : Addr} {n nw nv nD : Nat} {ps : Array Value} {rest : List (Addr × Obj)} {a1 a2 a3 a4 a5 a6 u0 u1 u2 u3 u4 v0 v1 v2 v3 v4 tj ta tb tc td : Tok} {ln i1 w1 i2 w2 : Int} {ws : Nat → Str} {vs : Nat → Int} {hm : Nat → Str}
    (B : Below A₀ base outer h₀) (F : Fr h₀ L s.heap m) (X : (hd.heap_1 w.params).In h₀) (N : News h₀ L s.heap ((pb, PySem.W.listOf (List.toArray []) n) :: (129, tabObj ps) :: rest)) (T : Top topProg loose mean mg mb h₀) (hk : cs.kind = .function) (h1 : dp ≤ 311) (h2 : un ≤ 10)
    (G : AllBare s.gens) (C9 : CodeHd base 133 129) (htr : TriplesOk ps.toList) (o1 : ∀ p ∈ rest, p.1 ≠ pb) (o2 : ∀ p ∈ rest, p.1 ≠ 129) (o3 : @Ne Nat pb 129)
    (hx : (x, instObj 88 dx) ∈ rest) (hdx : (dx, dictOf (lexD w a1 a2 a3 a4 a5 a6 ln (.ref st) (.ref pb)) 4) ∈ rest)
    (hLw : (Lw, PySem.W.listOf (List.toArray [.str (ws 0) u0, .str (ws 1) u1, .str (ws 2) u2, .str (ws 3) u3, .str (ws 4) u4]) nw) ∈ rest) (hLv : (Lv, PySem.W.listOf (List.toArray [.int (vs 0) v0, .int (vs 1) v1, .int (vs 2) v2, .int (vs 3) v3, .int (vs 4) v4]) nv) ∈ rest)
    (hJ : (J, instObj 116 dj) ∈ rest) (hdj : (dj, dictOf (selD w tj D) 1) ∈ rest) (hD : (D, PySem.W.listOf (List.toArray [.ref T1, .ref T2]) nD) ∈ rest) (hT1 : (T1, tupO [.int i1 ta, .int w1 tb]) ∈ rest) (hT2 : (T2, tupO [.int i2 tc, .int w2 td]) ∈ rest)
    (hi : i1 = 0 ∧ i2 = 1 ∨ i1 = 1 ∧ i2 = 0) (hw1 : -1 ≤ w1 ∧ w1 ≤ 1) (hw2 : -1 ≤ w2 ∧ w2 ≤ 1)
    (inj : ∀ a b, a < 5 → b < 5 → ws a = ws b → a = b) (hre : ∀ i, i < 5 → reHit (ws i) ≤ 1 ∧ (ws i).length ≤ 1000 ∧ reachF (ws i) = hm i ∧ (hm i).length ≤ 1000) (hvs : ∀ i, i < 5 → -1 ≤ vs i ∧ vs i ≤ 1)
    (ret : ∀ bk ob3 kb3 ps3 R3 h' tk' gs' pv' n', AllBare gs' → (∀ p ∈ rest, p ∈ R3) → StrsAre pv' ((runR (gtR i1 w1 w2 hm vs) hm vs 4).1.map ws) → ob3.IsDictOf (PySem.strKind PySem.Challenge.rw_xo0026_01.row.prog w) kb3 → Book w R3 16 kb3 (runR (gtR i1 w1 w2 hm vs) hm vs 4).2 → TriplesOk ps3.toList →
      (∀ p ∈ R3, p.1 ≠ pb) → (∀ p ∈ R3, p.1 ≠ bk) → (∀ p ∈ R3, p.1 ≠ 129) → (bk == sysModules) = false →
      Fr h₀ L h' m → News h₀ L h' ((pb, PySem.W.listOf (List.toArray pv') n') :: (bk, ob3) :: (129, tabObj ps3) :: R3) → Q (.ref bk) { s with heap := h', toks := tk', gens := gs' }) :
    { P : Prop // Cut P → wpAny (model PySem.Challenge.rw_xo0026_01.row.prog w) (ktrTop dp un gd cn cs L a ccd cl outer) (call (.ref 243) [.ref x, .ref Lw, .ref Lv, .ref J]) Q E s } := by
  apply Subtype.mk
  intro hP
  refine lift h1 h2 ?_
  revert X; k_fill; intro X hP
  refine wpAny_call ?_
  k_with "my For" => k_extra "for name"
  k_with "my item" => k_extra "fn item"
  k_with "my set" => k_extra "dict set"
  k_with "my call" => first | k_extra "call reach" | k_extra "call qname" | k_extra "call push" | k_extra "call pop" | k_extra "call cmp"
  k_with "my getMethod" => k_extra "get method"
  k_with "my get" => k_extra "dict get2"
  k_with "my dict" => k_extra "dict of one"
  k_with "my row part" => k_extra "row part"
  k_with "my newTuple" => k_extra "new tuple"
  k_with "my dict item" => k_extra "row item"
  k_with "my pyIter" => first
    | k_dflt (refine' rows_loop (ws := ws) (vs := vs) (hm := hm) (GB := AllBare) ?zgb ?zhh ?zhx ?zhp ?zhr ?zF ?zN ?zhd ?zo1 ?zo2 ?zo3 ?zhre ?zturn ?zdone; (case' zgb => assumption); (case' zhh => exact rfl); (case' zhx => exact rfl); (case' zhp => exact rfl); (case' zhr => assumption); (case' zF => k_asm); (case' zN => exact bring2 (by k_asm)); (case' zhd => assumption); (case' zo1 => assumption); (case' zo2 => k_all); (case' zo3 => assumption); (case' zhre => assumption); (case' zturn => (intro i' t' hv' h' tk' gs' I' oI' Rf' pv' n' od' R' gb' hi' sub' hpv' hod' hrow' q1' q2' q3' q4' i1' i2' i3' hl' hk' g1' g2' g3' g4' F' N'; (try k_fold))); (case' zdone => (intro pl' hv' h' tk' gs' Rf1 pv' n' od' R1 gb' sub1 hpv' hod1 hrow1 q1' q3' q2' F' N'; (try k_fold))))
    | k_dflt (refine' turns_loop (gt := gtR i1 w1 w2 hm vs) (hm := hm) (vs := vs) ?ygb ?yhh ?yhx ?yhp ?yhr ?yF ?yN ?yhpv ?yhob ?yhtr ?yo1 ?yo2 ?yo3 ?yturn ?ydone; (case' ygb => assumption); (case' yhh => exact rfl); (case' yhx => exact rfl); (case' yhp => exact rfl); (case' yhr => assumption); (case' yF => k_asm); (case' yN => exact run_order (by k_asm)); (case' yhpv => assumption); (case' yhob => assumption); (case' yhtr => assumption); (case' yo1 => k_all); (case' yo2 => k_all); (case' yo3 => k_all); (case' yturn => (intro k' i' lr' t' ti' sv' hd' wv' gv' rv' hv' h' tk' gs' I2 oI2 pv' n' ob2 kb2 ps2 R2 bs2 gb' hk2 he2 hi2 hl2 hj2 sub2 hpv2 hl2' hob2 hB2 hkb2 htr2 q1' q2' q3' q4' i1' i2' i3' F' N'; (try k_fold))); (case' ydone => (intro tv' sv' hd' wv' gv' rv' hv' h' tk' gs' pv' n' ob3 kb3 ps3 R3 gb' sub3 hpv3 hob3 hB3 htr3 q1' q2' q3' F' N'; (try k_fold))))
    | k_dflt (refine' steps_loop (e0 := (I2, oI2)) (gt := gtR i1 w1 w2 hm vs) (hm := hm) (vs := vs) (bs0 := bs2) (i0 := i') (line := lr') (b := 4 * k') (turn := 1 + (k' : Int)) ?xgb ?xhh ?xhx ?xhp ?xhr ?xF ?xN ?xheld ?xsub ?xhpv ?xhob ?xhB ?xhkb ?xhb ?xhtr ?xo1 ?xo2 ?xo3 ?xo4 ?xl1 ?xl2 ?xl3 ?xturn ?xdone; (case' xgb => assumption); (case' xhh => exact rfl); (case' xhx => exact rfl); (case' xhp => exact rfl); (case' xhr => assumption); (case' xF => k_asm); (case' xN => exact steps_order (by k_asm)); (case' xheld => first | exact rfl | simp); (case' xsub => assumption); (case' xhpv => assumption); (case' xhob => assumption); (case' xhB => assumption); (case' xhkb => assumption); (case' xhb => omega); (case' xhtr => assumption); (case' xo1 => assumption); (case' xo2 => assumption); (case' xo3 => assumption); (case' xo4 => assumption); (case' xl1 => assumption); (case' xl2 => assumption); (case' xl3 => assumption); (case' xturn => ((try revert B'w914); (repeat (rename_i x9; revert x9)); (try revert tk); (try revert i'); (try revert t'); (try revert hv'); (try revert h'); (try revert tk'); (try revert gs'); (try revert I'); (try revert oI'); (try revert Rf'); (try revert pv'); (try revert n'); (try revert od'); (try revert R'); (try revert gb'); (try revert pl'); (try revert Rf1); (try revert od1); (try revert R1); (try revert k'); (try revert lr'); (try revert ti'); (try revert sv'); (try revert hd'); (try revert wv'); (try revert gv'); (try revert rv'); (try revert I2); (try revert oI2); (try revert ob2); (try revert kb2); (try revert ps2); (try revert R2); (try revert bs2); (try revert sub1); (try revert hpv'); (try revert hod1); (try revert hrow1); (try revert q1'); (try revert q2'); (try revert q3'); (try revert q4'); (try revert hk2); (try revert he2); (try revert hi2); (try revert hl2); (try revert hj2); (try revert sub2); (try revert hpv2); (try revert hl2'); (try revert hob2); (try revert hB2); (try revert hkb2); (try revert htr2); (try revert i1'); (try revert i2'); (try revert i3'); (try revert F'); (try revert N'); exact hP.out)); (case' xdone => (intro sv4 th4 wv4 gv4 rv4 hv4 h4 tk4 gs4 pv4 n4 ob4 kb4 ps4 R4 gb4 sub4 hpv4 hl4 hob4 hB4 hkb4 htr4 p1 p2 p3 p4 F' N'; (try k_fold))))
  k_extra "my_enter"
  k_steps
  · exact ret _ _ _ _ _ _ _ _ _ _ gb' (fun p hp => sub3 p (.tail _ (sub1 p hp))) hpv3 hob3 hB3 htr3 q1' q2' q3' ‹_› ‹_› ‹_›
  · exact out_next gb4 ‹_› (out_order ‹_›) he2 (fun y h0 h1 h2 h3 h4 h5 h6 => by simp only [if_neg h0, if_neg h1, if_neg h2, if_neg h3, if_neg h4, if_neg h5, if_neg h6]) ‹_› hpv4 hob4 hB4 hkb4 htr4 p1 p2 p3 p4 i1' i2' i3'
  · rename (@LT.lt Nat _ I' _ ∧ @LT.lt Nat _ pb _ ∧ _ ∧ _ ∧ AllLt _ R') => l8
    rename (_ ∧ _ ∧ _ ∧ _ ∧ _ ∧ _ ∧ AllLt _ R') => l9
    exact rows_next gb' ‹_› ‹_› hi' inj sub' hpv' ‹_› hrow' (fun y h1 h2 => by simp only [if_neg h1, if_neg h2]) (List.forall_mem_cons.mpr ⟨l8.1, List.forall_mem_cons.mpr ⟨l8.2.1, List.forall_mem_cons.mpr ⟨l8.2.2.1, List.forall_mem_cons.mpr ⟨l8.2.2.2.1, ktn_ltOf l8.2.2.2.2⟩⟩⟩⟩) ‹_› l9.1 q1' q2' q3' q4' i1' i2' i3'
end
end
theorem off_plain1_0 : True := by
  w_top off
  k_with_none
  k_with "subl" => ((repeat' (first | refine List.forall_mem_cons.mpr ⟨by (repeat (first | exact List.Mem.head _ | refine List.Mem.tail _ ?_ | refine List.mem_append_right _ ?_)), ?_⟩ | refine List.forall_mem_append.mpr ⟨?_, ?_⟩)); all_goals (intro _ hpw219; (repeat (first | exact hpw219 | refine List.Mem.tail _ ?_ | exact List.mem_append_left _ hpw219 | refine List.mem_append_right _ ?_))))
  k_with "pk" => (with_reducible first | exact pk1 ‹_› | exact pk2 ‹_› | exact pk3 ‹_› | exact pk4 ‹_› | exact pk5 ‹_› | exact pk6 ‹_› | exact pk7 ‹_› | exact pk8 ‹_› | exact pk9 ‹_› | exact pk10 ‹_› | exact pk11 ‹_› | exact pk12 ‹_› | exact pk13 ‹_› | exact pk14 ‹_› | exact pl2 ‹_› | exact pl3 ‹_› | exact pl4 ‹_› | exact pl5 ‹_› | exact pl6 ‹_› | exact pl7 ‹_›)
  k_with "suc" => (with_reducible first | exact lts1 | exact lts2 | exact lts3 | exact lts4 | exact lts5 | exact lts6 | exact lts7)
  k_with "hop" => (with_reducible first | exact ‹_› | k_extra "pk" | (refine Nat.lt_trans ?_ (by first | assumption | k_extra "pk"); k_extra "hop"))
  k_with "om" => (first | (with_reducible first | ((show @Ne Nat _ _); (try dsimp only); first | exact ‹_› | exact Ne.symm ‹_› | exact Nat.ne_of_lt (by k_extra "suc") | exact Nat.ne_of_gt (by k_extra "suc") | ((fail_if_success (fail_if_success refine cj2 ‹_› ?_)); exact Nat.ne_of_gt (by k_extra "pk")) | ((fail_if_success (fail_if_success refine cj1 ‹_› ?_)); exact Nat.ne_of_lt (by k_extra "pk")) | ((fail_if_success (fail_if_success refine cj3 ‹_› ?_)); k_extra "pk") | ((fail_if_success (fail_if_success refine cj4 ‹_› ?_)); k_extra "pk") | ((fail_if_success (fail_if_success refine cj5 ‹_› ?_)); exact Ne.symm (by k_extra "pk")) | ((fail_if_success (fail_if_success refine cj6 ‹_› ?_)); exact Ne.symm (by k_extra "pk")) | exact Nat.ne_of_gt ‹_› | exact Nat.ne_of_lt ‹_›) | ((show _ ∨ _); first | exact lt5_cases ‹_› | exact i5_cases ‹_› ‹_› | exact i3_cases ‹_› ‹_›) | ((show @LT.lt Nat _ _ _); first | exact ‹_› | exact sub_step ‹_› | exact sub_step1 ‹_› | k_extra "suc" | ((fail_if_success (fail_if_success refine cj7 ‹_› ?_)); k_extra "pk")) | ((show @LE.le Nat _ _ _); (try dsimp only); first | exact (by decide) | exact Nat.le_of_lt ‹_› | exact Nat.le_of_lt (by k_extra "suc") | (refine Nat.le_trans ‹_› ?_; decide) | (refine Nat.le_trans (Nat.le_of_eq (Eq.symm ‹_›)) (Nat.le_trans ‹_› ?_); decide) | exact le_s1 (by k_extra "pk") | exact len2a ‹_› ‹_› | exact len2b ‹_› ‹_›) | ((show @LE.le Int _ _ _); exact neg5) | ((show @LT.lt Int _ _ _); exact Int.ofNat_lt.mpr ‹_›)) | lia)
  trivial
noncomputable abbrev Ev := Nat × Nat × Nat
noncomputable def stepE (gt : Nat → Nat → Bool) (turn : Nat) (σ : Nat × List Nat × List Ev) : Nat × List Nat × List Ev := match σ.2.1 with
  | [] => σ
  | j :: r => if gt σ.1 j then (σ.1, r ++ [j], σ.2.2 ++ [(σ.1, j, turn)]) else (j, r ++ [σ.1], σ.2.2)
noncomputable def stepsE (gt : Nat → Nat → Bool) (turn : Nat) (σ : Nat × List Nat × List Ev) : Nat → Nat × List Nat × List Ev
  | 0 => σ
  | k + 1 => stepE gt turn (stepsE gt turn σ k)
noncomputable def turnE (gt : Nat → Nat → Bool) (turn : Nat) (τ : List Nat × List Ev) : List Nat × List Ev := match τ.1 with
  | [] => τ
  | i :: r => ((stepsE gt turn (i, r, τ.2) 4).2.1 ++ [(stepsE gt turn (i, r, τ.2) 4).1], (stepsE gt turn (i, r, τ.2) 4).2.2)
noncomputable def runE (gt : Nat → Nat → Bool) : Nat → List Nat × List Ev
  | 0 => ([0, 1, 2, 3, 4], [])
  | k + 1 => turnE gt (1 + k) (runE gt k)
noncomputable def tell (hm : Nat → Str) (vs : Nat → Int) (bs : List (Str × Entry)) (e : Ev) : List (Str × Entry) := bump bs (hm e.2.1) (if (e.2.2 : Int) = 1 then 1 else 0) (e.2.2 : Int) (vs e.1 - vs e.2.1) (hm e.1)
section
variable {gt g2 : Nat → Nat → Bool} {hm : Nat → Str} {vs : Nat → Int}
theorem stepsE_ok {turn : Nat} {σ : Nat × List Nat × List Ev} (h1 : σ.1 < 5) (h3 : ∀ j ∈ σ.2.1, j < 5) : ∀ k, (stepsE gt turn σ k).1 < 5 ∧ ∀ j ∈ (stepsE gt turn σ k).2.1, j < 5
  | 0 => ⟨h1, h3⟩
  | k + 1 => by
    obtain ⟨a, c⟩ := stepsE_ok (turn := turn) h1 h3 k
    show (stepE gt turn (stepsE gt turn σ k)).1 < 5 ∧ ∀ j ∈ (stepE gt turn (stepsE gt turn σ k)).2.1, j < 5
    generalize stepsE gt turn σ k = τ at a c
    obtain ⟨i, line, bs⟩ := τ
    match line, c with
    | [], c => exact ⟨a, c⟩
    | j :: r, c =>
      have hj := c j (.head _)
      have hr : ∀ k ∈ r, k < 5 := fun k hk => c k (.tail _ hk)
      unfold stepE
      dsimp only
      split
      · refine ⟨a, fun k hk => ?_⟩
        rcases List.mem_append.mp hk with hk | hk
        · exact hr k hk
        · rw [List.mem_singleton.mp hk]; exact hj
      · refine ⟨hj, fun k hk => ?_⟩
        rcases List.mem_append.mp hk with hk | hk
        · exact hr k hk
        · rw [List.mem_singleton.mp hk]; exact a
theorem runE_ok : ∀ k, ∀ j ∈ (runE gt k).1, j < 5
  | 0 => by intro j hj; simp only [runE, List.mem_cons, List.not_mem_nil, or_false] at hj; omega
  | k + 1 => by
    have b := runE_ok k
    unfold runE turnE
    generalize runE gt k = τ at b
    obtain ⟨line, bs⟩ := τ
    match line, b with
    | [], b => exact b
    | i :: r, b =>
      obtain ⟨c, e⟩ := stepsE_ok (gt := gt) (turn := 1 + k) (σ := (i, r, bs)) (b i (.head _)) (fun j hj => b j (.tail _ hj)) 4
      intro j hj
      rcases List.mem_append.mp hj with hj | hj
      · exact e j hj
      · rw [List.mem_singleton.mp hj]; exact c
theorem stepsE_congr (h : ∀ i j, i < 5 → j < 5 → gt i j = g2 i j) {turn : Nat} {σ : Nat × List Nat × List Ev} (h1 : σ.1 < 5) (h3 : ∀ j ∈ σ.2.1, j < 5) : ∀ k, stepsE gt turn σ k = stepsE g2 turn σ k
  | 0 => rfl
  | k + 1 => by
    show stepE gt turn (stepsE gt turn σ k) = stepE g2 turn (stepsE g2 turn σ k)
    rw [← stepsE_congr h h1 h3 k]
    obtain ⟨a, c⟩ := stepsE_ok (gt := gt) (turn := turn) h1 h3 k
    generalize stepsE gt turn σ k = τ at a c
    obtain ⟨i, line, bs⟩ := τ
    match line, c with
    | [], c => rfl
    | j :: r, c => unfold stepE; dsimp only; rw [h i j a (c j (.head _))]
theorem runE_congr (h : ∀ i j, i < 5 → j < 5 → gt i j = g2 i j) : ∀ k, runE gt k = runE g2 k
  | 0 => rfl
  | k + 1 => by
    show turnE gt (1 + k) (runE gt k) = turnE g2 (1 + k) (runE g2 k)
    rw [← runE_congr h k]
    have b := runE_ok (gt := gt) k
    generalize runE gt k = τ at b
    obtain ⟨line, bs⟩ := τ
    match line, b with
    | [], b => rfl
    | i :: r, b => unfold turnE; dsimp only; rw [stepsE_congr h (σ := (i, r, bs)) (b i (.head _)) (fun j hj => b j (.tail _ hj)) 4]
theorem stepsR_tell {turn : Nat} {i : Nat} {line : List Nat} {evs : List Ev} : ∀ k, stepsR gt hm vs (turn : Int) (i, line, evs.foldl (tell hm vs) []) k = ((stepsE gt turn (i, line, evs) k).1, (stepsE gt turn (i, line, evs) k).2.1, (stepsE gt turn (i, line, evs) k).2.2.foldl (tell hm vs) [])
  | 0 => rfl
  | k + 1 => by
    show stepR gt hm vs (turn : Int) (stepsR gt hm vs (turn : Int) (i, line, evs.foldl (tell hm vs) []) k) = ((stepE gt turn (stepsE gt turn (i, line, evs) k)).1, (stepE gt turn (stepsE gt turn (i, line, evs) k)).2.1, (stepE gt turn (stepsE gt turn (i, line, evs) k)).2.2.foldl (tell hm vs) [])
    rw [stepsR_tell k]
    generalize stepsE gt turn (i, line, evs) k = τ
    obtain ⟨i, lin, es⟩ := τ
    match lin with
    | [] => rfl
    | j :: r =>
      unfold stepR stepE
      dsimp only
      split
      · rw [List.foldl_append]; rfl
      · rfl
theorem runR_tell : ∀ k, runR gt hm vs k = ((runE gt k).1, (runE gt k).2.foldl (tell hm vs) [])
  | 0 => rfl
  | k + 1 => by
    show turnR gt hm vs (1 + (k : Int)) (runR gt hm vs k) = ((turnE gt (1 + k) (runE gt k)).1, (turnE gt (1 + k) (runE gt k)).2.foldl (tell hm vs) [])
    rw [runR_tell k, show 1 + (k : Int) = ((1 + k : Nat) : Int) by omega]
    generalize runE gt k = τ
    obtain ⟨lin, es⟩ := τ
    match lin with
    | [] => rfl
    | i :: r =>
      unfold turnR turnE
      dsimp only
      rw [stepsR_tell]
end
noncomputable def stepsC (gt : Nat → Nat → Bool) (turn : Nat) : Nat → Nat → List Nat → List Ev → (Nat → List Nat → List Ev → Bool) → Bool
  | 0, i, line, er, κ => κ i line er
  | _ + 1, i, [], er, κ => κ i [] er
  | k + 1, i, j :: r, er, κ => bif gt i j then stepsC gt turn k i (r ++ [j]) ((i, j, turn) :: er) κ else stepsC gt turn k j (r ++ [i]) er κ
noncomputable def turnC (gt : Nat → Nat → Bool) (turn : Nat) (line : List Nat) (er : List Ev) (κ : List Nat → List Ev → Bool) : Bool := match line with
  | [] => κ [] er
  | i :: r => stepsC gt turn 4 i r er fun i' l' er' => κ (l' ++ [i']) er'
theorem stepsE_first {gt : Nat → Nat → Bool} {turn : Nat} {σ : Nat × List Nat × List Ev} : ∀ k, stepsE gt turn σ (k + 1) = stepsE gt turn (stepE gt turn σ) k
  | 0 => rfl
  | k + 1 => by
    show stepE gt turn (stepsE gt turn σ (k + 1)) = stepE gt turn (stepsE gt turn (stepE gt turn σ) k)
    rw [stepsE_first k]
theorem stepsE_nil {gt : Nat → Nat → Bool} {turn i : Nat} {evs : List Ev} : ∀ k, stepsE gt turn (i, [], evs) k = (i, [], evs)
  | 0 => rfl
  | k + 1 => by
    show stepE gt turn (stepsE gt turn (i, [], evs) k) = _
    rw [stepsE_nil k]; rfl
theorem stepsC_eq {gt : Nat → Nat → Bool} {turn : Nat} {κ : Nat → List Nat → List Ev → Bool} : ∀ k i line er, stepsC gt turn k i line er κ = κ (stepsE gt turn (i, line, er.reverse) k).1 (stepsE gt turn (i, line, er.reverse) k).2.1 (stepsE gt turn (i, line, er.reverse) k).2.2.reverse
  | 0, i, line, er => by simp [stepsC, stepsE]
  | k + 1, i, [], er => by rw [stepsE_nil]; simp [stepsC]
  | k + 1, i, j :: r, er => by
    rw [stepsE_first]
    unfold stepsC stepE
    dsimp only
    cases gt i j
    · rw [if_neg (by decide), cond_false, stepsC_eq k]
    · rw [if_pos rfl, cond_true, stepsC_eq k, List.reverse_cons]
theorem turnC_eq {gt : Nat → Nat → Bool} {turn : Nat} {κ : List Nat → List Ev → Bool} {line : List Nat} {er : List Ev} : turnC gt turn line er κ = κ (turnE gt turn (line, er.reverse)).1 (turnE gt turn (line, er.reverse)).2.reverse := by
  unfold turnC turnE
  cases line with
  | nil => simp
  | cons i r => dsimp only; rw [stepsC_eq]
noncomputable def runC (gt : Nat → Nat → Bool) (κ : List Nat → List Ev → Bool) : Bool :=
  turnC gt 1 [0, 1, 2, 3, 4] [] fun l1 e1 => turnC gt 2 l1 e1 fun l2 e2 => turnC gt 3 l2 e2 fun l3 e3 => turnC gt 4 l3 e3 κ
theorem runC_eq {gt : Nat → Nat → Bool} {κ : List Nat → List Ev → Bool} : runC gt κ = κ (runE gt 4).1 (runE gt 4).2.reverse := by
  unfold runC
  simp only [turnC_eq, List.reverse_reverse]
  rfl
noncomputable def invs (gt : Nat → Nat → Bool) : List (Nat × Nat) := (List.range 5).flatMap fun j => (List.range j).filterMap fun i => if gt i j then some (i, j) else none
noncomputable def meet (gt : Nat → Nat → Bool) (i j : Nat) : Nat := 1 + ((List.range j).filter fun z => gt z i || (!gt z i && !gt i z && decide (z > i))).length
noncomputable def packE (e : Ev) : Nat := e.1 + 8 * e.2.1 + 64 * e.2.2
noncomputable def putIn (gt : Nat → Nat → Bool) (x : Nat) : List Nat → List Nat
  | [] => [x]
  | y :: r => if gt y x then x :: y :: r else y :: putIn gt x r
noncomputable def chkG (gt : Nat → Nat → Bool) (line : List Nat) (er : List Ev) : Bool :=
  List.isPerm (er.map packE) ((invs gt).map fun p => packE (p.1, p.2, meet gt p.1 p.2)) &&
  (List.isPerm ((er.filter fun e => e.2.2 == 1).map fun e => e.2.1) ((List.range 5).filter fun j => (List.range j).any fun i => gt i j) &&
  (line == (List.range 5).foldl (fun l x => putIn gt x l) []))
noncomputable def chk (r : Nat → Nat) : Bool := runC (fun i j => Nat.blt (r j) (r i)) (chkG fun i j => Nat.blt (r j) (r i))
noncomputable def pick (a b c d e : Nat) : Nat → Nat
  | 0 => a | 1 => b | 2 => c | 3 => d | _ => e
noncomputable def chk5 (a b c d : Nat) : Bool := chk (pick a b c d 0) && (chk (pick a b c d 1) && (chk (pick a b c d 2) && (chk (pick a b c d 3) && chk (pick a b c d 4))))
set_option maxRecDepth 100000 in
theorem chk_all : ((List.range 5).all fun a => (List.range 5).all fun b => (List.range 5).all fun c => (List.range 5).all fun d => chk5 a b c d) = true := all5 (by decide +kernel) (by decide +kernel) (by decide +kernel) (by decide +kernel) (by decide +kernel)
section
local macro_rules | `(tactic| k_mem) => `(tactic| (k_extra "in run"; done))
theorem bring9 {h₀ h : Heap} {L : Addr} {e1 e2 e3 e4 e5 e6 e7 e8 e9 : Addr × Obj} {r : List (Addr × Obj)} (N : News h₀ L h (e1 :: e2 :: e3 :: e4 :: e5 :: e6 :: e7 :: e8 :: e9 :: r)) : News h₀ L h (e9 :: e1 :: e2 :: e3 :: e4 :: e5 :: e6 :: e7 :: e8 :: r) := fun p hp => N p (by revert p; k_extra "subl")
theorem stats_sub {e1 e2 e3 e4 e5 e6 e7 e8 e9 : Addr × Obj} {r : List (Addr × Obj)} : ∀ p ∈ e4 :: r, p ∈ e1 :: e2 :: e3 :: e4 :: e5 :: e6 :: e7 :: e8 :: e9 :: r := by k_extra "subl"
theorem le_up {a b c : Nat} (h : a ≤ b + 1) (k : b ≤ c) : a ≤ c.succ := Nat.le_trans h (Nat.succ_le_succ k)
theorem le_up0 {a c : Nat} (h : a ≤ 0 + 1) : a ≤ c.succ := Nat.le_trans h (Nat.succ_le_succ (Nat.zero_le c))
theorem le_th {n k j : Nat} (h : n ≤ 4 * k + j) (hj : j < 4) (e : 1 + (k : Int) = 1) : n ≤ 1000 := by omega
theorem le_th' {n k j : Nat} (h : n ≤ 4 * k + j) (hj : j < 4) (hk : k < 4) : n ≤ 1000 := by omega
section
variable {mg mb : Str → Option Value} {mean : ExcName → Option Value} {loose : List Str} {dp un : Nat} {gd : Option (List Code)} {cn : Str} {cs : Scope} {a : Addr} {ccd : Value} {cl : List (Str × Addr)} {outer : List Env} {A₀ : Around} {base h₀ : Heap} {L : Addr} {m : Str → Option Value} {s : Shared} {Q E : Value → Shared → Prop}
theorem off_run2_1 : True := by
  w_top off
  k_with_none
  k_with "subl" => ((repeat' (first | refine List.forall_mem_cons.mpr ⟨by (repeat (first | exact List.Mem.head _ | refine List.Mem.tail _ ?_ | refine List.mem_append_right _ ?_)), ?_⟩ | refine List.forall_mem_append.mpr ⟨?_, ?_⟩)); all_goals (intro _ hpw219; (repeat (first | exact hpw219 | refine List.Mem.tail _ ?_ | exact List.mem_append_left _ hpw219 | refine List.mem_append_right _ ?_))))
  k_with "pk" => (with_reducible first | exact pk1 ‹_› | exact pk2 ‹_› | exact pk3 ‹_› | exact pk4 ‹_› | exact pk5 ‹_› | exact pk6 ‹_› | exact pk7 ‹_› | exact pk8 ‹_› | exact pk9 ‹_› | exact pk10 ‹_› | exact pk11 ‹_› | exact pk12 ‹_› | exact pk13 ‹_› | exact pk14 ‹_› | exact pl2 ‹_› | exact pl3 ‹_› | exact pl4 ‹_› | exact pl5 ‹_› | exact pl6 ‹_› | exact pl7 ‹_›)
  k_with "suc" => (with_reducible first | exact lts1 | exact lts2 | exact lts3 | exact lts4 | exact lts5 | exact lts6 | exact lts7)
  k_with "hop" => (with_reducible first | exact ‹_› | k_extra "pk" | (refine Nat.lt_trans ?_ (by first | assumption | k_extra "pk"); k_extra "hop"))
  k_with "om" => (first | (with_reducible first | ((show @Ne Nat _ _); (try dsimp only); first | exact ‹_› | exact Ne.symm ‹_› | exact Nat.ne_of_lt (by k_extra "suc") | exact Nat.ne_of_gt (by k_extra "suc") | ((fail_if_success (fail_if_success refine cj2 ‹_› ?_)); exact Nat.ne_of_gt (by k_extra "pk")) | ((fail_if_success (fail_if_success refine cj1 ‹_› ?_)); exact Nat.ne_of_lt (by k_extra "pk")) | ((fail_if_success (fail_if_success refine cj3 ‹_› ?_)); k_extra "pk") | ((fail_if_success (fail_if_success refine cj4 ‹_› ?_)); k_extra "pk") | ((fail_if_success (fail_if_success refine cj5 ‹_› ?_)); exact Ne.symm (by k_extra "pk")) | ((fail_if_success (fail_if_success refine cj6 ‹_› ?_)); exact Ne.symm (by k_extra "pk")) | exact Nat.ne_of_gt ‹_› | exact Nat.ne_of_lt ‹_›) | ((show _ ∨ _); first | exact lt5_cases ‹_› | exact i5_cases ‹_› ‹_› | exact i3_cases ‹_› ‹_›) | ((show @LT.lt Nat _ _ _); first | exact ‹_› | exact sub_step ‹_› | exact sub_step1 ‹_› | k_extra "suc" | ((fail_if_success (fail_if_success refine cj7 ‹_› ?_)); k_extra "pk")) | ((show @LE.le Nat _ _ _); (try dsimp only); first | exact (by decide) | exact Nat.le_of_lt ‹_› | exact Nat.le_of_lt (by k_extra "suc") | (refine Nat.le_trans ‹_› ?_; decide) | (refine Nat.le_trans (Nat.le_of_eq (Eq.symm ‹_›)) (Nat.le_trans ‹_› ?_); decide) | exact le_s1 (by k_extra "pk") | exact len2a ‹_› ‹_› | exact len2b ‹_› ‹_›) | ((show @LE.le Int _ _ _); exact neg5) | ((show @LT.lt Int _ _ _); exact Int.ofNat_lt.mpr ‹_›)))
  k_with "my_unrolled" => (k_dflt (first | (refine LCg.CompSrc.ledger (by rfl) (by k_asm) (by k_asm) (by k_mem) (by first | size_fits | exact Nat.le_of_ble_eq_true rfl) ?_; intro _; lcg_lit) | (refine LCg.CompSrc.base (by rfl) (by k_asm) (by k_asm) ‹_› (by first | size_fits | exact Nat.le_of_ble_eq_true rfl) ?_; intro _; lcg_lit) | (refine LCg.CompSrc.range (by rfl) (by k_asm) (by k_asm) ‹_› (by first | decide | rfl) (by first | rfl | decide) (by first | size_fits | exact Nat.le_of_ble_eq_true rfl) ?_; intro _; lcg_lit)))
  k_with "my_comp" => k_dflt (refine LCg.ListComp_U (F₀ := by k_asm) (by with_unfolding_all rfl) (by decide) (by rfl) (by decide) (by rfl) ?_)
  k_with "my_compA" => k_dflt (refine LCg.Assign_ListComp_U (F₀ := by k_asm) (by rfl) (by with_unfolding_all rfl) (by with_unfolding_all rfl) (by decide) (by rfl) (by decide) (by rfl) (by rfl) (by rfl) ?_)
  k_with "CompRest" => (with_unfolding_all first | (refine LCg.CompRest.succ ?_; intro _ _ _ _ _ _ _ _ _ _ hv'w186 _ hx'w186 _ _ off'w186 _; (first | lcg_open hv'w186 | (obtain ⟨_, hv9'w186⟩ := hv'w186; subst hv9'w186; (try simp only [Int.zero_add, Int.natCast_zero, Int.natCast_one, Int.reduceAdd, Nat.reduceAdd, Int.cast_ofNat_Int] at hx'w186))); (try simp only [LCg.Off3, and_true] at off'w186)) | refine LCg.CompRest.zero ?_)
  k_with "eval ListComp" => (k_here; k_extra "my_comp")
  k_with "exec Assign cons ListComp" => (k_here; k_extra "my_compA")
  k_with "call ref" => k_extra "my call"
  k_with "getMethod ref" => k_extra "my getMethod"
  k_with "subscriptTail Name Name ref int" => k_extra "my item"
  k_with "binaryOp Add str str" => (k_here; (with_reducible show wpAny _ _ (binaryOp Operator.Add (Value.str _ _) (Value.str _ _)) _ _ _); (refine add_short (by with_reducible assumption) (by with_reducible assumption) ?_); intro _ _ _)
  k_with "binaryOp Add str str" => (k_here; (with_reducible show wpAny _ _ (binaryOp Operator.Add (Value.str _ _) (Value.str _ _)) _ _ _); (refine add_short (by first | with_reducible assumption | exact quote_short) (by first | with_reducible assumption | exact quote_short) ?_); intro _ _ _)
  k_with "call type:str" => (k_here; (with_reducible show wpAny _ _ (call (Value.type "str") [Value.int _ _]) _ _ _); (refine str_digit ‹_› ‹_› ?_); intro _ _ _)
  k_with "lex white" => (k_here; k_dflt (refine lex_white ‹_› ?_; intro _))
  k_with "FnAt" => k_dflt (exact FnAt.of (by k_asm) (by k_mem))
  k_with "TurnJ" => k_dflt (refine TurnJ.ret ?_; (try dsimp only))
  k_with "setItem ref str" => k_extra "my set"
  k_with "in run" => (repeat (first | with_reducible assumption | exact List.Mem.head _ | refine List.Mem.tail _ ?_ | assumption | exact sub_mem (by with_reducible assumption) (by with_reducible assumption) | refine sub_mem (by with_reducible assumption) ?_))
  k_with "run mem" => (k_extra "in run"; done)
  k_with "TurnG" => k_dflt (refine TurnG.ret ?_; (try dsimp only))
  k_with "dict set" => (k_here; k_dflt (refine' kda_set (knd := PySem.strKind _ _) ?Fw365 ?Nw365 ?Uw365 ?dw365 (strKind_is _ _ _ _) ?zw365 ?_; (case Fw365 => k_asm); (case Nw365 => k_asm); (case Uw365 => k_updF); (case dw365 => assumption); (case zw365 => first | exact take_size ‹_› | exact dict_size ‹_›); intro _ _ _ N'w365 _; (try dsimp only at N'w365)))
  k_with "subscriptTail Name Name ref str" => k_extra "my dict item"
  k_with "fn item" => (k_here; (with_reducible show wpAny _ _ (subscriptTail _ _ (Value.ref _) (Value.int (Nat.cast _) _)) _ _ _); k_dflt (first | (refine' item_fnS ?zlw125 ?ziw125 ?_ ?zsw125; (case zlw125 => exact News.isList (by k_asm) (by k_extra "in run")); (case ziw125 => assumption); (case zsw125 => with_unfolding_all rfl); intro _) | (refine' item_fnI ?zlw125 ?ziw125 ?_ ?zsw125; (case zlw125 => exact News.isList (by k_asm) (by k_extra "in run")); (case ziw125 => assumption); (case zsw125 => with_unfolding_all rfl); intro _)))
  k_with "call push" => (k_here; k_dflt (refine' c_push ?Bw230 ?Fw230 ?Xw230 ?Nw230 ?Tw230 ?hkw230 ?h1w230 ?h2w230 ?hxw230 ?hdxw230 ?offw230 ?hvw230 ?_; (case Bw230 => k_asm); (case Fw230 => k_asm); (case Xw230 => k_asm); (case Nw230 => first | k_asm | exact bring2 (by k_asm) | exact bring3 (by k_asm) | exact bring4 (by k_asm) | exact bring5 (by k_asm)); (case Tw230 => k_asm); (case hkw230 => exact rfl); (case h1w230 => exact Nat.le_of_ble_eq_true rfl); (case h2w230 => exact Nat.le_of_ble_eq_true rfl); (case hxw230 => k_extra "in run"); (case hdxw230 => k_extra "in run"); (case offw230 => k_all); (case hvw230 => omega); ((k_whole; intro _ _ _ _ _; (try k_sweep)))))
  k_with "get method" => (k_here; (with_reducible show wpAny _ _ (getMethod (Value.ref _) (Str.ofString "get") _) _ _ _); k_dflt (refine' get_method ?zNw865 ?zpw865 ?zdw865 ?_; (case zNw865 => k_asm); (case zpw865 => k_extra "in run"); (case zdw865 => assumption)))
  k_with "call builtin:dict.get" => k_extra "my get"
  k_with "dict get2" => (k_here; k_dflt (refine' dict_get ?zNw646 ?zpw646 ?zdw646 ?zlow646 ?_ ?_; (case zNw646 => k_asm); (case zpw646 => k_extra "in run"); (case zdw646 => assumption); (case zlow646 => assumption); ((intro _ hv'w646; (obtain ⟨_, _, _, _, _, _, _, _, _, _, _, _, _, ev8'w646, _, _, _, _, _, _, mk8'w646⟩ := Book.at ‹_› hv'w646 (dict_nodup ‹_›)); subst ev8'w646; (have mk9'w646 := (show MkBook _ _ _ _ _ _ _ _ _ _ _ from mk8'w646)); clear mk8'w646; (try k_fold))); rotate_left; ((intro hv'w646; (have mk9'w646 := MkBook.none ‹_› hv'w646); (try k_fold)))))
  k_with "row item" => (k_here; k_dflt (refine' kda_item (knd := PySem.strKind _ _) ?zNw711 ?zpw711 ?zdw711 (strKind_is _ _ _ _) ?zlw711 ?_ ?zsw711 ?zgw711; (case zNw711 => k_asm); (case zpw711 => k_extra "in run"); (case zdw711 => assumption); (case zlw711 => exact rowsK_at ‹_› (Nat.le_refl 5) ‹_›); (case zsw711 => with_unfolding_all rfl); (case zgw711 => (intro _; with_unfolding_all rfl))))
  k_with "call pop" => (k_here; k_dflt (refine' c_pop ?Bw159 ?Fw159 ?Xw159 ?Nw159 ?Tw159 ?hkw159 ?h1w159 ?h2w159 ?hxw159 ?hdxw159 ?offw159 ?hvw159 ?_; (case Bw159 => k_asm); (case Fw159 => k_asm); (case Xw159 => k_asm); (case Nw159 => first | k_asm | exact bring2 (by k_asm) | exact bring3 (by k_asm) | exact bring4 (by k_asm) | exact bring5 (by k_asm)); (case Tw159 => k_asm); (case hkw159 => exact rfl); (case h1w159 => exact Nat.le_of_ble_eq_true rfl); (case h2w159 => exact Nat.le_of_ble_eq_true rfl); (case hxw159 => k_extra "in run"); (case hdxw159 => k_extra "in run"); (case offw159 => k_all); (case hvw159 => omega); ((k_whole; intro _ _ _ _ _; (try k_sweep)))))
  k_with "call cmp" => (k_here; k_dflt (refine' c_cmp ?Bw772 ?Fw772 ?Xw772 ?Nw772 ?Tw772 ?hkw772 ?h1w772 ?h2w772 ?hJw772 ?hdjw772 ?hDw772 ?hT1w772 ?hT2w772 ?hiw772 ?hR1w772 ?hR2w772 ?hz1w772 ?hz2w772 ?hv1w772 ?hv2w772 ?hw1w772 ?hw2w772 ?_; (case Bw772 => k_asm); (case Fw772 => k_asm); (case Xw772 => k_asm); (case Nw772 => k_asm); (case Tw772 => k_asm); (case hkw772 => exact rfl); (case h1w772 => exact Nat.le_of_ble_eq_true rfl); (case h2w772 => exact Nat.le_of_ble_eq_true rfl); (case hJw772 => k_extra "in run"); (case hdjw772 => k_extra "in run"); (case hDw772 => k_extra "in run"); (case hT1w772 => k_extra "in run"); (case hT2w772 => k_extra "in run"); (case hiw772 => assumption); (case hR1w772 => exact row_in ‹_› ‹_› (by intro _ hpw772; (repeat (refine List.Mem.tail _ ?_)); (refine sub_mem (by with_reducible assumption) ?_; exact List.Mem.tail _ hpw772))); (case hR2w772 => exact row_in ‹_› ‹_› (by intro _ hpw772; (repeat (refine List.Mem.tail _ ?_)); (refine sub_mem (by with_reducible assumption) ?_; exact List.Mem.tail _ hpw772))); (case hz1w772 => exact (hre_at ‹_› ‹_›).2.2.2); (case hz2w772 => exact (hre_at ‹_› ‹_›).2.2.2); (case hv1w772 => exact vs_at ‹_› ‹_›); (case hv2w772 => exact vs_at ‹_› ‹_›); (case hw1w772 => assumption); (case hw2w772 => assumption); ((k_whole; intro _ _ _ _ _; (try k_sweep)))))
  k_with "subscriptTail Name Constant ref int" => k_extra "my row part"
  k_with "row part" => (k_here; k_dflt (first | ((with_reducible show wpAny _ _ (subscriptTail _ _ (Value.ref _) (Value.int 1 _)) _ _ _); refine' row_item1 ?zNw159 ?zrw159 ?_ ?zsw159; (case zNw159 => k_asm); (case zrw159 => exact row_in ‹_› ‹_› (by intro _ hpw159; (repeat (refine List.Mem.tail _ ?_)); (refine sub_mem (by with_reducible assumption) ?_; exact List.Mem.tail _ hpw159))); (case zsw159 => with_unfolding_all rfl); intro _) | ((with_reducible show wpAny _ _ (subscriptTail _ _ (Value.ref _) (Value.int 2 _)) _ _ _); refine' row_item2 ?zNw159 ?zrw159 ?_ ?zsw159; (case zNw159 => k_asm); (case zrw159 => exact row_in ‹_› ‹_› (by intro _ hpw159; (repeat (refine List.Mem.tail _ ?_)); (refine sub_mem (by with_reducible assumption) ?_; exact List.Mem.tail _ hpw159))); (case zsw159 => with_unfolding_all rfl); intro _)))
  k_with "eval Dict" => k_extra "my dict"
  k_with "dict of one" => (k_here; k_dflt (refine' kdn_eval (knd := PySem.strKind _ _) ?zFw548 ?zNw548 ?zbw548 ?zaw548 ?zlw548 ?zew548 ?znw548 ?_; (case zFw548 => k_asm); (case zNw548 => k_asm); (case zbw548 => exact Top.nolimit (by k_asm)); (case zaw548 => rfl); (case zlw548 => rfl); (case zew548 => exact List.cons_ne_nil _ _); (case znw548 => exact Nat.le_of_ble_eq_true rfl); intro _ _ _ _ _ l1w548 _ _; (try k_lt l1w548)))
  k_with "call stats" => (k_here; (with_reducible show wpAny _ _ (call (Value.ref 127) _) _ _ _); k_dflt (refine' c_stats ?Bw438 ?Fw438 ?Xw438 ?Nw438 ?Tw438 ?hkw438 ?h1w438 ?h2w438 ?Gw438 ?C9w438 ?htrw438 ?off9w438 ?hTtw438 ?hStw438 ?hTw438 ?dTw438 ?loTw438 ?sub0w438 ?cTw438 ?hzw438 ?hSw438 ?dSw438 ?loSw438 ?hPw438 ?hPnw438 ?_; (case Bw438 => k_asm); (case Fw438 => k_asm); (case Xw438 => k_asm); (case Nw438 => exact bring9 (by k_asm)); (case Tw438 => k_asm); (case hkw438 => exact rfl); (case h1w438 => exact Nat.le_of_ble_eq_true rfl); (case h2w438 => exact Nat.le_of_ble_eq_true rfl); (case Gw438 => assumption); (case C9w438 => assumption); (case htrw438 => assumption); (case off9w438 => k_extra "offs R"); (case hTtw438 => k_extra "in run"); (case hStw438 => k_extra "in run"); (case hTw438 => k_extra "in run"); (case dTw438 => assumption); (case loTw438 => assumption); (case sub0w438 => exact stats_sub); (case cTw438 => k_extra "stats cal"); (case hzw438 => first | exact Nat.zero_le _ | omega); (case hSw438 => k_extra "in run"); (case dSw438 => assumption); (case loSw438 => assumption); (case hPnw438 => exact .head _); (case hPw438 => k_extra "in run"); ((k_whole; intro _ _ _ _ _ _ _ _ _ _ _ _ _ hd9'w438 hc9'w438 hx9'w438 lo9'w438 hD9'w438 hR9'w438 _ hl9'w438 _ _ N'w438; (obtain ⟨_, _, zR5'w438, zD5'w438, zs5'w438, zr5'w438, _, _, _, _, _, _⟩ := stats_shape N'w438 hR9'w438 hx9'w438 hD9'w438 (by k_extra "five offs") ‹_› ‹_› ‹_› ‹_› ‹_›); clear N'w438; (try rw [List.length_nil] at hl9'w438); (have hB9'w438 := MkBook.use ‹_› zr5'w438 (Nat.le_succ _) zR5'w438 zD5'w438 hd9'w438 (Cal.mono hc9'w438 zs5'w438) lo9'w438 (by omega)); (have zr6'w438 := zr5'w438); clear zr5'w438; (try k_sweep)))))
  k_with "subscriptTail Subscript Name Name Constant ref int" => k_extra "my row part"
  k_with "offs R" => ((repeat (refine List.forall_mem_cons.mpr ⟨by (show @Ne Nat _ _; omega), ?_⟩)); assumption)
  k_with "five offs" => ((repeat (refine List.forall_mem_cons.mpr ⟨⟨by (show @Ne Nat _ _; omega), by (show @Ne Nat _ _; omega), by (show @Ne Nat _ _; omega), by (show @Ne Nat _ _; omega), by (show @Ne Nat _ _; omega)⟩, ?_⟩)); exact List.forall_mem_nil _)
  k_with "newTuple" => k_extra "my newTuple"
  k_with "new tuple" => (k_here; k_dflt (refine' kup_newTuple ?Fw145 ?Nw145 ?_ ?zw145; (case Fw145 => k_asm); (case Nw145 => k_asm); (case zw145 => kmk_size)); intro _ _ _ _ l1w145; (try k_lt l1w145); (try k_sweep))
  k_with "stats cal" => first | exact .nil | exact Cal.mono ‹_› (fun p hp => .tail _ hp)
  trivial
theorem c_run {x dx st pb Lw Lv J dj D T1 T2 : Addr} {n nw nv nD : Nat} {ps : Array Value} {rest : List (Addr × Obj)} {a1 a2 a3 a4 a5 a6 u0 u1 u2 u3 u4 v0 v1 v2 v3 v4 tj ta tb tc td : Tok} {ln i1 w1 i2 w2 : Int} {ws : Nat → Str} {vs : Nat → Int} {hm : Nat → Str}
    (B : Below A₀ base outer h₀) (F : Fr h₀ L s.heap m) (X : (hd.heap_1 w.params).In h₀) (N : News h₀ L s.heap ((pb, PySem.W.listOf (List.toArray []) n) :: (129, tabObj ps) :: rest)) (T : Top topProg loose mean mg mb h₀) (hk : cs.kind = .function) (h1 : dp ≤ 311) (h2 : un ≤ 10)
    (G : AllBare s.gens) (C9 : CodeHd base 133 129) (htr : TriplesOk ps.toList) (o1 : ∀ p ∈ rest, p.1 ≠ pb) (o2 : ∀ p ∈ rest, p.1 ≠ 129) (o3 : @Ne Nat pb 129)
    (hx : (x, instObj 88 dx) ∈ rest) (hdx : (dx, dictOf (lexD w a1 a2 a3 a4 a5 a6 ln (.ref st) (.ref pb)) 4) ∈ rest)
    (hLw : (Lw, PySem.W.listOf (List.toArray [.str (ws 0) u0, .str (ws 1) u1, .str (ws 2) u2, .str (ws 3) u3, .str (ws 4) u4]) nw) ∈ rest) (hLv : (Lv, PySem.W.listOf (List.toArray [.int (vs 0) v0, .int (vs 1) v1, .int (vs 2) v2, .int (vs 3) v3, .int (vs 4) v4]) nv) ∈ rest)
    (hJ : (J, instObj 116 dj) ∈ rest) (hdj : (dj, dictOf (selD w tj D) 1) ∈ rest) (hD : (D, PySem.W.listOf (List.toArray [.ref T1, .ref T2]) nD) ∈ rest) (hT1 : (T1, tupO [.int i1 ta, .int w1 tb]) ∈ rest) (hT2 : (T2, tupO [.int i2 tc, .int w2 td]) ∈ rest)
    (hi : i1 = 0 ∧ i2 = 1 ∨ i1 = 1 ∧ i2 = 0) (hw1 : -1 ≤ w1 ∧ w1 ≤ 1) (hw2 : -1 ≤ w2 ∧ w2 ≤ 1)
    (inj : ∀ a b, a < 5 → b < 5 → ws a = ws b → a = b) (hre : ∀ i, i < 5 → reHit (ws i) ≤ 1 ∧ (ws i).length ≤ 1000 ∧ reachF (ws i) = hm i ∧ (hm i).length ≤ 1000) (hvs : ∀ i, i < 5 → -1 ≤ vs i ∧ vs i ≤ 1)
    (ret : ∀ bk ob3 kb3 ps3 R3 h' tk' gs' pv' n', AllBare gs' → (∀ p ∈ rest, p ∈ R3) → StrsAre pv' ((runR (gtR i1 w1 w2 hm vs) hm vs 4).1.map ws) → ob3.IsDictOf (PySem.strKind PySem.Challenge.rw_xo0026_01.row.prog w) kb3 → Book w R3 16 kb3 (runR (gtR i1 w1 w2 hm vs) hm vs 4).2 → TriplesOk ps3.toList →
      (∀ p ∈ R3, p.1 ≠ pb) → (∀ p ∈ R3, p.1 ≠ bk) → (∀ p ∈ R3, p.1 ≠ 129) → (bk == sysModules) = false →
      Fr h₀ L h' m → News h₀ L h' ((pb, PySem.W.listOf (List.toArray pv') n') :: (bk, ob3) :: (129, tabObj ps3) :: R3) → Q (.ref bk) { s with heap := h', toks := tk', gens := gs' }) :
    wpAny (model PySem.Challenge.rw_xo0026_01.row.prog w) (ktrTop dp un gd cn cs L a ccd cl outer) (call (.ref 243) [.ref x, .ref Lw, .ref Lv, .ref J]) Q E s := by
  revert X; k_fill; intro X
  refine (run_cut B F X N T hk h1 h2 G C9 htr o1 o2 o3 hx hdx hLw hLv hJ hdj hD hT1 hT2 hi hw1 hw2 inj hre hvs ret).2 ⟨?_⟩
  dsimp only [run_cut]
  intros
  rename_i k3 i3 j3 lr3 t3 th3 tj3 wv3 gv3 rv3 hv3 h3' tk3 gs3 I3 oI3 pv3 n3 ob3 kb3 ps3 R3 bs3 gb3 hk3 he3 hi3 hj3 sub3 hpv3 hl3 hob3 hB3 hkb3 hkz3 htr3 p1 p2 p3 p4 p5 j1' j2' j3' j4' F' N'
  (try k_fold)
  k_with "my item" => k_extra "fn item"
  k_with "my set" => k_extra "dict set"
  k_with "my call" => first | k_extra "call stats" | k_extra "call push" | k_extra "call pop" | k_extra "call cmp"
  k_with "my getMethod" => k_extra "get method"
  k_with "my get" => k_extra "dict get2"
  k_with "my dict" => k_extra "dict of one"
  k_with "my row part" => k_extra "row part"
  k_with "my newTuple" => k_extra "new tuple"
  k_with "om" => with_reducible first | exact le_up0 ‹_› | exact le_up ‹_› ‹_› | exact le_th ‹_› ‹_› ‹_› | exact le_th' ‹_› ‹_› ‹_›
  k_with "my dict item" => k_extra "row item"
  k_steps
  all_goals first
    | exact step_next (th := th3) ‹_› ‹_› ‹_› (step_swap he3 (decide_eq_true ‹_›)) (fun y h1 h2 h3 h4 h5 h6 => by simp only [if_neg h1, if_neg h2, if_neg h3, if_neg h4, if_neg h5, if_neg h6]) (by first | exact rfl | simp) (fun p hp => (by assumption : ∀ p ∈ R3, p ∈ _) p (sub3 p hp)) hpv3 ‹_› (by first | (rw [if_pos ‹_›]; assumption) | (rw [if_neg ‹_›]; assumption)) (Nat.le_trans stored_length (Nat.succ_le_succ hkb3)) ‹_› ‹_› ‹_› ‹_› ‹_› ‹_› j1' j2' j3' j4'
    | exact step_next (th := tj3) gb3 ‹_› ‹_› (step_keep he3 (decide_eq_false ‹_›)) (fun y h1 h2 h3 h4 h5 h6 => by simp only [if_neg h1, if_neg h2, if_neg h3, if_neg h4, if_neg h5, if_neg h6]) (by first | exact rfl | simp) sub3 hpv3 hob3 (hB3.mono (fun p hp => hp) (Nat.le_succ _)) (Nat.le_succ_of_le hkb3) htr3 p1 p2 p3 p4 p5 j1' j2' j3' j4'
end
end
section
open PySem.AutoSeq1 (wpAny_loadPart')
open PySem.MeetsSeq PySem.MeetsSeq2 PySem.MeetsSeq3
theorem gt_loop (l b : Addr) (n n2 : Nat) (dd dd2 : Option Addr) (sl sl2 : Array (Option Value)) (items items2 : Array Value) (x0 x1 y0 y1 : Int) (t0 t1 u0 u1 : Tok) (hx0 : items[0]? = some (.int x0 t0)) (hx1 : items[1]? = some (.int x1 t1)) (hx2 : items.size = 2) (hy0 : items2[0]? = some (.int y0 u0)) (hy1 : items2[1]? = some (.int y1 u1)) (hy2 : items2.size = 2) (k : Nat) :
    ∀ i : Nat, 2 - i = k → Meets (Builtin.«list.__eq__.loop» ⟨[.ref l, .ref b, rawInt i, rawInt 4], []⟩)
      (fun A R s => s.heap.get? l = some { cls := .type "list", dict := dd, data := .seq items n, slots := sl } ∧ s.heap.get? b = some { cls := .type "list", dict := dd2, data := .seq items2 n2, slots := sl2 } ∧
        R (.ok (.ret (.bool (if i = 0 then (if x0 = y0 then (if x1 = y1 then false else decide (y1 < x1)) else decide (y0 < x0)) else if i = 1 then (if x1 = y1 then false else decide (y1 < x1)) else false)))) s) := by
  induction k with
  | zero =>
    intro i hk prog w A R s h
    obtain ⟨hp, g, d, tk, os⟩ := s; obtain ⟨hl, hb, h⟩ := h
    wp_walk using wpAny_loadPart' hl, wpAny_loadPart' hb
    have hi1 : items[((i : Nat) : Int).toNat]? = none := by simp; omega
    have hi2 : items2[((i : Nat) : Int).toNat]? = none := by simp; omega
    rw [hi1, hi2]
    wp_walk using wpAny_loadPart' hl, wpAny_loadPart' hb
    rw [if_neg (by omega), if_neg (by omega)] at h
    show R (.ok (.ret (.bool (decide (items.size > items2.size))))) _
    rw [hx2, hy2]
    exact h
  | succ k ih =>
    intro i hk prog w A R s h
    obtain ⟨hp, g, d, tk, os⟩ := s; obtain ⟨hl, hb, h⟩ := h
    wp_walk using wpAny_loadPart' hl, wpAny_loadPart' hb
    have hi : i = 0 ∨ i = 1 := by omega
    have hc : ((i : Int) + 1) = ((i + 1 : Nat) : Int) := by push_cast; rfl
    rcases hi with e0 | e0
    · have hi1 : items[((i : Nat) : Int).toNat]? = some (.int x0 t0) := by rw [Int.toNat_natCast, e0]; exact hx0
      have hi2 : items2[((i : Nat) : Int).toNat]? = some (.int y0 u0) := by rw [Int.toNat_natCast, e0]; exact hy0
      rw [hi1, hi2]
      refine wpAny_bind (SeqAt.EqAt.int_int x0 t0 y0 u0 prog w _ _ ?_)
      by_cases e : x0 = y0
      · rw [show (x0 == y0) = true from beq_iff_eq.mpr e]
        wp_walk
        rw [hc]
        exact ⟨plainId_quiet MeetsSeq3.plain_eq_loop _, codeAny_builtin MeetsSeq3.entry_eq_loop (by
          rw [Around.under_plainId MeetsSeq3.plain_eq_loop _]
          exact ih (i + 1) (by omega) prog w A R _ ⟨hl, hb, by simpa [e, e0] using h⟩)⟩
      · rw [show (x0 == y0) = false from beq_eq_false_iff_ne.mpr e]
        wp_walk using wpAny_loadPart' hl, wpAny_loadPart' hb
        rw [hi1, hi2]
        refine wpAny_bind (PyProof.Rows.gt_int ?_)
        wp_walk
        simpa [e, e0] using h
    · have hi1 : items[((i : Nat) : Int).toNat]? = some (.int x1 t1) := by rw [Int.toNat_natCast, e0]; exact hx1
      have hi2 : items2[((i : Nat) : Int).toNat]? = some (.int y1 u1) := by rw [Int.toNat_natCast, e0]; exact hy1
      rw [hi1, hi2]
      refine wpAny_bind (SeqAt.EqAt.int_int x1 t1 y1 u1 prog w _ _ ?_)
      by_cases e : x1 = y1
      · rw [show (x1 == y1) = true from beq_iff_eq.mpr e]
        wp_walk
        rw [hc]
        exact ⟨plainId_quiet MeetsSeq3.plain_eq_loop _, codeAny_builtin MeetsSeq3.entry_eq_loop (by
          rw [Around.under_plainId MeetsSeq3.plain_eq_loop _]
          exact ih (i + 1) (by omega) prog w A R _ ⟨hl, hb, by simpa [e, e0] using h⟩)⟩
      · rw [show (x1 == y1) = false from beq_eq_false_iff_ne.mpr e]
        wp_walk using wpAny_loadPart' hl, wpAny_loadPart' hb
        rw [hi1, hi2]
        refine wpAny_bind (PyProof.Rows.gt_int ?_)
        wp_walk
        simpa [e, e0] using h
theorem list_gtAt (l b : Addr) (n n2 : Nat) (dd dd2 : Option Addr) (sl sl2 : Array (Option Value)) (x0 x1 y0 y1 : Int) (t0 t1 u0 u1 : Tok) :
    Meets (Builtin.«list.__gt__» ⟨[.ref l, .ref b], []⟩)
      (fun A R s => s.heap.get? l = some { cls := .type "list", dict := dd, data := .seq #[.int x0 t0, .int x1 t1] n, slots := sl } ∧ s.heap.get? b = some { cls := .type "list", dict := dd2, data := .seq #[.int y0 u0, .int y1 u1] n2, slots := sl2 } ∧
        R (.ok (.ret (.bool (if x0 = y0 then (if x1 = y1 then false else decide (y1 < x1)) else decide (y0 < x0))))) s) := by
  intro prog w A R s h
  obtain ⟨hp, g, d, tk, os⟩ := s; obtain ⟨hl, hb, h⟩ := h
  have f3 := AutoSeq1.sub_list_list
  wp_walk using wpAny_loadPart' hl, wpAny_loadPart' hb
  exact ⟨plainId_quiet MeetsSeq3.plain_eq_loop _, codeAny_builtin MeetsSeq3.entry_eq_loop (by
    rw [Around.under_plainId MeetsSeq3.plain_eq_loop _]
    exact gt_loop l b n n2 dd dd2 sl sl2 _ _ x0 x1 y0 y1 t0 t1 u0 u1 rfl rfl rfl rfl rfl rfl _ 0 rfl prog w A R _ ⟨hl, hb, by simpa using h⟩)⟩
theorem gt_two {prog : Program} {A : Around} {E : Value → Shared → Prop} {s : Shared} {l b : Addr} {x0 x1 y0 y1 : Int} {t0 t1 u0 u1 : Tok} {Q : Value → Shared → Prop} (hl : s.heap.IsList l #[.int x0 t0, .int x1 t1]) (hb : s.heap.IsList b #[.int y0 u0, .int y1 u1]) (hu : A.units < cLine)
    (h : Q (.bool (if x0 = y0 then (if x1 = y1 then false else decide (y1 < x1)) else decide (y0 < x0))) s) : wpAny (model prog w) A (compareOp .Gt (.ref l) (.ref b)) Q E s := by
  obtain ⟨⟨cls, dd, data, sl⟩, ho, hc, n, hd⟩ := id hl
  obtain ⟨⟨cls2, dd2, data2, sl2⟩, ho2, hc2, n2, hd2⟩ := id hb
  simp only at hc hd hc2 hd2
  subst hc hd hc2 hd2
  exact richCompare_meets_room (op := .Gt) ⟨_, ho, rfl⟩ ⟨_, ho2, rfl⟩ F.slot_list_gt F.entry_list_gt (F.args_list_gt_2 _ _) (list_gtAt l b n n2 dd dd2 sl sl2 x0 x1 y0 y1 t0 t1 u0 u1)
    ⟨ho, ho2, ⟨(fun x => nomatch x), h⟩⟩ hu
theorem lt_loop (l b : Addr) (n n2 : Nat) (dd dd2 : Option Addr) (sl sl2 : Array (Option Value)) (items items2 : Array Value) (x0 x1 y0 y1 : Int) (t0 t1 u0 u1 : Tok) (hx0 : items[0]? = some (.int x0 t0)) (hx1 : items[1]? = some (.int x1 t1)) (hx2 : items.size = 2) (hy0 : items2[0]? = some (.int y0 u0)) (hy1 : items2[1]? = some (.int y1 u1)) (hy2 : items2.size = 2) (k : Nat) :
    ∀ i : Nat, 2 - i = k → Meets (Builtin.«list.__eq__.loop» ⟨[.ref l, .ref b, rawInt i, rawInt 0], []⟩)
      (fun A R s => s.heap.get? l = some { cls := .type "list", dict := dd, data := .seq items n, slots := sl } ∧ s.heap.get? b = some { cls := .type "list", dict := dd2, data := .seq items2 n2, slots := sl2 } ∧
        R (.ok (.ret (.bool (if i = 0 then (if x0 = y0 then (if x1 = y1 then false else decide (x1 < y1)) else decide (x0 < y0)) else if i = 1 then (if x1 = y1 then false else decide (x1 < y1)) else false)))) s) := by
  induction k with
  | zero =>
    intro i hk prog w A R s h
    obtain ⟨hp, g, d, tk, os⟩ := s; obtain ⟨hl, hb, h⟩ := h
    wp_walk using wpAny_loadPart' hl, wpAny_loadPart' hb
    have hi1 : items[((i : Nat) : Int).toNat]? = none := by simp; omega
    have hi2 : items2[((i : Nat) : Int).toNat]? = none := by simp; omega
    rw [hi1, hi2]
    wp_walk using wpAny_loadPart' hl, wpAny_loadPart' hb
    rw [if_neg (by omega), if_neg (by omega)] at h
    show R (.ok (.ret (.bool (decide (items.size < items2.size))))) _
    rw [hx2, hy2]
    exact h
  | succ k ih =>
    intro i hk prog w A R s h
    obtain ⟨hp, g, d, tk, os⟩ := s; obtain ⟨hl, hb, h⟩ := h
    wp_walk using wpAny_loadPart' hl, wpAny_loadPart' hb
    have hi : i = 0 ∨ i = 1 := by omega
    have hc : ((i : Int) + 1) = ((i + 1 : Nat) : Int) := by push_cast; rfl
    rcases hi with e0 | e0
    · have hi1 : items[((i : Nat) : Int).toNat]? = some (.int x0 t0) := by rw [Int.toNat_natCast, e0]; exact hx0
      have hi2 : items2[((i : Nat) : Int).toNat]? = some (.int y0 u0) := by rw [Int.toNat_natCast, e0]; exact hy0
      rw [hi1, hi2]
      refine wpAny_bind (SeqAt.EqAt.int_int x0 t0 y0 u0 prog w _ _ ?_)
      by_cases e : x0 = y0
      · rw [show (x0 == y0) = true from beq_iff_eq.mpr e]
        wp_walk
        rw [hc]
        exact ⟨plainId_quiet MeetsSeq3.plain_eq_loop _, codeAny_builtin MeetsSeq3.entry_eq_loop (by
          rw [Around.under_plainId MeetsSeq3.plain_eq_loop _]
          exact ih (i + 1) (by omega) prog w A R _ ⟨hl, hb, by simpa [e, e0] using h⟩)⟩
      · rw [show (x0 == y0) = false from beq_eq_false_iff_ne.mpr e]
        wp_walk using wpAny_loadPart' hl, wpAny_loadPart' hb
        rw [hi1, hi2]
        refine wpAny_bind (PyProof.Rows.lt_int ?_)
        wp_walk
        simpa [e, e0] using h
    · have hi1 : items[((i : Nat) : Int).toNat]? = some (.int x1 t1) := by rw [Int.toNat_natCast, e0]; exact hx1
      have hi2 : items2[((i : Nat) : Int).toNat]? = some (.int y1 u1) := by rw [Int.toNat_natCast, e0]; exact hy1
      rw [hi1, hi2]
      refine wpAny_bind (SeqAt.EqAt.int_int x1 t1 y1 u1 prog w _ _ ?_)
      by_cases e : x1 = y1
      · rw [show (x1 == y1) = true from beq_iff_eq.mpr e]
        wp_walk
        rw [hc]
        exact ⟨plainId_quiet MeetsSeq3.plain_eq_loop _, codeAny_builtin MeetsSeq3.entry_eq_loop (by
          rw [Around.under_plainId MeetsSeq3.plain_eq_loop _]
          exact ih (i + 1) (by omega) prog w A R _ ⟨hl, hb, by simpa [e, e0] using h⟩)⟩
      · rw [show (x1 == y1) = false from beq_eq_false_iff_ne.mpr e]
        wp_walk using wpAny_loadPart' hl, wpAny_loadPart' hb
        rw [hi1, hi2]
        refine wpAny_bind (PyProof.Rows.lt_int ?_)
        wp_walk
        simpa [e, e0] using h
theorem list_ltAt (l b : Addr) (n n2 : Nat) (dd dd2 : Option Addr) (sl sl2 : Array (Option Value)) (x0 x1 y0 y1 : Int) (t0 t1 u0 u1 : Tok) :
    Meets (Builtin.«list.__lt__» ⟨[.ref l, .ref b], []⟩)
      (fun A R s => s.heap.get? l = some { cls := .type "list", dict := dd, data := .seq #[.int x0 t0, .int x1 t1] n, slots := sl } ∧ s.heap.get? b = some { cls := .type "list", dict := dd2, data := .seq #[.int y0 u0, .int y1 u1] n2, slots := sl2 } ∧
        R (.ok (.ret (.bool (if x0 = y0 then (if x1 = y1 then false else decide (x1 < y1)) else decide (x0 < y0))))) s) := by
  intro prog w A R s h
  obtain ⟨hp, g, d, tk, os⟩ := s; obtain ⟨hl, hb, h⟩ := h
  have f3 := AutoSeq1.sub_list_list
  wp_walk using wpAny_loadPart' hl, wpAny_loadPart' hb
  exact ⟨plainId_quiet MeetsSeq3.plain_eq_loop _, codeAny_builtin MeetsSeq3.entry_eq_loop (by
    rw [Around.under_plainId MeetsSeq3.plain_eq_loop _]
    exact lt_loop l b n n2 dd dd2 sl sl2 _ _ x0 x1 y0 y1 t0 t1 u0 u1 rfl rfl rfl rfl rfl rfl _ 0 rfl prog w A R _ ⟨hl, hb, by simpa using h⟩)⟩
theorem lt_two {prog : Program} {A : Around} {E : Value → Shared → Prop} {s : Shared} {l b : Addr} {x0 x1 y0 y1 : Int} {t0 t1 u0 u1 : Tok} {Q : Value → Shared → Prop} (hl : s.heap.IsList l #[.int x0 t0, .int x1 t1]) (hb : s.heap.IsList b #[.int y0 u0, .int y1 u1]) (hu : A.units < cLine)
    (h : Q (.bool (if x0 = y0 then (if x1 = y1 then false else decide (x1 < y1)) else decide (x0 < y0))) s) : wpAny (model prog w) A (compareOp .Lt (.ref l) (.ref b)) Q E s := by
  obtain ⟨⟨cls, dd, data, sl⟩, ho, hc, n, hd⟩ := id hl
  obtain ⟨⟨cls2, dd2, data2, sl2⟩, ho2, hc2, n2, hd2⟩ := id hb
  simp only at hc hd hc2 hd2
  subst hc hd hc2 hd2
  exact richCompare_meets_room (op := .Lt) ⟨_, ho, rfl⟩ ⟨_, ho2, rfl⟩ F.slot_list_lt F.entry_list_lt (F.args_list_lt_2 _ _) (list_ltAt l b n n2 dd dd2 sl sl2 x0 x1 y0 y1 t0 t1 u0 u1)
    ⟨ho, ho2, ⟨(fun x => nomatch x), h⟩⟩ hu
end
theorem off_turn_0 : True := by
  w_top off
  k_with "om" => (first | (with_reducible first | ((show @Ne Nat _ _); (try dsimp only); first | exact ‹_› | exact Ne.symm ‹_› | exact Nat.ne_of_lt (by k_extra "suc") | exact Nat.ne_of_gt (by k_extra "suc") | ((fail_if_success (fail_if_success refine cj2 ‹_› ?_)); exact Nat.ne_of_gt (by k_extra "pk")) | ((fail_if_success (fail_if_success refine cj1 ‹_› ?_)); exact Nat.ne_of_lt (by k_extra "pk")) | ((fail_if_success (fail_if_success refine cj3 ‹_› ?_)); k_extra "pk") | ((fail_if_success (fail_if_success refine cj4 ‹_› ?_)); k_extra "pk") | ((fail_if_success (fail_if_success refine cj5 ‹_› ?_)); exact Ne.symm (by k_extra "pk")) | ((fail_if_success (fail_if_success refine cj6 ‹_› ?_)); exact Ne.symm (by k_extra "pk")) | exact Nat.ne_of_gt ‹_› | exact Nat.ne_of_lt ‹_›) | ((show _ ∨ _); first | exact lt5_cases ‹_› | exact i5_cases ‹_› ‹_› | exact i3_cases ‹_› ‹_›) | ((show @LT.lt Nat _ _ _); first | exact ‹_› | exact sub_step ‹_› | exact sub_step1 ‹_› | k_extra "suc" | ((fail_if_success (fail_if_success refine cj7 ‹_› ?_)); k_extra "pk")) | ((show @LE.le Nat _ _ _); (try dsimp only); first | exact (by decide) | exact Nat.le_of_lt ‹_› | exact Nat.le_of_lt (by k_extra "suc") | (refine Nat.le_trans ‹_› ?_; decide) | (refine Nat.le_trans (Nat.le_of_eq (Eq.symm ‹_›)) (Nat.le_trans ‹_› ?_); decide) | exact le_s1 (by k_extra "pk") | exact len2a ‹_› ‹_› | exact len2b ‹_› ‹_›) | ((show @LE.le Int _ _ _); exact neg5) | ((show @LT.lt Int _ _ _); exact Int.ofNat_lt.mpr ‹_›)) | lia)
  trivial
noncomputable def KeysAt (news : List (Addr × Obj)) (K : Addr) (kA kB : Nat → Int) : Prop :=
  ∃ (Kf : Nat → Addr) (n : Nat), (K, PySem.W.listOf (List.toArray [.ref (Kf 0), .ref (Kf 1), .ref (Kf 2), .ref (Kf 3), .ref (Kf 4)]) n) ∈ news ∧ ∀ i, i < 5 → ∃ t u n', (Kf i, PySem.W.listOf (List.toArray [.int (kA i) t, .int (kB i) u]) n') ∈ news
theorem KeysAt.mono {news news' : List (Addr × Obj)} {K : Addr} {kA kB : Nat → Int} (h : KeysAt news K kA kB) (sub : ∀ p ∈ news, p ∈ news') : KeysAt news' K kA kB := by
  obtain ⟨Kf, n, h1, h2⟩ := h
  refine ⟨Kf, n, sub _ h1, fun i hi => ?_⟩
  obtain ⟨t, u, n', h3⟩ := h2 i hi
  exact ⟨t, u, n', sub _ h3⟩
noncomputable def gtK (kA kB : Nat → Int) (i j : Nat) : Bool := if kA i = kA j then (if kB i = kB j then false else decide (kB j < kB i)) else decide (kA j < kA i)
noncomputable def eqK (kA kB : Nat → Int) (i j : Nat) : Bool := decide ([kA i, kB i] = [kA j, kB j])
noncomputable def selT (kA kB : Nat → Int) (i z : Nat) : Bool := gtK kA kB z i || (eqK kA kB z i && decide ((i : Int) < (z : Int)))
noncomputable def turnF (kA kB : Nat → Int) (i j : Nat) : Int := 1 + (((List.range j).filter (selT kA kB i)).length : Int)
section
variable {prog : Program} {A : Around} {E : Value → Shared → Prop} {s : Shared} {h₀ : Heap} {L : Addr} {value slice : PySem.Expr} {news : List (Addr × Obj)} {Q : Value → Shared → Prop}
noncomputable def KeyAt (news : List (Addr × Obj)) (a : Addr) (x y : Int) : Prop := ∃ t u n, (a, PySem.W.listOf (List.toArray [.int x t, .int y u]) n) ∈ news
theorem key_item {K : Addr} {kA kB : Nat → Int} {i : Nat} {u : Tok} (N : News h₀ L s.heap news) (hK : KeysAt news K kA kB) (hi : i < 5)
    (h : ∀ a, KeyAt news a (kA i) (kB i) → Q (.ref a) s) (hs : subscripted slice false (.ref K) (.int i u) = operate [.ref K, .int i u] (getItem (.ref K) (.int i u))) : wpAny (model prog w) A (subscriptTail value slice (.ref K) (.int (i : Int) u)) Q E s := by
  obtain ⟨Kf, n, h1, h2⟩ := hK
  have hl := News.isList N h1
  have hk := h (Kf i) (h2 i hi)
  clear h
  revert i
  refine @(at5 ?_ ?_ ?_ ?_ ?_) <;> exact fun hs hk => item_litK hl (by decide) (by decide) (by rfl) hk hs
theorem key_gt {a b : Addr} {x y x' y' : Int} (N : News h₀ L s.heap news) (ha : KeyAt news a x y) (hb : KeyAt news b x' y') (hu : A.units + 64 < cLine) (h : Q (.bool (if x = x' then (if y = y' then false else decide (y' < y)) else decide (x' < x))) s) : wpAny (model prog w) A (compareOp .Gt (.ref a) (.ref b)) Q E s := by
  obtain ⟨t, u, n, h1⟩ := ha
  obtain ⟨t', u', n', h2⟩ := hb
  exact gt_two (News.isList N h1) (News.isList N h2) (by omega) h
theorem key_eq {a b : Addr} {x y x' y' : Int} (N : News h₀ L s.heap news) (ha : KeyAt news a x y) (hb : KeyAt news b x' y') (hu : A.units + 64 < cLine) (h : Q (.bool (decide ([x, y] = [x', y']))) s) : wpAny (model prog w) A (compareOp .Eq (.ref a) (.ref b)) Q E s := by
  obtain ⟨t, u, n, h1⟩ := ha
  obtain ⟨t', u', n', h2⟩ := hb
  exact ke_eq_ints (News.isList N h1) (News.isList N h2) (.cons _ _ (.cons _ _ .nil)) (.cons _ _ (.cons _ _ .nil)) hu h
end
noncomputable def Picked (p : Nat → Bool) (G : Nat → Value → Prop) (n : Nat) (ys : List Value) : Prop := PySem.Paired G ((List.range n).filter p) ys
theorem Picked.length {p : Nat → Bool} {G : Nat → Value → Prop} {n : Nat} {ys : List Value} (h : Picked p G n ys) : ys.length = ((List.range n).filter p).length := (PySem.Paired.length h).symm
section
variable {prog : Program} {A : Around} {h₀ : Heap} {L : Addr} {m : Str → Option Value} {env : Env} {ct elt : PySem.Expr} {x : Str} {scope : Scope} {cl : List (Str × Addr)} {s : Shared} {S : List (Addr × Obj) → Prop} {P : Nat → Value → Prop} {Fin : List Value → List (Addr × Obj) → Prop} {news : List (Addr × Obj)} {n : Nat}
noncomputable def PickY (news : List (Addr × Obj)) (b : Bool) (G : Value → Prop) (y : Value) (news' : List (Addr × Obj)) : Prop := news' = news ∧ b = true ∧ G y
noncomputable def PickN (news : List (Addr × Obj)) (b : Bool) (news' : List (Addr × Obj)) : Prop := news' = news ∧ b = false
theorem pick_each (p : Nat → Bool) (G : Nat → Value → Prop)
    (turn : ∀ i v I oI C oC D m₂ ys h tk (E' : Value → Shared → Prop), i < n → P i v → LCg.NsObj oC m₂ → m₂ x = some v → Fr h₀ L h m → News h₀ L h ((I, oI) :: (C, oC) :: (D, LCg.lst ys) :: news) → LCg.Off3 I C D news → ((@Ne Nat I C) ∧ (@Ne Nat I D) ∧ (@Ne Nat C D)) →
      wpAny (model prog w) A (isTrue ct (compEnvC scope cl C env) (eval ct (compEnvC scope cl C env))) (fun ok s' => if ok = true then
        wpAny (model prog w) A (eval elt (compEnvC scope cl C env)) (LCg.CompEnd h₀ L m { s with heap := h, toks := tk } I oI C oC D (LCg.lst ys) S (PickY news (p i) (G i))) E' s'
        else LCg.CompEnd h₀ L m { s with heap := h, toks := tk } I oI C oC D (LCg.lst ys) S (fun _ => PickN news (p i)) Value.none s') E' { s with heap := h, toks := tk })
    (fin : ∀ ys, Picked p G n ys → Fin ys news) : LCt.CompRestT prog w A h₀ L m env ct elt x scope cl s S P Fin n 0 [] news := by
  have key : ∀ (j i : Nat) (ys : List Value), i + j = n → Picked p G i ys → LCt.CompRestT prog w A h₀ L m env ct elt x scope cl s S P Fin j i ys news := by
    intro j
    induction j with
    | zero => intro i ys hi hy; rw [Nat.add_zero] at hi; exact LCt.CompRestT.zero (fin ys (by rw [← hi]; exact hy))
    | succ j ih =>
      intro i ys hi hy
      refine LCt.CompRestT.succ ?_
      intro v I oI C oC D m₂ h tk E' hv hC hx F N off ne
      have hr : (List.range (i + 1)).filter p = (List.range i).filter p ++ (if p i then [i] else []) := by
        rw [List.range_succ, List.filter_append]
        cases hp : p i <;> simp [hp]
      refine wpAny_mono (turn i v I oI C oC D m₂ ys h tk E' (by omega) hv hC hx F N off ne) (fun ok s₂ hq => ?_) fun _ _ e => e
      cases ok with
      | true =>
        rw [if_pos rfl] at hq
        rw [if_pos rfl]
        refine wpAny_mono hq (fun y s₃ hr' => ?_) fun _ _ e => e
        obtain ⟨h', tk', nw, e, F', N', off', hS, hn, hp, hG⟩ := hr'
        rw [hn] at N' off' hS
        refine ⟨h', tk', news, e, F', N', off', hS, ih (i + 1) _ (by omega) ?_⟩
        unfold Picked
        rw [hr, hp, if_pos rfl]
        exact PySem.Paired.snoc hy hG
      | false =>
        rw [if_neg (by decide)] at hq
        rw [if_neg (by decide)]
        obtain ⟨h', tk', nw, e, F', N', off', hS, hn, hp⟩ := hq
        rw [hn] at N' off' hS
        refine ⟨h', tk', news, e, F', N', off', hS, ih (i + 1) _ (by omega) ?_⟩
        unfold Picked
        rw [hr, hp, if_neg (by decide), List.append_nil]
        exact hy
  exact key n 0 [] (by omega) .nil
end
section
variable {h₀ : Heap} {L I C D : Addr} {m : Str → Option Value} {s₁ : Shared} {oI oC oD : Obj} {S : List (Addr × Obj) → Prop} {news : List (Addr × Obj)} {h' : Heap} {tk : Nat} {all : List (Addr × Obj)} {b : Bool}
theorem pick_yes {G : Value → Prop} {y : Value} (F : Fr h₀ L h' m) (N : News h₀ L h' all) (sub : ∀ p ∈ (I, oI) :: (C, oC) :: (D, oD) :: news, p ∈ all) (off : LCg.Off3 I C D news) (hS : S news) (hb : b = true) (g : G y) :
    LCg.CompEnd h₀ L m s₁ I oI C oC D oD S (PickY news b G) y { s₁ with heap := h', toks := tk } := LCg.CompEnd.intro F N news sub off hS ⟨rfl, hb, g⟩
theorem pick_no {v : Value} (F : Fr h₀ L h' m) (N : News h₀ L h' all) (sub : ∀ p ∈ (I, oI) :: (C, oC) :: (D, oD) :: news, p ∈ all) (off : LCg.Off3 I C D news) (hS : S news) (hb : b = false) :
    LCg.CompEnd h₀ L m s₁ I oI C oC D oD S (fun _ => PickN news b) v { s₁ with heap := h', toks := tk } := LCg.CompEnd.intro F N news sub off hS ⟨rfl, hb⟩
end
theorem turn_len {kA kB : Nat → Int} {i j : Nat} {G : Nat → Value → Prop} {ys : List Value} (h : Picked (selT kA kB i) G j ys) : 1 + ((List.toArray ys).size : Int) = turnF kA kB i j := by
  unfold turnF; rw [List.size_toArray, h.length]
theorem selT_gt {kA kB : Nat → Int} {i z : Nat} (h : (if kA z = kA i then (if kB z = kB i then false else decide (kB i < kB z)) else decide (kA i < kA z)) = true) : selT kA kB i z = true := by
  have e : gtK kA kB z i = true := h
  unfold selT; rw [e, Bool.true_or]
theorem selT_eq {kA kB : Nat → Int} {i z : Nat} (h1 : [kA z, kB z] = [kA i, kB i]) (h2 : (i : Int) < (z : Int)) : selT kA kB i z = true := by
  unfold selT eqK; rw [decide_eq_true h1, decide_eq_true h2, Bool.and_self, Bool.or_true]
theorem selT_no1 {kA kB : Nat → Int} {i z : Nat} (e : (if kA z = kA i then (if kB z = kB i then false else decide (kB i < kB z)) else decide (kA i < kA z)) = false) (h1 : ¬[kA z, kB z] = [kA i, kB i]) : selT kA kB i z = false := by
  have e : gtK kA kB z i = false := e
  unfold selT eqK; rw [e, decide_eq_false h1]; rfl
theorem selT_no2 {kA kB : Nat → Int} {i z : Nat} (e : (if kA z = kA i then (if kB z = kB i then false else decide (kB i < kB z)) else decide (kA i < kA z)) = false) (h2 : ¬(i : Int) < (z : Int)) : selT kA kB i z = false := by
  have e : gtK kA kB z i = false := e
  unfold selT; rw [e, decide_eq_false h2, Bool.and_false]; rfl
theorem pick_le (p : Nat → Bool) (n : Nat) : ((List.range n).filter p).length ≤ n := Nat.le_trans (List.length_filter_le _ _) (Nat.le_of_eq List.length_range)
theorem small_nat {j : Nat} (h : j < 5) : Builtin.Range.small 0 (j : Int) 1 = true := small_one (by decide) (by decide) (by omega) (by omega)
theorem size_nat {j : Nat} : Builtin.Range.rangeSize 0 (j : Int) 1 = ((j : Nat) : Int) := by rw [rangeSize_nat]; simp
section
variable {mg mb : Str → Option Value} {mean : ExcName → Option Value} {loose : List Str} {dp un : Nat} {gd : Option (List Code)} {cn : Str} {cs : Scope} {a : Addr} {ccd : Value} {cl : List (Str × Addr)} {outer : List Env} {A₀ : Around} {base h₀ : Heap} {L : Addr} {m : Str → Option Value} {s : Shared} {Q E : Value → Shared → Prop}
theorem off_turn_1 : True := by
  w_top off
  k_with_none
  k_with "subl" => ((repeat' (first | refine List.forall_mem_cons.mpr ⟨by (repeat (first | exact List.Mem.head _ | refine List.Mem.tail _ ?_ | refine List.mem_append_right _ ?_)), ?_⟩ | refine List.forall_mem_append.mpr ⟨?_, ?_⟩)); all_goals (intro _ hpw219; (repeat (first | exact hpw219 | refine List.Mem.tail _ ?_ | exact List.mem_append_left _ hpw219 | refine List.mem_append_right _ ?_))))
  k_with "pk" => (with_reducible first | exact pk1 ‹_› | exact pk2 ‹_› | exact pk3 ‹_› | exact pk4 ‹_› | exact pk5 ‹_› | exact pk6 ‹_› | exact pk7 ‹_› | exact pk8 ‹_› | exact pk9 ‹_› | exact pk10 ‹_› | exact pk11 ‹_› | exact pk12 ‹_› | exact pk13 ‹_› | exact pk14 ‹_› | exact pl2 ‹_› | exact pl3 ‹_› | exact pl4 ‹_› | exact pl5 ‹_› | exact pl6 ‹_› | exact pl7 ‹_›)
  k_with "suc" => (with_reducible first | exact lts1 | exact lts2 | exact lts3 | exact lts4 | exact lts5 | exact lts6 | exact lts7)
  k_with "hop" => (with_reducible first | exact ‹_› | k_extra "pk" | (refine Nat.lt_trans ?_ (by first | assumption | k_extra "pk"); k_extra "hop"))
  k_with "om" => (first | (with_reducible first | ((show @Ne Nat _ _); (try dsimp only); first | exact ‹_› | exact Ne.symm ‹_› | exact Nat.ne_of_lt (by k_extra "suc") | exact Nat.ne_of_gt (by k_extra "suc") | ((fail_if_success (fail_if_success refine cj2 ‹_› ?_)); exact Nat.ne_of_gt (by k_extra "pk")) | ((fail_if_success (fail_if_success refine cj1 ‹_› ?_)); exact Nat.ne_of_lt (by k_extra "pk")) | ((fail_if_success (fail_if_success refine cj3 ‹_› ?_)); k_extra "pk") | ((fail_if_success (fail_if_success refine cj4 ‹_› ?_)); k_extra "pk") | ((fail_if_success (fail_if_success refine cj5 ‹_› ?_)); exact Ne.symm (by k_extra "pk")) | ((fail_if_success (fail_if_success refine cj6 ‹_› ?_)); exact Ne.symm (by k_extra "pk")) | exact Nat.ne_of_gt ‹_› | exact Nat.ne_of_lt ‹_›) | ((show _ ∨ _); first | exact lt5_cases ‹_› | exact i5_cases ‹_› ‹_› | exact i3_cases ‹_› ‹_›) | ((show @LT.lt Nat _ _ _); first | exact ‹_› | exact sub_step ‹_› | exact sub_step1 ‹_› | k_extra "suc" | ((fail_if_success (fail_if_success refine cj7 ‹_› ?_)); k_extra "pk")) | ((show @LE.le Nat _ _ _); (try dsimp only); first | exact (by decide) | exact Nat.le_of_lt ‹_› | exact Nat.le_of_lt (by k_extra "suc") | (refine Nat.le_trans ‹_› ?_; decide) | (refine Nat.le_trans (Nat.le_of_eq (Eq.symm ‹_›)) (Nat.le_trans ‹_› ?_); decide) | exact le_s1 (by k_extra "pk") | exact len2a ‹_› ‹_› | exact len2b ‹_› ‹_›) | ((show @LE.le Int _ _ _); exact neg5) | ((show @LT.lt Int _ _ _); exact Int.ofNat_lt.mpr ‹_›)) | lia)
  k_with "my_enter" => k_dflt (first | (refine' code_def ?k1w914 ?k2w914 ?k3w914 ?k4w914 ?k5w914 ?kAw914 ?kFw914 ?kKw914 ?k6w914 ?k7w914 ?k8w914 ?k9w914 ?kBw914 ?_ ?c2w914 ?c3w914 ?c4w914 ?c5w914; (case kAw914 => exact rfl); (case kFw914 => exact rfl); (case kKw914 => assumption); (case k1w914 => k_asm); (case k2w914 => k_asm); (case k3w914 => k_asm); (case k4w914 => k_asm); (case k5w914 => k_asm); (case k6w914 => k_is); (case k7w914 => k_is); (case k8w914 => k_room); (case k9w914 => first | exact BindsTo.of_eq rfl | exact binds_K (by k_in) rfl (by k_is) rfl rfl rfl); (case c5w914 => decide); (case kBw914 => exact locs rfl); (case c2w914 => exact rfl); (case c3w914 => exact rfl); (case c4w914 => exact rfl); k_whole; intro _ _ _ _ _ N'w914 B'w914 _ _; (try dsimp only); (try k_lift B'w914); (try k_fold)) | (refine' code_defC ?k1w914 ?k2w914 ?k3w914 ?k4w914 ?k5w914 ?kAw914 ?kFw914 ?kKw914 ?k6w914 ?k7w914 ?k8w914 ?k9w914 ?kBw914 ?kDw914 ?_ ?c2w914 ?c3w914 ?c4w914; (case kAw914 => exact rfl); (case kFw914 => exact rfl); (case kKw914 => assumption); (case k1w914 => k_asm); (case k2w914 => k_asm); (case k3w914 => k_asm); (case k4w914 => k_asm); (case k5w914 => k_asm); (case k6w914 => k_is); (case k7w914 => k_is); (case k8w914 => k_room); (case k9w914 => first | exact BindsTo.of_eq rfl | exact binds_K (by k_in) rfl (by k_is) rfl rfl rfl); (case kBw914 => exact rfl); (case kDw914 => decide +kernel); (case c2w914 => exact rfl); (case c3w914 => exact rfl); (case c4w914 => exact rfl); k_whole; intro _ _ _ _ _ _ _ N'w914 Y'w914 B'w914 _ _ l1w914; (try k_lt l1w914); k_cells Y'w914; (try simp only [List.cons_append, List.nil_append] at N'w914); (try dsimp only); (try k_lift B'w914); (try k_fold)))
  k_with "my_unrolled" => (k_dflt (first | (refine LCg.CompSrc.ledger (by rfl) (by k_asm) (by k_asm) (by k_mem) (by first | size_fits | exact Nat.le_of_ble_eq_true rfl) ?_; intro _; lcg_lit) | (refine LCg.CompSrc.base (by rfl) (by k_asm) (by k_asm) ‹_› (by first | size_fits | exact Nat.le_of_ble_eq_true rfl) ?_; intro _; lcg_lit) | (refine LCg.CompSrc.range (by rfl) (by k_asm) (by k_asm) ‹_› (by first | decide | rfl) (by first | rfl | decide) (by first | size_fits | exact Nat.le_of_ble_eq_true rfl) ?_; intro _; lcg_lit)))
  k_with "my_comp" => k_dflt (refine LCg.ListComp_U (F₀ := by k_asm) (by with_unfolding_all rfl) (by decide) (by rfl) (by decide) (by rfl) ?_)
  k_with "my_compA" => k_dflt (refine LCg.Assign_ListComp_U (F₀ := by k_asm) (by rfl) (by with_unfolding_all rfl) (by with_unfolding_all rfl) (by decide) (by rfl) (by decide) (by rfl) (by rfl) (by rfl) ?_)
  k_with "CompRest" => (with_unfolding_all first | (refine LCg.CompRest.succ ?_; intro _ _ _ _ _ _ _ _ _ _ hv'w186 _ hx'w186 _ _ off'w186 _; (first | lcg_open hv'w186 | (obtain ⟨_, hv9'w186⟩ := hv'w186; subst hv9'w186; (try simp only [Int.zero_add, Int.natCast_zero, Int.natCast_one, Int.reduceAdd, Nat.reduceAdd, Int.cast_ofNat_Int] at hx'w186))); (try simp only [LCg.Off3, and_true] at off'w186)) | refine LCg.CompRest.zero ?_)
  k_with "eval ListComp" => (k_here; k_extra "my_comp")
  k_with "exec Assign cons ListComp" => (k_here; k_extra "my_compA")
  k_with "subscriptTail Name Name ref int" => k_extra "my item"
  k_with "binaryOp Add str str" => (k_here; (with_reducible show wpAny _ _ (binaryOp Operator.Add (Value.str _ _) (Value.str _ _)) _ _ _); (refine add_short (by with_reducible assumption) (by with_reducible assumption) ?_); intro _ _ _)
  k_with "call type:str" => (k_here; (with_reducible show wpAny _ _ (call (Value.type "str") [Value.int _ _]) _ _ _); (refine str_digit ‹_› ‹_› ?_); intro _ _ _)
  k_with "lex white" => (k_here; k_dflt (refine lex_white ‹_› ?_; intro _))
  k_with "FnAt" => k_dflt (exact FnAt.of (by k_asm) (by k_mem))
  k_with "run mem" => (k_extra "in run"; done)
  k_with "eval ListComp" => k_extra "my compT"
  k_with "comp T" => (k_here; k_dflt (refine LCt.ListComp_T (F₀ := by k_asm) (by with_unfolding_all rfl) (by decide) (by rfl) (by decide) (by rfl) ?_))
  k_with "CompSrcT" => k_extra "my CompSrcT"
  k_with "key item" => (k_here; (with_reducible show wpAny _ _ (subscriptTail _ _ (Value.ref _) (Value.int (Nat.cast _) _)) _ _ _); k_dflt (refine' key_item ?zNw777 ?zKw777 ?ziw777 ?_ ?zsw777; (case zNw777 => k_asm); (case zKw777 => exact KeysAt.mono ‹_› (by lcg_sub)); (case ziw777 => assumption); (case zsw777 => with_unfolding_all rfl); intro _ _))
  k_with "key gt" => (k_here; (with_reducible show wpAny _ _ (compareOp CmpOp.Gt (Value.ref _) (Value.ref _)) _ _ _); k_dflt (refine' key_gt ?zNw76 ?zaw76 ?zbw76 ?zuw76 ?_; (case zNw76 => k_asm); (case zaw76 => assumption); (case zbw76 => assumption); (case zuw76 => ke_room)))
  k_with "key eq" => (k_here; (with_reducible show wpAny _ _ (compareOp CmpOp.Eq (Value.ref _) (Value.ref _)) _ _ _); k_dflt (refine' key_eq ?zNw465 ?zaw465 ?zbw465 ?zuw465 ?_; (case zNw465 => k_asm); (case zaw465 => assumption); (case zbw465 => assumption); (case zuw465 => ke_room)))
  k_with "compareOp Gt ref ref" => k_extra "my gt"
  k_with "compareOp Eq ref ref" => k_extra "my eq"
  k_with "len list" => (k_here; k_dflt (refine' PyProof.Rows.len_list ?zlw805 ?zfw805 ?_; (case zlw805 => exact News.isList (by k_asm) (by k_mem)); (case zfw805 => (simp only [List.size_toArray]; omega))))
  k_with "call builtin:len" => k_extra "my len"
  trivial
theorem c_turn {K : Addr} {kA kB : Nat → Int} {i j : Nat} {ti tj : Tok} {news : List (Addr × Obj)}
    (B : Below A₀ base outer h₀) (F : Fr h₀ L s.heap m) (X : (hd.heap_1 w.params).In h₀) (N : News h₀ L s.heap news) (T : Top topProg loose mean mg mb h₀) (hk : cs.kind = .function) (h1 : dp ≤ 324) (h2 : un ≤ 150)
    (hK : KeysAt news K kA kB) (hi : i < 5) (hj : j < 5)
    (ret : ∀ t h' tk', Fr h₀ L h' m → News h₀ L h' news → Q (.int (turnF kA kB i j) t) { s with heap := h', toks := tk' }) :
    wpAny (model PySem.Challenge.rw_xo0026_01.row.prog w) (ktrTop dp un gd cn cs L a ccd cl outer) (call (.ref 253) [.ref K, .int (i : Int) ti, .int (j : Int) tj]) Q E s := by
  refine lift h1 h2 ?_
  revert X; k_fill; intro X
  refine wpAny_call ?_
  k_with "my compT" => k_extra "comp T"
  k_with "my CompSrcT" => k_dflt (refine LCt.CompSrcT.range (n := j) (by rfl) (by k_asm) (by k_asm) ‹_› (small_nat hj) size_nat (by rw [PySem.sizeLine_eq]; omega) ?_; intro g'; refine' pick_each (selT kA kB i) (fun z y => ∃ t, y = Value.int (z : Int) t) ?zturn ?zfin; (case' zturn => (intro z' v' I' oI' C' oC' D' m' ys' h' tk' E' hz' hv' hC' hx' F' N' off' ne'; (obtain ⟨t9', hv9'⟩ := hv'; subst hv9'); (try simp only [Int.zero_add] at hx'); (have hz5' := Nat.lt_trans hz' hj); (try simp only [LCg.Off3, and_true] at off'); (try k_fold))); (case' zfin => (intro ys' hy'; (have hn' := Nat.le_trans (Nat.le_of_eq hy'.length) (pick_le (selT kA kB i) j)))))
  k_with "my item" => k_extra "key item"
  k_with "my len" => k_extra "len list"
  k_with "my gt" => k_extra "key gt"
  k_with "my eq" => k_extra "key eq"
  k_extra "my_enter"
  k_steps
  · rename (Picked (selT kA kB i) _ j _) => hy9
    rw [turn_len hy9]
    exact ret _ _ _ ‹_› (cb_drop ‹_› (by lcg_sub))
  all_goals first
    | exact pick_yes (by k_asm) (by k_asm) (by lcg_sub) (by first | assumption | (simp only [LCg.Off3, and_true]; assumption)) trivial (by first | exact selT_gt ‹_› | exact selT_eq ‹_› ‹_›) ⟨_, rfl⟩
    | exact pick_no (by k_asm) (by k_asm) (by lcg_sub) (by first | assumption | (simp only [LCg.Off3, and_true]; assumption)) trivial (by first | exact selT_no1 ‹_› ‹_› | exact selT_no2 ‹_› ‹_›)
end
section
variable {M : Model} {A : Around} {E : Value → Shared → Prop} {s : Shared}
theorem newCompEnv {scope : Scope} {globals : Addr} {cl : List (Str × Addr)} {qual : Str} {outer : Env} {Q : Env → Shared → Prop}
    (h : Q (newEnv scope s.heap.objs.size globals (cellsFrom (s.heap.objs.size + 1) scope.names cl) qual none .none (some outer) builtinsNs) { s with heap := pushCells (s.heap.push { cls := .type "dict", data := .dict #[] }) scope.names }) :
    wpAny M A (newFunctionEnv scope globals cl [] qual none .none (some outer)) Q E s := by
  simp only [newFunctionEnv, Option.isSome_some, if_true]
  refine wpAny_bind (wpAny_alloc ?_)
  refine wpAny_bind (wpAny_layCells _ (fun name kind cells => by cases hkc : kind == NameKind.cell <;> simp [hkc]) _ _ _ _ ?_)
  rw [show ({ s with heap := s.heap.push { cls := .type "dict", data := .dict #[] } } : Shared).heap.objs.size = s.heap.objs.size + 1 from Heap.size_push ..]
  exact wpAny_bind (wpAny_pure (wpAny_pure h))
end
inductive KEnd (h₀ : Heap) (L : Addr) (m : Str → Option Value) (s₁ : Shared) (e1 e2 e3 e4 : Addr × Obj) (R : Value → List (Addr × Obj) → Prop) (y : Value) (s₂ : Shared) : Prop
  | mk (h' : Heap) (tk : Nat) (news' : List (Addr × Obj)) (zz1 : s₂ = { s₁ with heap := h', toks := tk }) (zz2 : Fr h₀ L h' m) (zz3 : News h₀ L h' (e1 :: e2 :: e3 :: e4 :: news')) (zz4 : (∀ p ∈ news', p.1 ≠ e1.1 ∧ p.1 ≠ e2.1 ∧ p.1 ≠ e3.1 ∧ p.1 ≠ e4.1)) (zz5 : R y news') : KEnd h₀ L m s₁ e1 e2 e3 e4 R y s₂
inductive KSrc (prog : Program) (w : World) (A : Around) (h₀ : Heap) (L : Addr) (m : Str → Option Value) (env : Env) (elt : PySem.Expr) (x : Str) (scope : Scope) (cl : List (Str × Addr)) (Q : Value → Shared → Prop) (xv : Value) (s₁ : Shared) : Prop
  | mk (r : Addr) (t u v : Tok) (n : Nat) (news : List (Addr × Obj)) (J : Nat → List Value → List (Addr × Obj) → Prop) (zz1 : xv = .ref r) (zz2 : A.handled = none) (zz3 : n ≤ 10) (zz4 : Fr h₀ L s₁.heap m) (zz5 : News h₀ L s₁.heap news) (zz6 : IsRange s₁.heap r 0 (n : Int) 1 t u v) (zz7 : J 0 [] news) (zz8 : (∀ i t I oI C oC c oc D ys news' h tk (E' : Value → Shared → Prop), i < n → J i ys news' → LCg.NsObj oC (fun _ => none) → oc.data = .cell (some (.int (i : Int) t)) → Fr h₀ L h m → News h₀ L h ((I, oI) :: (C, oC) :: (c, oc) :: (D, LCg.lst ys) :: news') → (∀ p ∈ news', p.1 ≠ I ∧ p.1 ≠ C ∧ p.1 ≠ c ∧ p.1 ≠ D) → wpAny (model prog w) A (eval elt (compEnvC scope ((x, c) :: cl) C env)) (KEnd h₀ L m { s₁ with heap := h, toks := tk } (I, oI) (C, oC) (c, oc) (D, LCg.lst ys) (fun y news'' => J (i + 1) (ys ++ [y]) news'')) E' { s₁ with heap := h, toks := tk })) (zz9 : (∀ D ys news' h tk, J n ys news' → Fr h₀ L h m → News h₀ L h ((D, LCg.lst ys) :: news') → (∀ p ∈ news', p.1 ≠ D) → Q (.ref D) { s₁ with heap := h, toks := tk })) : KSrc prog w A h₀ L m env elt x scope cl Q xv s₁
noncomputable def cellObj : Obj := { cls := .type "cell", data := .cell none }
theorem lookup_relabel_cell {env : Env} : ∀ {names : List (Str × NameKind)} {x : Str}, names.lookup x = some .cell →
    (names.map fun (n, k) => if (k == NameKind.free && env.scope.kind == .function && env.kindOf n == some .cell) then (n, NameKind.cell) else (n, k)).lookup x = some .cell
  | [], _, h => by simp at h
  | (n, k) :: r, x, h => by
    have ih := @lookup_relabel_cell env r x
    show List.lookup x ((if (k == NameKind.free && env.scope.kind == .function && env.kindOf n == some .cell) = true then (n, NameKind.cell) else (n, k)) :: _) = _
    cases hx : x == n with
    | true =>
      simp only [List.lookup_cons, hx] at h
      cases h
      simp [List.lookup_cons, hx]
    | false =>
      simp only [List.lookup_cons, hx] at h
      by_cases hc : (k == NameKind.free && env.scope.kind == .function && env.kindOf n == some .cell) = true
      · rw [if_pos hc]; simp only [List.lookup_cons, hx]; exact ih h
      · rw [if_neg hc]; simp only [List.lookup_cons, hx]; exact ih h
section
variable {prog : Program} {A : Around} {E : Value → Shared → Prop} {s : Shared} {h₀ : Heap} {L : Addr} {m : Str → Option Value} {env : Env}
inductive BlkK (h₀ : Heap) (L : Addr) (m : Str → Option Value) (I C c D : Addr) (n : Nat) (J : Nat → List Value → List (Addr × Obj) → Prop) (s₂ : Shared) (k : Nat) : Shared → Prop
  | mk (h' : Heap) (tk i : Nat) (ys : List Value) (v0 : Option Value) (oC oc : Obj) (news' : List (Addr × Obj)) (hi : i ≤ n) (ek : k = n + 1 - i) (hyl : ys.length = i) (hst : IsRangeIter h' I (0 + (i : Nat) * 1) ((n : Int) - (i : Nat)) 1) (F : Fr h₀ L h' m) (hC : LCg.NsObj oC (fun _ => none)) (hcd : oc.data = .cell v0)
    (N : News h₀ L h' ((C, oC) :: (c, oc) :: (D, LCg.lst ys) :: news')) (off : ∀ p ∈ news', p.1 ≠ I ∧ p.1 ≠ C ∧ p.1 ≠ c ∧ p.1 ≠ D) (j : J i ys news') : BlkK h₀ L m I C c D n J s₂ k { s₂ with heap := h', toks := tk }
theorem block_K {elt iter : PySem.Expr} {x : Str} {px : Pos} {scope : Scope} {cl : List (Str × Addr)} {pos : Pos} {s₂ : Shared} {I : Addr} {n : Nat} {news : List (Addr × Obj)} {J : Nat → List Value → List (Addr × Obj) → Prop} {Q : Value → Shared → Prop} (hh : A.handled = none)
    (hn10 : n ≤ 10) (hkind : scope.kind = .function) (hx : scope.names.lookup x = some .cell) (hcf : ∀ n, cellsFrom n scope.names cl = (x, n) :: cl) (hpc : ∀ h, pushCells h scope.names = h.push cellObj)
    (hst : IsRangeIter s₂.heap I (0 + ((0 : Nat) : Int) * 1) ((n : Int) - ((0 : Nat) : Int)) 1) (F : Fr h₀ L s₂.heap m) (N : News h₀ L s₂.heap news) (hIL : L ≠ I) (hI₀ : h₀.get? I = none) (off : ∀ p ∈ news, p.1 ≠ I) (hJ : J 0 [] news)
    (turn : ∀ i t I oI C oC c oc D ys news' h tk (E' : Value → Shared → Prop), i < n → J i ys news' → LCg.NsObj oC (fun _ => none) → oc.data = .cell (some (.int (i : Int) t)) → Fr h₀ L h m → News h₀ L h ((I, oI) :: (C, oC) :: (c, oc) :: (D, LCg.lst ys) :: news') → (∀ p ∈ news', p.1 ≠ I ∧ p.1 ≠ C ∧ p.1 ≠ c ∧ p.1 ≠ D) →
      wpAny (model prog w) A (eval elt (compEnvC scope ((x, c) :: cl) C env)) (KEnd h₀ L m { s₂ with heap := h, toks := tk } (I, oI) (C, oC) (c, oc) (D, LCg.lst ys) (fun y news'' => J (i + 1) (ys ++ [y]) news'')) E' { s₂ with heap := h, toks := tk })
    (done : ∀ D ys news' h tk, J n ys news' → Fr h₀ L h m → News h₀ L h ((D, LCg.lst ys) :: news') → (∀ p ∈ news', p.1 ≠ D) → Q (.ref D) { s₂ with heap := h, toks := tk }) :
    wpAny (model prog w) A (newList []) (fun acc s₃ => wpAny (model prog w) A (newFunctionEnv scope env.globals cl [] env.qual none .none (some env)) (fun cenv s₄ =>
      codeAny (model prog w) A (.compStart (.ListComp elt [⟨.Name x px, iter, [], 0⟩] scope pos) 0 (.ref I) acc { cenv with scope := relabel scope env }) (compPost (model prog w) A E none Q acc cenv.locals) s₄) E s₃) E s₂ := by
  have W : Walks prog w A I [I] [I] n (fun i v => ∃ t, v = .int (0 + (i : Int)) t) (fun i h => IsRangeIter h I (0 + (i : Nat) * 1) ((n : Int) - (i : Nat)) 1) := LCg.range_walks hh 0 n
  refine wpAny_newObj_type (newCompEnv ?_)
  rw [hcf]
  simp only [hpc]
  generalize hH2 : s₂.heap.push { cls := .type "list", dict := none, data := .seq ([] : List Value).toArray } = H2
  generalize hH3 : H2.push { cls := .type "dict", data := .dict #[] } = H3
  have z2 : H2.objs.size = s₂.heap.objs.size + 1 := by rw [← hH2, Heap.size_push]
  have z3 : H3.objs.size = s₂.heap.objs.size + 2 := by rw [← hH3, Heap.size_push, z2]
  have ne : ∀ {x y : Nat}, x ≠ y → @Ne Addr x y := fun h => h
  generalize hD : s₂.heap.objs.size = D at *
  have hIlt : @LT.lt Nat _ I D := by have st' : s₂.heap.get? I = some _ := hst; have : @LT.lt Nat _ I s₂.heap.objs.size := Heap.lt_size st'; omega
  have hLlt : @LT.lt Nat _ L D := by have : @LT.lt Nat _ L s₂.heap.objs.size := F.ns.lt; omega
  have old3 : ∀ b o, s₂.heap.get? b = some o → (H3.push cellObj).get? b = some o := fun b o e => Heap.get?_push_of_some _ (hH3 ▸ Heap.get?_push_of_some _ (hH2 ▸ Heap.get?_push_of_some _ e))
  have hDo : (H3.push cellObj).get? D = some (LCg.lst []) := Heap.get?_push_of_some _ (hH3 ▸ Heap.get?_push_of_some _ (by rw [← hH2, ← hD]; exact Heap.get?_push_size _ rfl))
  obtain ⟨oC0, hCo, hCn⟩ : ∃ oC, (H3.push cellObj).get? H2.objs.size = some oC ∧ LCg.NsObj oC (fun _ => none) :=
    LCg.ns_obj ((hH3 ▸ Heap.Ns.new H2 (.type "dict") : H3.Ns H2.objs.size fun _ => none).keeps fun b o e => Heap.get?_push_of_some _ e)
  have hco : (H3.push cellObj).get? H3.objs.size = some cellObj := Heap.get?_push_size _ rfl
  have fresh₀ : ∀ a : Addr, @LE.le Nat _ D a → h₀.get? a = none := fun a ha => by
    cases e : h₀.get? a with
    | none => rfl
    | some o' => exact absurd (Heap.lt_size (F.keep a o' e)) (by rw [hD]; exact Nat.not_lt.mpr ha)
  have hD₀ := fresh₀ D (Nat.le_refl _)
  have hC₀ := fresh₀ H2.objs.size (by omega)
  have hc₀ := fresh₀ H3.objs.size (by omega)
  generalize hcn : H3.objs.size = c at *
  generalize hCn' : H2.objs.size = C at *
  have loop : codeAny (model prog w) A (.compLoop (.ListComp elt [⟨.Name x px, iter, [], 0⟩] scope pos) 0 (.ref I) (.ref D) (compEnvC scope ((x, c) :: cl) C env))
        (compPost (model prog w) A E none Q (.ref D) C) { s₂ with heap := H3.push cellObj } := by
    refine codeAny_compLoop_tests
      (BlkK h₀ L m I C c D n J s₂) ?_ (n + 1)
      (.mk (H3.push cellObj) _ 0 [] none oC0 cellObj news (Nat.zero_le _) rfl rfl (old3 _ _ hst) (F.keeps old3) hCn rfl ?_ ?_ hJ)
    · intro k s' hB
      k_fold
      obtain ⟨h', tk, i, ys, v0, oC, oc, news', hi, rfl, hyl, hst', F', hCn', hcd, N', off', hJ'⟩ := hB
      by_cases hlt : i < n
      · refine W.item i _ _ _ hlt hst' fun v h₂ tk₂ hPv hst₂ hk₂ => ?_
        obtain ⟨tv, rfl⟩ := hPv
        rw [Int.zero_add]
        have k2 : ∀ b o, b ≠ I → h'.get? b = some o → h₂.get? b = some o := fun b o hb e => hk₂ b o (by simpa using hb) e
        have zc : h₂.get? c = some oc := k2 _ _ (ne (by omega)) (N' (c, oc) (.tail _ (.head _))).1
        refine wpAny_assign_Name (wpAny_storeName_cell (by simp [compEnvC, relabel, hkind]) (lookup_relabel_cell hx) (by simp [compEnvC]) ⟨oc, zc, hcd⟩ (fun h₃ hc₃ hs₃ => ?_))
        obtain ⟨oc3, hoc3, hd3⟩ := hc₃
        refine wpAny_tests_nil ?_
        rw [if_pos rfl]
        have k3 : ∀ b o, b ≠ I → b ≠ c → h'.get? b = some o → h₃.get? b = some o := fun b o hb hb' e => hs₃.extBut b o hb' (k2 b o hb e)
        have st₂ : h₂.get? I = some _ := hst₂
        obtain ⟨oI, st₃, hoI⟩ : ∃ oI, h₃.get? I = some oI ∧ ∀ h'' : Heap, h''.get? I = some oI → IsRangeIter h'' I (0 + ((i + 1 : Nat) : Int) * 1) ((n : Int) - ((i + 1 : Nat) : Int)) 1 := ⟨_, hs₃.extBut _ _ (ne (by omega)) st₂, fun _ e => e⟩
        have F₃ : Fr h₀ L h₃ m := (LCg.fr_but F' hk₂ hIL hI₀).change hs₃ (ne (by omega)) hc₀
        have N₃ : News h₀ L h₃ ((I, oI) :: (C, oC) :: (c, oc3) :: (D, LCg.lst ys) :: news') := by
          refine List.forall_mem_cons.mpr ⟨⟨st₃, Ne.symm hIL, hI₀⟩, List.forall_mem_cons.mpr ⟨⟨k3 _ _ (ne (by omega)) (ne (by omega)) (N' (C, oC) (.head _)).1, ne (by omega), hC₀⟩, List.forall_mem_cons.mpr ⟨⟨hoc3, ne (by omega), hc₀⟩,
            List.forall_mem_cons.mpr ⟨⟨k3 _ _ (ne (by omega)) (ne (by omega)) (N' (D, LCg.lst ys) (.tail _ (.tail _ (.head _)))).1, ne (by omega), hD₀⟩, fun p hp => ?_⟩⟩⟩⟩
          obtain ⟨q1, q2, q3, q4⟩ := off' p hp
          have := N' p (.tail _ (.tail _ (.tail _ hp)))
          exact ⟨k3 _ _ q1 q3 this.1, this.2⟩
        refine wpAny_mono (turn i tv I oI C oC c oc3 D ys news' h₃ _ _ hlt hJ' hCn' hd3 F₃ N₃ off') (fun y s₄ h₄ => ?_) fun _ _ e => e
        obtain ⟨h₄, tk₄, news₄, rfl, F₄, N₄, off₄, hJ₄⟩ := h₄
        have zI := (N₄ (I, oI) (.head _)).1
        have zD := (N₄ (D, LCg.lst ys) (.tail _ (.tail _ (.tail _ (.head _))))).1
        refine append_at (hsz := by rw [List.size_toArray, hyl, PySem.sizeLine_eq]; omega) zD fun h₅ hs₅ hD₅ => ?_
        have k5 : ∀ b o, b ≠ D → h₄.get? b = some o → h₅.get? b = some o := fun b o hb e => hs₅.extBut b o hb e
        refine ⟨n + 1 - (i + 1), by omega, .mk h₅ tk₄ (i + 1) (ys ++ [y]) _ oC oc3 news₄ hlt rfl (by rw [List.length_append, List.length_singleton, hyl]) (hoI _ (k5 _ _ (ne (by omega)) zI)) (F₄.change hs₅ (ne (by omega)) hD₀) hCn' hd3 ?_ off₄ hJ₄⟩
        refine List.forall_mem_cons.mpr ⟨⟨k5 _ _ (ne (by omega)) (N₄ (C, oC) (.tail _ (.head _))).1, ne (by omega), hC₀⟩, List.forall_mem_cons.mpr ⟨⟨k5 _ _ (ne (by omega)) (N₄ (c, oc3) (.tail _ (.tail _ (.head _)))).1, ne (by omega), hc₀⟩,
            List.forall_mem_cons.mpr ⟨⟨hD₅.trans (congrArg some (LCg.lst_snoc ys y)), ne (by omega), hD₀⟩, fun p hp => ?_⟩⟩⟩
        have := N₄ p (.tail _ (.tail _ (.tail _ (.tail _ hp))))
        exact ⟨k5 _ _ (off₄ p hp).2.2.2 this.1, this.2⟩
      · rw [Nat.le_antisymm hi (Nat.not_lt.mp hlt)] at hst' hJ'
        refine W.done _ _ _ hst' fun h₂ tk₂ hk₂ => ?_
        have k2 : ∀ b o, b ≠ I → h'.get? b = some o → h₂.get? b = some o := fun b o hb e => hk₂ b o (by simpa using hb) e
        have F₂ := LCg.fr_but F' hk₂ hIL hI₀
        have zC : h₂.get? C = some oC := k2 _ _ (ne (by omega)) (N' (C, oC) (.head _)).1
        refine ⟨_, hCn'.ns zC, fun h'' hs'' => done D ys news' h'' tk₂ hJ' (F₂.change hs'' (ne (by omega)) hC₀) (List.forall_mem_cons.mpr ⟨⟨hs''.extBut _ _ (ne (by omega)) (k2 _ _ (ne (by omega)) (N' (D, LCg.lst ys) (.tail _ (.tail _ (.head _)))).1), ne (by omega), hD₀⟩, fun p hp => ?_⟩) fun p hp => (off' p hp).2.2.2⟩
        obtain ⟨q1, q2, q3, q4⟩ := off' p hp
        have := N' p (.tail _ (.tail _ (.tail _ hp)))
        exact ⟨hs''.extBut _ _ q2 (k2 _ _ q1 this.1), this.2⟩
    · refine List.forall_mem_cons.mpr ⟨⟨hCo, ne (by omega), hC₀⟩, List.forall_mem_cons.mpr ⟨⟨hco, ne (by omega), hc₀⟩, List.forall_mem_cons.mpr ⟨⟨hDo, ne (by omega), hD₀⟩, fun p hp => ⟨old3 _ _ (N p hp).1, (N p hp).2⟩⟩⟩⟩
    · intro p hp
      have h9 : @LT.lt Nat _ p.1 s₂.heap.objs.size := Heap.lt_size (N p hp).1
      have l : @LT.lt Nat _ p.1 D := by omega
      exact ⟨off p hp, ne (by omega), ne (by omega), ne (by omega)⟩
  have e1 : (C + 1 : Nat) = c := by omega
  rw [e1]
  exact codeAny_compStart_list loop (W.self 0 _ _ _ (old3 _ _ hst) loop)
theorem ListComp_K {elt iter : PySem.Expr} {x : Str} {px : Pos} {scope : Scope} {cl : List (Str × Addr)} {pos : Pos} {Q : Value → Shared → Prop} (F₀ : Fr h₀ L s.heap m)
    (hclos : closureFor scope env = pure cl) (hkind : scope.kind = .function)
    (hnames : ∀ y ∈ scope.names, y.2 = .local → scope.names.lookup y.1 = some .local) (hx : scope.names.lookup x = some .cell)
    (hcf : ∀ n, cellsFrom n scope.names cl = (x, n) :: cl) (hpc : ∀ h, pushCells h scope.names = h.push cellObj)
    (h : wpAny (model prog w) A (eval iter env) (KSrc prog w A h₀ L m env elt x scope cl Q) E s)
    (hs : ∀ x, foldedSetIterable iter env x = pure x := by intro _; rfl) :
    wpAny (model prog w) A (eval (.ListComp elt [⟨.Name x px, iter, [], 0⟩] scope pos) env) Q E s := by
  rw [eval_ListComp]
  refine wpAny_comprehension_free (use := none) rfl hs hclos hkind hnames (wpAny_mono h (fun xv s₁ h₁ => ?_) fun _ _ e => e)
  obtain ⟨r, t, u, v, n, news, J, rfl, hh, hn10, F, N, hr, hJ, turn, done⟩ := h₁
  refine wpAny_pyIter_range hr (small_one (by decide) (by decide) (by omega) (by omega)) ?_
  rw [show Builtin.Range.rangeSize 0 (n : Int) 1 = (n : Int) from by rw [rangeSize_nat]; simp]
  have W : Walks prog w A s₁.heap.objs.size [s₁.heap.objs.size] [s₁.heap.objs.size] n (fun i v => ∃ t, v = .int (0 + (i : Int)) t)
      (fun i h => IsRangeIter h s₁.heap.objs.size (0 + (i : Nat) * 1) ((n : Int) - (i : Nat)) 1) := LCg.range_walks hh 0 n
  refine block_K hh hn10 hkind hx hcf hpc (by show IsRangeIter _ _ _ _ _; simpa using Heap.get?_push_size _ rfl) (F.push _) (fun p hp => ⟨Heap.get?_push_of_some _ (N p hp).1, (N p hp).2⟩) (Nat.ne_of_lt F.ns.lt) (next_is_new F) (fun p hp => Nat.ne_of_lt (Heap.lt_size (N p hp).1)) hJ ?_ ?_
  · intro i t I oI C oC c oc D ys news' h tk E' h1 h2 h3 h4 h5 h6 h7
    exact turn i t I oI C oC c oc D ys news' h tk E' h1 h2 h3 h4 h5 h6 h7
  · intro D ys news' h tk h1 h2 h3 h4
    exact done D ys news' h tk h1 h2 h3 h4
end
noncomputable def runB {α : Type} (lt : Nat → Nat → Bool) : KasT α → Option α
  | .ret a => some a
  | .ask i j k => if i < 5 ∧ j < 5 then runB lt (k (lt i j)) else none
theorem runB_wp {α : Type} {lt : Nat → Nat → Bool} {cmp : Nat → Nat → (Bool → Shared → Prop) → Shared → Prop} {Q : α → Shared → Prop} {p : α} {s : Shared} (hc : ∀ i j, i < 5 → j < 5 → ∀ C : Bool → Shared → Prop, C (lt i j) s → cmp i j C s) :
    ∀ t : KasT α, runB lt t = some p → Q p s → t.kasWp cmp Q s
  | .ret a, h, q => by cases h; exact q
  | .ask i j k, h, q => by
    unfold runB at h
    split at h
    · rename_i hij
      exact hc i j hij.1 hij.2 _ (runB_wp hc (k (lt i j)) h q)
    · cases h
noncomputable def rk (lt : Nat → Nat → Bool) (i : Nat) : Nat := ((List.range 5).filter fun j => lt j i).length
theorem rk_lt {lt : Nat → Nat → Bool} (irr : ∀ i, i < 5 → lt i i = false) (tr : ∀ i j k, i < 5 → j < 5 → k < 5 → lt i j = true → lt k i = true → lt k j = true) (neg : ∀ i j k, i < 5 → j < 5 → k < 5 → lt i j = false → lt k j = true → lt k i = true) {i j : Nat} (hi : i < 5) (hj : j < 5) : lt i j = Nat.blt (rk lt i) (rk lt j) := by
  have sub : ∀ {l : List Nat} {p q : Nat → Bool}, (∀ k ∈ l, p k = true → q k = true) → (l.filter p).length ≤ (l.filter q).length := by
    intro l p q h
    induction l with
    | nil => exact Nat.le_refl _
    | cons a r ih =>
      have := ih fun k hk => h k (.tail _ hk)
      have ha := h a (.head _)
      rw [List.filter_cons, List.filter_cons]
      cases hp : p a <;> cases hq : q a
      · simpa using this
      · simp; omega
      · exact absurd (ha hp) (by rw [hq]; decide)
      · simpa using this
  have sub1 : ∀ {l : List Nat} {p q : Nat → Bool} {x : Nat}, (∀ k ∈ l, p k = true → q k = true) → x ∈ l → p x = false → q x = true → (l.filter p).length < (l.filter q).length := by
    intro l p q x h hx hp hq
    induction l with
    | nil => cases hx
    | cons a r ih =>
      have hr : ∀ k ∈ r, p k = true → q k = true := fun k hk => h k (.tail _ hk)
      have ha := h a (.head _)
      rw [List.filter_cons, List.filter_cons]
      rcases List.mem_cons.mp hx with rfl | hx
      · have := sub hr
        rw [hp, hq]; simp; omega
      · have := ih hr hx
        cases hpa : p a <;> cases hqa : q a
        · simpa using this
        · simp; omega
        · exact absurd (ha hpa) (by rw [hqa]; decide)
        · simpa using this
  have m : ∀ {k}, k ∈ List.range 5 → k < 5 := fun h => List.mem_range.mp h
  cases h : lt i j with
  | true =>
    have : rk lt i < rk lt j := sub1 (x := i) (fun k hk hp => tr i j k hi hj (m hk) h hp) (List.mem_range.mpr hi) (irr i hi) h
    exact (Nat.blt_eq.mpr this).symm
  | false =>
    have : rk lt j ≤ rk lt i := sub fun k hk hp => neg i j k hi hj (m hk) h hp
    exact (Bool.eq_false_iff.mpr fun e => absurd (Nat.blt_eq.mp e) (by omega)).symm
theorem rk_le {lt : Nat → Nat → Bool} {i : Nat} : rk lt i < 6 := Nat.lt_succ_of_le (Nat.le_trans (List.length_filter_le _ _) (Nat.le_of_eq List.length_range))
theorem rk_lt5 {lt : Nat → Nat → Bool} (irr : ∀ i, i < 5 → lt i i = false) {i : Nat} (hi : i < 5) : rk lt i < 5 := by
  unfold rk
  have h1 : ((List.range 5).filter fun j => lt j i).length ≤ ((List.range 5).filter fun j => decide (j ≠ i)).length := by
    have sub : ∀ {l : List Nat} {p q : Nat → Bool}, (∀ k ∈ l, p k = true → q k = true) → (l.filter p).length ≤ (l.filter q).length := by
      intro l p q h
      induction l with
      | nil => exact Nat.le_refl _
      | cons a r ih =>
        have := ih fun k hk => h k (.tail _ hk)
        have ha := h a (.head _)
        rw [List.filter_cons, List.filter_cons]
        cases hp : p a <;> cases hq : q a
        · simpa using this
        · simp; omega
        · exact absurd (ha hp) (by rw [hq]; decide)
        · simpa using this
    exact sub fun k _ hp => decide_eq_true fun e => by rw [e, irr i hi] at hp; cases hp
  have h2 : ((List.range 5).filter fun j => decide (j ≠ i)).length = 4 := by
    have : i = 0 ∨ i = 1 ∨ i = 2 ∨ i = 3 ∨ i = 4 := by omega
    rcases this with rfl | rfl | rfl | rfl | rfl <;> rfl
  omega
theorem runB_congr {α : Type} {l1 l2 : Nat → Nat → Bool} (h : ∀ i j, i < 5 → j < 5 → l1 i j = l2 i j) : ∀ t : KasT α, runB l1 t = runB l2 t
  | .ret a => rfl
  | .ask i j k => by
    unfold runB
    split
    · rename_i hij
      rw [h i j hij.1 hij.2]
      exact runB_congr h _
    · rfl
noncomputable def chkS (r : Nat → Nat) : Bool := match runB (fun i j => Nat.blt (r i) (r j)) (kas_sort 5) with
  | none => false
  | some p => p.toList == (List.range 5).foldl (fun l x => putIn (fun i j => Nat.blt (r j) (r i)) x l) [] && (p.toList.length == 5 && (p.toList.all (fun k => Nat.blt k 5)) &&
    (List.range 5).all fun i => Nat.blt (r i) 5 && ((p.toList.map r).getD (r i) 9 == r i && (List.range (r i)).all fun m => Nat.blt ((p.toList.map r).getD m 9) (r i)))
noncomputable def canon (r : Nat → Nat) : Bool := (List.range 5).all fun i => Nat.beq (r i) ((List.range 5).filter fun j => Nat.blt (r j) (r i)).length
noncomputable def chkS1 (r : Nat → Nat) : Bool := bif canon r then chkS r else true
noncomputable def chkS5 (a b c d : Nat) : Bool := chkS1 (pick a b c d 0) && (chkS1 (pick a b c d 1) && (chkS1 (pick a b c d 2) && (chkS1 (pick a b c d 3) && chkS1 (pick a b c d 4))))
set_option maxRecDepth 100000 in
theorem chkS_all : ((List.range 5).all fun a => (List.range 5).all fun b => (List.range 5).all fun c => (List.range 5).all fun d => chkS5 a b c d) = true := all5 (by decide +kernel) (by decide +kernel) (by decide +kernel) (by decide +kernel) (by decide +kernel)
theorem pick_of {f : Nat → Nat} {i : Nat} (hi : i < 5) : pick (f 0) (f 1) (f 2) (f 3) (f 4) i = f i := by
  have : i = 0 ∨ i = 1 ∨ i = 2 ∨ i = 3 ∨ i = 4 := by omega
  rcases this with rfl | rfl | rfl | rfl | rfl <;> rfl
theorem chkS_of {f : Nat → Nat} (h : ∀ i, i < 5 → f i < 5) : chkS1 (pick (f 0) (f 1) (f 2) (f 3) (f 4)) = true := by
  have h1 := List.all_eq_true.mp chkS_all (f 0) (List.mem_range.mpr (h 0 (by decide)))
  have h2 := List.all_eq_true.mp h1 (f 1) (List.mem_range.mpr (h 1 (by decide)))
  have h3 := List.all_eq_true.mp h2 (f 2) (List.mem_range.mpr (h 2 (by decide)))
  have h4 := List.all_eq_true.mp h3 (f 3) (List.mem_range.mpr (h 3 (by decide)))
  unfold chkS5 at h4
  simp only [Bool.and_eq_true] at h4
  have h5 := h 4 (by decide)
  have : f 4 = 0 ∨ f 4 = 1 ∨ f 4 = 2 ∨ f 4 = 3 ∨ f 4 = 4 := by omega
  rcases this with e | e | e | e | e <;> rw [e]
  · exact h4.1
  · exact h4.2.1
  · exact h4.2.2.1
  · exact h4.2.2.2.1
  · exact h4.2.2.2.2
structure Weak (lt : Nat → Nat → Bool) : Prop where
  irr : ∀ i, i < 5 → lt i i = false
  tr : ∀ i j k, i < 5 → j < 5 → k < 5 → lt i j = true → lt k i = true → lt k j = true
  neg : ∀ i j k, i < 5 → j < 5 → k < 5 → lt i j = false → lt k j = true → lt k i = true
theorem Weak.rank {lt : Nat → Nat → Bool} (W : Weak lt) {i j : Nat} (hi : i < 5) (hj : j < 5) : lt i j = Nat.blt (rk lt i) (rk lt j) := rk_lt W.irr W.tr W.neg hi hj
theorem Weak.isCanon {lt : Nat → Nat → Bool} (W : Weak lt) : canon (pick (rk lt 0) (rk lt 1) (rk lt 2) (rk lt 3) (rk lt 4)) = true := by
  refine List.all_eq_true.mpr fun i hi => ?_
  have hi' := List.mem_range.mp hi
  rw [pick_of (f := rk lt) hi']
  refine Nat.beq_eq.mpr ?_ 
  show ((List.range 5).filter fun j => lt j i).length = _
  congr 1
  refine List.filter_congr fun j hj => ?_
  have hj' := List.mem_range.mp hj
  rw [pick_of (f := rk lt) hj', W.rank hj' hi']
theorem putIn_congr {g1 g2 : Nat → Nat → Bool} (h : ∀ i j, i < 5 → j < 5 → g1 i j = g2 i j) {x : Nat} (hx : x < 5) : ∀ l : List Nat, (∀ y ∈ l, y < 5) → putIn g1 x l = putIn g2 x l
  | [], _ => rfl
  | y :: r, hl => by
    unfold putIn
    rw [h y x (hl y (.head _)) hx, putIn_congr h hx r fun z hz => hl z (.tail _ hz)]
theorem putIn_lt {g : Nat → Nat → Bool} {x : Nat} (hx : x < 5) : ∀ l : List Nat, (∀ y ∈ l, y < 5) → ∀ y ∈ putIn g x l, y < 5
  | [], _, y, hy => by rw [List.mem_singleton.mp hy]; exact hx
  | z :: r, hl, y, hy => by
    unfold putIn at hy
    split at hy
    · rcases List.mem_cons.mp hy with rfl | hy
      · exact hx
      · exact hl y hy
    · rcases List.mem_cons.mp hy with rfl | hy
      · exact hl _ (.head _)
      · exact putIn_lt hx r (fun z hz => hl z (.tail _ hz)) y hy
noncomputable def stable (g : Nat → Nat → Bool) : List Nat := (List.range 5).foldl (fun l x => putIn g x l) []
theorem stable_congr {g1 g2 : Nat → Nat → Bool} (h : ∀ i j, i < 5 → j < 5 → g1 i j = g2 i j) : stable g1 = stable g2 := by
  have key : ∀ (xs l : List Nat), (∀ x ∈ xs, x < 5) → (∀ y ∈ l, y < 5) → xs.foldl (fun l x => putIn g1 x l) l = xs.foldl (fun l x => putIn g2 x l) l := by
    intro xs
    induction xs with
    | nil => intro l _ _; rfl
    | cons x r ih =>
      intro l hx hl
      rw [List.foldl_cons, List.foldl_cons, putIn_congr h (hx x (.head _)) l hl]
      exact ih _ (fun z hz => hx z (.tail _ hz)) (putIn_lt (hx x (.head _)) l hl)
  exact key _ _ (fun x hx => List.mem_range.mp hx) (fun y hy => nomatch hy)
theorem sort5 {lt : Nat → Nat → Bool} (W : Weak lt) : ∃ p, runB lt (kas_sort 5) = some p ∧ p.toList = stable (fun i j => lt j i) ∧ p.toList.length = 5 ∧ (∀ k ∈ p.toList, k < 5) ∧
    ∀ i, i < 5 → rk lt i < 5 ∧ (∀ k, p.toList[rk lt i]? = some k → lt k i = false ∧ lt i k = false) ∧ ∀ m k, m < rk lt i → p.toList[m]? = some k → lt k i = true := by
  have h := chkS_of (f := rk lt) fun i hi => rk_lt5 W.irr hi
  unfold chkS1 at h
  rw [W.isCanon, cond_true] at h
  unfold chkS at h
  rw [runB_congr (l2 := lt) fun i j hi hj => by rw [pick_of (f := rk lt) hi, pick_of (f := rk lt) hj, W.rank hi hj]] at h
  cases e : runB lt (kas_sort 5) with
  | none => rw [e] at h; cases h
  | some p =>
    rw [e] at h
    simp only [Bool.and_eq_true, beq_iff_eq, List.all_eq_true] at h
    obtain ⟨h1, ⟨h2, h3⟩, h4⟩ := h
    have h3' : ∀ k ∈ p.toList, k < 5 := fun k hk => Nat.blt_eq.mp (h3 k hk)
    refine ⟨p, rfl, h1.trans (stable_congr fun i j hi hj => by rw [pick_of (f := rk lt) hi, pick_of (f := rk lt) hj, W.rank hj hi]), h2, h3', fun i hi => ?_⟩
    obtain ⟨a1, a2, a3⟩ := h4 i (List.mem_range.mpr hi)
    rw [pick_of (f := rk lt) hi] at a1 a2 a3
    have at' : ∀ {m k : Nat}, p.toList[m]? = some k → (p.toList.map (pick (rk lt 0) (rk lt 1) (rk lt 2) (rk lt 3) (rk lt 4))).getD m 9 = rk lt k := fun {m k} hk => by
      rw [List.getD_eq_getElem?_getD, List.getElem?_map, hk]
      exact pick_of (f := rk lt) (h3' k (List.mem_of_getElem? hk))
    refine ⟨Nat.blt_eq.mp a1, fun k hk => ?_, fun m k hm hk => ?_⟩
    · have k5 := h3' k (List.mem_of_getElem? hk)
      rw [at' hk] at a2
      rw [W.rank k5 hi, W.rank hi k5, a2]
      have z : ∀ a, Nat.blt a a = false := fun a => Bool.eq_false_iff.mpr fun e => Nat.lt_irrefl _ (Nat.blt_eq.mp e)
      exact ⟨z _, z _⟩
    · have k5 := h3' k (List.mem_of_getElem? hk)
      have := a3 m (List.mem_range.mpr hm)
      rw [at' hk] at this
      rw [W.rank k5 hi]; exact this
structure Srt (lt : Nat → Nat → Bool) (p : List Nat) : Prop where
  eq : p = stable (fun i j => lt j i)
  len : p.length = 5
  lt5 : ∀ k ∈ p, k < 5
  idx : ∀ i, i < 5 → rk lt i < 5 ∧ (∀ k, p[rk lt i]? = some k → lt k i = false ∧ lt i k = false) ∧ ∀ m k, m < rk lt i → p[m]? = some k → lt k i = true
theorem Weak.srt {lt : Nat → Nat → Bool} (W : Weak lt) : ∃ p, runB lt (kas_sort 5) = some p ∧ Srt lt p.toList := by
  obtain ⟨p, h1, h2, h3, h4, h5⟩ := sort5 W
  exact ⟨p, h1, h2, h3, h4, h5⟩
noncomputable def ltF (f : Nat → Str) (i j : Nat) : Bool := decide ((f i).cps.toList < (f j).cps.toList)
noncomputable def ltI (v : Nat → Int) (i j : Nat) : Bool := decide (v i < v j)
theorem weakF (f : Nat → Str) : Weak (ltF f) where
  irr i _ := decide_eq_false (List.lt_irrefl _)
  tr i j k _ _ _ h1 h2 := decide_eq_true (List.lt_trans (of_decide_eq_true h2) (of_decide_eq_true h1))
  neg i j k _ _ _ h1 h2 := decide_eq_true (by
    have a : ¬(f i).cps.toList < (f j).cps.toList := of_decide_eq_false h1
    have b : (f k).cps.toList < (f j).cps.toList := of_decide_eq_true h2
    exact Decidable.byContradiction fun h => a (List.lt_of_le_of_lt (List.not_lt.mp h) b))
theorem weakI (v : Nat → Int) : Weak (ltI v) where
  irr i _ := decide_eq_false (Int.lt_irrefl _)
  tr i j k _ _ _ h1 h2 := decide_eq_true (Int.lt_trans (of_decide_eq_true h2) (of_decide_eq_true h1))
  neg i j k _ _ _ h1 h2 := decide_eq_true (by
    have a := of_decide_eq_false h1
    have b := of_decide_eq_true h2
    omega)
theorem getD5 {α : Type} {f : Nat → α} {d : α} {i : Nat} (hi : i < 5) : ([f 0, f 1, f 2, f 3, f 4] : List α).getD i d = f i := by
  have : i = 0 ∨ i = 1 ∨ i = 2 ∨ i = 3 ∨ i = 4 := by omega
  rcases this with rfl | rfl | rfl | rfl | rfl <;> rfl
section
variable {prog : Program} {A : Around} {E : Value → Shared → Prop} {s : Shared} {h₀ : Heap} {L : Addr} {m : Str → Option Value} {news : List (Addr × Obj)}
theorem sorted_texts {l : Addr} {f : Nat → Str} {t : Nat → Tok} {Q : Value → Shared → Prop} (F : Fr h₀ L s.heap m) (N : News h₀ L s.heap news) (hl : s.heap.IsList l (List.toArray [.str (f 0) (t 0), .str (f 1) (t 1), .str (f 2) (t 2), .str (f 3) (t 3), .str (f 4) (t 4)]))
    (h : ∀ D p c h', Fr h₀ L h' m → News h₀ L h' ((D, PySem.W.listOf (List.toArray (p.map fun k => Value.str (f k) (t k))) c) :: news) → (∀ q ∈ news, @LT.lt Nat _ q.1 D) → Srt (ltF f) p → Q (.ref D) { s with heap := h' }) :
    wpAny (model prog w) A (call (.builtin "sorted") [.ref l]) Q E s := by
  refine kas_sorted (T := .type "str") F N hl (Nat.le_of_ble_eq_true rfl) (Nat.le_of_ble_eq_true rfl) (fun h' _ _ v hv => ?_) rfl fun D e1 h' F' N' hD => ?_
  · simp only [List.mem_cons, List.not_mem_nil, or_false] at hv
    rcases hv with rfl | rfl | rfl | rfl | rfl <;> exact Looks.of_pure rfl
  · obtain ⟨p, hp, hS⟩ := (weakF f).srt
    refine runB_wp (lt := ltF f) (fun i j hi hj C hC => ?_) _ hp ?_
    · unfold kas_ask
      rw [getD5 (f := fun k => Value.str (f k) (t k)) hi, getD5 (f := fun k => Value.str (f k) (t k)) hj]
      exact kas_lt_str hC
    · refine KasFin.intro F' N' (g := fun o => (D, o) :: news) ?_ fun h'' c F'' N'' => ?_
      · exact UpdF.head fun q hq => Nat.ne_of_lt (hD q hq)
      · refine h D p.toList c h'' F'' ?_ hD hS
        rw [show (p.toList.map fun k => Value.str (f k) (t k)) = p.toList.map fun i => ([Value.str (f 0) (t 0), .str (f 1) (t 1), .str (f 2) (t 2), .str (f 3) (t 3), .str (f 4) (t 4)] : List Value).getD i Value.none from
          List.map_congr_left fun k hk => (getD5 (f := fun k => Value.str (f k) (t k)) (hS.lt5 k hk)).symm]
        exact N''
theorem index_first {D : Addr} {vs : List Value} {c j : Nat} {x : Value} (e : Value → Bool) {Q : Value → Shared → Prop} (N : News h₀ L s.heap news) (hm : (D, PySem.W.listOf (List.toArray vs) c) ∈ news) (hj : j < vs.length) (hz : vs.length ≤ 1000)
    (he : ∀ y ∈ vs, SeqAt.EqAt A.in1 s y x (e y)) (hit : ∀ y, vs[j]? = some y → e y = true) (hno : ∀ m y, m < j → vs[m]? = some y → e y = false) (h : Q (.int (j : Int) s.toks) { s with toks := s.toks + 1 }) :
    wpAny (model prog w) A (call (.builtin "list.index") [.ref D, x]) Q E s := by
  have ho := (N _ hm).1
  refine call_meets PySem.F.slot_list_index ⟨_, ho, rfl⟩ PySem.F.entry_list_index (PySem.F.args_list_index_2 _ _)
    (SeqAt.list_indexAt D vs.toArray c none #[] x e j (by simpa using hj) (by omega) (hit _ (by rw [List.getElem?_eq_getElem hj]; simp)) fun m hm' hlt => hno m _ hlt (by rw [List.getElem?_eq_getElem (by simpa using hm')]; simp)) ⟨ho, fun y hy => he y (by simpa using hy), h⟩
theorem index_text {D : Addr} {p : List Nat} {f : Nat → Str} {t : Nat → Tok} {c i : Nat} {u : Tok} {Q : Value → Shared → Prop} (N : News h₀ L s.heap news) (hm : (D, PySem.W.listOf (List.toArray (p.map fun k => Value.str (f k) (t k))) c) ∈ news) (hS : Srt (ltF f) p) (hi : i < 5)
    (h : Q (.int ((rk (ltF f) i : Nat) : Int) s.toks) { s with toks := s.toks + 1 }) : wpAny (model prog w) A (call (.builtin "list.index") [.ref D, .str (f i) u]) Q E s := by
  obtain ⟨h5, h1, h2⟩ := hS.idx i hi
  refine index_first (fun y => match y with | .str a _ => a == f i | _ => false) N hm (by rw [List.length_map, hS.len]; exact h5) (by rw [List.length_map, hS.len]; decide) (fun y hy => ?_) (fun y hy => ?_) (fun m y hm' hy => ?_) h
  · obtain ⟨k, _, rfl⟩ := List.mem_map.mp hy
    exact SeqAt.EqAt.str_str _ _ _ _
  · rw [List.getElem?_map, Option.map_eq_some_iff] at hy
    obtain ⟨k, hk, rfl⟩ := hy
    obtain ⟨a, b⟩ := h1 k hk
    refine beq_iff_eq.mpr ?_
    have a' : ¬(f k).cps.toList < (f i).cps.toList := of_decide_eq_false a
    have b' : ¬(f i).cps.toList < (f k).cps.toList := of_decide_eq_false b
    have e := List.le_antisymm (List.not_lt.mp b') (List.not_lt.mp a')
    cases hf : f k with | mk x => cases hf' : f i with | mk y => rw [hf, hf'] at e; congr 1; exact Array.toList_inj.mp e
  · rw [List.getElem?_map, Option.map_eq_some_iff] at hy
    obtain ⟨k, hk, rfl⟩ := hy
    have := of_decide_eq_true (h2 m k hm' hk)
    refine beq_eq_false_iff_ne.mpr fun e => ?_
    rw [e] at this
    exact List.lt_irrefl _ this
end
theorem sorted_count {x : Int} : ∀ {a : List Int}, a.Pairwise (· ≤ ·) → x ∈ a → a[(a.filter fun y => decide (y < x)).length]? = some x ∧ ∀ m y, m < (a.filter fun y => decide (y < x)).length → a[m]? = some y → y < x
  | y :: r, hs, hx => by
    obtain ⟨h1, h2⟩ := List.pairwise_cons.mp hs
    by_cases hy : y < x
    · have hr : x ∈ r := by
        rcases List.mem_cons.mp hx with rfl | h
        · exact absurd hy (Int.lt_irrefl _)
        · exact h
      obtain ⟨i1, i2⟩ := sorted_count h2 hr
      rw [List.filter_cons, if_pos (decide_eq_true hy), List.length_cons]
      refine ⟨i1, fun m z hm hz => ?_⟩
      cases m with
      | zero => cases hz; exact hy
      | succ m => exact i2 m z (by omega) hz
    · have e : r.filter (fun z => decide (z < x)) = [] := by
        rw [List.filter_eq_nil_iff]
        intro z hz
        have := h1 z hz
        simp only [decide_eq_true_eq]; omega
      rw [List.filter_cons, if_neg (by simpa using hy), e]
      refine ⟨?_, fun m z hm => by simp at hm⟩
      rcases List.mem_cons.mp hx with rfl | h
      · rfl
      · have := h1 x h
        show some y = some x
        rw [show y = x by omega]
theorem rk_ints {v : Nat → Int} {a : List Int} (hp : a.Perm [v 0, v 1, v 2, v 3, v 4]) {i : Nat} : (a.filter fun y => decide (y < v i)).length = rk (ltI v) i := by
  rw [(hp.filter _).length_eq]
  unfold rk ltI
  show (([0, 1, 2, 3, 4].map v).filter fun y => decide (y < v i)).length = _
  rw [List.filter_map, List.length_map]
  rfl
section
variable {prog : Program} {A : Around} {E : Value → Shared → Prop} {s : Shared} {h₀ : Heap} {L : Addr} {m : Str → Option Value} {news : List (Addr × Obj)}
theorem index_int {D : Addr} {vs : List Value} {a : List Int} {v : Nat → Int} {c i : Nat} {u : Tok} {Q : Value → Shared → Prop} (N : News h₀ L s.heap news) (hm : (D, PySem.W.listOf (List.toArray vs) c) ∈ news) (ha : IntsAre vs a) (hp : a.Perm [v 0, v 1, v 2, v 3, v 4]) (hs : a.Pairwise (· ≤ ·)) (hi : i < 5)
    (h : Q (.int ((rk (ltI v) i : Nat) : Int) s.toks) { s with toks := s.toks + 1 }) : wpAny (model prog w) A (call (.builtin "list.index") [.ref D, .int (v i) u]) Q E s := by
  have hx : v i ∈ a := hp.mem_iff.mpr (by
    have : i = 0 ∨ i = 1 ∨ i = 2 ∨ i = 3 ∨ i = 4 := by omega
    rcases this with rfl | rfl | rfl | rfl | rfl <;> simp)
  obtain ⟨h1, h2⟩ := sorted_count hs hx
  rw [rk_ints hp] at h1 h2
  have hl : a.length = 5 := hp.length_eq
  have hl' := ha.length
  have hj : rk (ltI v) i < a.length := (List.getElem?_eq_some_iff.mp h1).1
  have at' : ∀ {m : Nat} {y : Value}, vs[m]? = some y → ∃ k t, a[m]? = some k ∧ y = .int k t := fun {m y} hy => by
    obtain ⟨k, t, e, hk⟩ := IntsAre.at ha m y hy
    exact ⟨k, t, hk, e⟩
  refine index_first (fun y => match y with | .int b _ => b == v i | _ => false) N hm (by omega) (by omega) (fun y hy => ?_) (fun y hy => ?_) (fun m y hm' hy => ?_) h
  · obtain ⟨m, hm', rfl⟩ := List.mem_iff_getElem.mp hy
    obtain ⟨k, t, _, e⟩ := at' (List.getElem?_eq_getElem hm')
    rw [e]
    exact SeqAt.EqAt.int_int _ _ _ _
  · obtain ⟨k, t, e1, rfl⟩ := at' hy
    rw [h1] at e1
    cases e1
    exact beq_iff_eq.mpr rfl
  · obtain ⟨k, t, e1, rfl⟩ := at' hy
    have := h2 m k hm' e1
    exact beq_eq_false_iff_ne.mpr (by omega)
end
theorem mem_tail {p q : Addr × Obj} {r : List (Addr × Obj)} (h : p ∈ r) : p ∈ q :: r := List.Mem.tail _ h
noncomputable def colT (x : Str) : Str := Str.ofString "{" ++ x ++ Str.ofString "}host"
theorem lit5S {f : Nat → Str} {t0 t1 t2 t3 t4 : Tok} {i : Nat} {v : Value} (h : (List.toArray [Value.str (f 0) t0, .str (f 1) t1, .str (f 2) t2, .str (f 3) t3, .str (f 4) t4])[i]? = some v) : ∃ t, v = .str (f i) t := by
  match i, h with
  | 0, h => cases h; exact ⟨_, rfl⟩
  | 1, h => cases h; exact ⟨_, rfl⟩
  | 2, h => cases h; exact ⟨_, rfl⟩
  | 3, h => cases h; exact ⟨_, rfl⟩
  | 4, h => cases h; exact ⟨_, rfl⟩
  | i + 5, h => simp at h
theorem five_strsT {ys : List Value} {f : Nat → Str} (h : ys.length = 5) (g : ∀ (i : Nat) y, ys[i]? = some y → ∃ t, y = Value.str (f i) t) : ∃ t : Nat → Tok, ys = [.str (f 0) (t 0), .str (f 1) (t 1), .str (f 2) (t 2), .str (f 3) (t 3), .str (f 4) (t 4)] := by
  obtain ⟨t0, t1, t2, t3, t4, e⟩ := five_strs h g
  exact ⟨fun i => match i with | 0 => t0 | 1 => t1 | 2 => t2 | 3 => t3 | _ => t4, e⟩
noncomputable def rankK (c : Int) (hm : Nat → Str) (vs : Nat → Int) (i : Nat) : Int := if c = 0 then (rk (ltF fun k => colT (hm k)) i : Int) else (rk (ltI vs) i : Int)
noncomputable def KeysUp (kA kB : Nat → Int) (news0 : List (Addr × Obj)) (i : Nat) (ys : List Value) (news : List (Addr × Obj)) : Prop :=
  (∀ p ∈ news0, p ∈ news) ∧ (∀ p ∈ news, p ∈ news0 ∨ ∀ q ∈ news0, q.1 ≠ p.1) ∧ ∃ Kf : Nat → Addr, ys = (List.range i).map (fun k => Value.ref (Kf k)) ∧ ∀ k, k < i → KeyAt news (Kf k) (kA k) (kB k)
theorem KeyAt.mono {news news' : List (Addr × Obj)} {a : Addr} {x y : Int} (h : KeyAt news a x y) (sub : ∀ p ∈ news, p ∈ news') : KeyAt news' a x y := by
  obtain ⟨t, u, n, h⟩ := h
  exact ⟨t, u, n, sub _ h⟩
theorem KeysUp.zero {kA kB : Nat → Int} {news0 : List (Addr × Obj)} : KeysUp kA kB news0 0 [] news0 := ⟨fun _ h => h, fun _ h => .inl h, fun _ => 0, rfl, fun k hk => absurd hk (Nat.not_lt_zero _)⟩
theorem KeysUp.next {kA kB : Nat → Int} {news0 news news' : List (Addr × Obj)} {i : Nat} {ys : List Value} {a : Addr} (h : KeysUp kA kB news0 i ys news) (sub : ∀ p ∈ news, p ∈ news') (up : ∀ p ∈ news', p ∈ news ∨ ∀ q ∈ news0, q.1 ≠ p.1) (ha : KeyAt news' a (kA i) (kB i)) : KeysUp kA kB news0 (i + 1) (ys ++ [.ref a]) news' := by
  obtain ⟨h1, h2, Kf, rfl, h3⟩ := h
  refine ⟨fun p hp => sub p (h1 p hp), fun p hp => ?_, fun k => if k = i then a else Kf k, ?_, fun k hk => ?_⟩
  · rcases up p hp with h | h
    · exact h2 p h
    · exact .inr h
  · rw [List.range_succ, List.map_append, List.map_cons, List.map_nil]
    dsimp only
    rw [if_pos rfl]
    congr 1
    exact List.map_congr_left fun k hk => by rw [if_neg (Nat.ne_of_lt (List.mem_range.mp hk))]
  · by_cases e : k = i
    · subst e; dsimp only; rw [if_pos rfl]; exact ha
    · dsimp only; rw [if_neg e]; exact (h3 k (by omega)).mono sub
theorem KeysUp.keys {kA kB : Nat → Int} {news0 news : List (Addr × Obj)} {ys : List Value} {D : Addr} (h : KeysUp kA kB news0 5 ys news) : KeysAt ((D, LCg.lst ys) :: news) D kA kB := by
  obtain ⟨_, _, Kf, rfl, h3⟩ := h
  exact ⟨Kf, 5, .head _, fun i hi => ((h3 i hi).mono fun p hp => .tail _ hp)⟩
section
variable {prog : Program} {A : Around} {E : Value → Shared → Prop} {s : Shared} {Q : Value → Shared → Prop}
theorem add_open {x : Str} {t u : Tok} (hx : x.length ≤ 1000) (h : ∀ t' tk, Q (.str (Str.ofString "{" ++ x) t') { s with toks := tk }) : wpAny (model prog w) A (binaryOp .Add (.str (Str.ofString "{") t) (.str x u)) Q E s :=
  PyProof.Rows.add_str (fun t' tk => h t' tk) (by rw [sizeLine_eq]; have : (Str.ofString "{").length = 1 := rfl; omega)
theorem add_host {x : Str} {t u : Tok} (hx : x.length ≤ 1000) (h : ∀ t' tk, Q (.str (colT x) t') { s with toks := tk }) : wpAny (model prog w) A (binaryOp .Add (.str (Str.ofString "{" ++ x) t) (.str (Str.ofString "}host") u)) Q E s :=
  PyProof.Rows.add_str (fun t' tk => h t' tk) (by rw [sizeLine_eq, PySem.Str.length_append]; have : (Str.ofString "{").length = 1 := rfl; have : (Str.ofString "}host").length = 5 := rfl; omega)
end
theorem srcP {prog : Program} {A : Around} {h₀ : Heap} {L : Addr} {m : Str → Option Value} {env : Env} {elt : PySem.Expr} {x x₂ : Str} {scope : Scope} {cl : List (Str × Addr)} {Fin : Shared → List Value → List (Addr × Obj) → Prop} {ax : Addr} {its : Array Value} {k : Nat} {news : List (Addr × Obj)} {s₁ : Shared}
    (hh : A.handled = none) (F : Fr h₀ L s₁.heap m) (N : News h₀ L s₁.heap news) (hm : (ax, PySem.W.listOf its k) ∈ news) (hsz : its.size ≤ sizeLine)
    (h : ∀ g, LCp.CompRestP prog w A h₀ L m env elt x x₂ scope cl { s₁ with heap := g } (LCg.SrcAt h₀ ax its) (fun i v => its[i]? = some v) (Fin { s₁ with heap := g }) its.size 0 [] news) : LCp.SrcLP prog w A h₀ L m env elt x x₂ scope cl Fin (.ref ax) s₁ := LCp.SrcLP.ledger hh F N hm hsz h
theorem p_ends {h₀ : Heap} {L I C D : Addr} {m : Str → Option Value} {s₁ : Shared} {oI oC oD : Obj} {S : List (Addr × Obj) → Prop} {rest : Value → List (Addr × Obj) → Prop} {y : Value} {h' : Heap} {tk : Nat} {all news : List (Addr × Obj)}
    (F : Fr h₀ L h' m) (N : News h₀ L h' all) (sub : ∀ p ∈ (I, oI) :: (C, oC) :: (D, oD) :: news, p ∈ all) (off : LCg.Off3 I C D news) (hS : S news) (r : rest y news) :
    LCg.CompEnd h₀ L m s₁ I oI C oC D oD S rest y { s₁ with heap := h', toks := tk } := LCg.CompEnd.intro F N news sub off hS r
theorem off1_all {D : Addr} : ∀ {l : List (Addr × Obj)}, LCg.Off1 D l → ∀ p ∈ l, p.1 ≠ D
  | [], _, p, h => nomatch h
  | _ :: _, x, p, h => by
    rcases List.mem_cons.mp h with rfl | h
    · exact x.1
    · exact off1_all x.2 p h
theorem kend {h₀ : Heap} {L D : Addr} {m : Str → Option Value} {s₁ : Shared} {e1 e2 e3 e4 : Addr × Obj} {kA kB : Nat → Int} {news0 news : List (Addr × Obj)} {i : Nat} {ys : List Value} {h' : Heap} {tk : Nat} {t u : Tok}
    (F : Fr h₀ L h' m) (N : News h₀ L h' ((D, LCg.lst [.int (kA i) t, .int (kB i) u]) :: e1 :: e2 :: e3 :: e4 :: news)) (o1 : (@Ne Nat e1.1 D) ∧ (@Ne Nat e2.1 D) ∧ (@Ne Nat e3.1 D) ∧ (@Ne Nat e4.1 D) ∧ LCg.Off1 D news)
    (off : ∀ p ∈ news, p.1 ≠ e1.1 ∧ p.1 ≠ e2.1 ∧ p.1 ≠ e3.1 ∧ p.1 ≠ e4.1) (hJ : KeysUp kA kB news0 i ys news) : KEnd h₀ L m s₁ e1 e2 e3 e4 (fun y news'' => KeysUp kA kB news0 (i + 1) (ys ++ [y]) news'') (.ref D) { s₁ with heap := h', toks := tk } := by
  refine ⟨h', tk, (D, LCg.lst [.int (kA i) t, .int (kB i) u]) :: news, rfl, F, fun p hp => N p ?_, List.forall_mem_cons.mpr ⟨⟨Ne.symm o1.1, Ne.symm o1.2.1, Ne.symm o1.2.2.1, Ne.symm o1.2.2.2.1⟩, off⟩, hJ.next (fun p hp => .tail _ hp) (fun p hp => ?_) ⟨t, u, 2, .head _⟩⟩
  · revert p; k_extra "subl"
  · rcases List.mem_cons.mp hp with rfl | hp
    · exact .inr fun q hq => off1_all o1.2.2.2.2 q (hJ.1 q hq)
    · exact .inl hp
theorem keys_done {kA kB : Nat → Int} {rest news0 news : List (Addr × Obj)} {ys : List Value} {D : Addr} (h : KeysUp kA kB news0 5 ys news) (off : ∀ p ∈ news, p.1 ≠ D) (s0 : ∀ p ∈ rest, p ∈ news0) (u0 : ∀ p ∈ news0, p ∈ rest ∨ ∀ q ∈ rest, q.1 ≠ p.1) :
    ∀ p ∈ (D, LCg.lst ys) :: news, p ∈ rest ∨ ∀ q ∈ rest, q.1 ≠ p.1 := by
  refine List.forall_mem_cons.mpr ⟨.inr fun q hq => off q (h.1 q (s0 q hq)), fun p hp => ?_⟩
  rcases h.2.1 p hp with h1 | h1
  · exact u0 p h1
  · exact .inr fun q hq => h1 q (s0 q hq)
section
variable {mg mb : Str → Option Value} {mean : ExcName → Option Value} {loose : List Str} {dp un : Nat} {gd : Option (List Code)} {cn : Str} {cs : Scope} {a : Addr} {ccd : Value} {cl : List (Str × Addr)} {outer : List Env} {A₀ : Around} {base h₀ : Heap} {L : Addr} {m : Str → Option Value} {s : Shared} {Q E : Value → Shared → Prop}
theorem off_keys_1 : True := by
  w_top off
  k_with "CompSrc" => k_extra "my CompSrc"
  k_with "CompEnd" => k_extra "my CompEnd"
  k_with "turn ends" => (k_here; k_dflt (refine comp_turned (by k_asm) (by k_asm) (by lcg_sub) (by first | assumption | (simp only [LCg.Off3, and_true]; done) | (simp only [LCg.Off3, and_true]; assumption) | lcg_off) (by lcg_src) ?_))
  k_with "binaryOp Add str str" => (k_here; (with_reducible show wpAny _ _ (binaryOp Operator.Add (Value.str _ _) (Value.str _ _)) _ _ _); (refine add_short (by first | with_reducible assumption | exact quote_short) (by first | with_reducible assumption | exact quote_short) ?_); intro _ _ _)
  k_with "eval Name" => k_extra "my name"
  k_with "TurnJ" => k_dflt (refine TurnJ.ret ?_; (try dsimp only))
  k_with "in run" => (repeat (first | with_reducible assumption | exact List.Mem.head _ | refine List.Mem.tail _ ?_ | assumption | exact sub_mem (by with_reducible assumption) (by with_reducible assumption) | refine sub_mem (by with_reducible assumption) ?_))
  k_with "TurnG" => k_dflt (refine TurnG.ret ?_; (try dsimp only))
  k_with "binaryOp Add str str" => k_extra "my add"
  k_with "col open" => (k_here; (with_reducible show wpAny _ _ (binaryOp Operator.Add (Value.str (Str.ofString "{") _) _) _ _ _); k_dflt (refine add_open ‹_› ?_; intro _ _))
  k_with "col host" => (k_here; (with_reducible show wpAny _ _ (binaryOp Operator.Add (Value.str (Str.ofString "{" ++ _) _) (Value.str (Str.ofString "}host") _)) _ _ _); k_dflt (refine add_host ‹_› ?_; intro _ _))
  k_with "comp K" => (k_here; (with_reducible show wpAny _ _ (eval (PySem.Expr.ListComp _ [PySem.Comprehension.mk (PySem.Expr.Name _ _) _ _ _] _ _) _) _ _ _); k_dflt (refine ListComp_K (F₀ := by k_asm) (by with_unfolding_all rfl) (by rfl) (by decide) (by rfl) (by intro _; rfl) (by intro _; rfl) ?_))
  k_with "KSrc" => k_extra "my KSrc"
  k_with "comp P" => (k_here; (with_reducible show wpAny _ _ (eval (PySem.Expr.ListComp _ [PySem.Comprehension.mk (PySem.Expr.Tuple _ _ _) _ _ _] _ _) _) _ _ _); k_dflt (refine LCp.ListComp_P (F₀ := by k_asm) (by with_unfolding_all rfl) (by decide) (by rfl) (by decide) (by rfl) (by rfl) (by decide) ?_))
  k_with "in cells" => (repeat (first | exact List.Mem.head _ | refine List.Mem.tail _ ?_ | refine sub_mem (by with_reducible assumption) ?_))
  k_with "cell name" => (k_here; (with_reducible show wpAny _ _ (eval (PySem.Expr.Name _ _) (compEnvC _ _ _ _)) _ _ _); k_dflt (refine' lcf_cell ?yNw982 ?ycw982 ?ymw982 ?ydw982 ?_ ?yaw982 ?ybw982; (case yaw982 => rfl); (case ybw982 => rfl); (case yNw982 => k_asm); (case ycw982 => rfl); (case ymw982 => k_extra "in cells"); (case ydw982 => first | with_reducible assumption | assumption)))
  k_with "in sub" => (repeat (first | with_reducible assumption | exact List.Mem.head _ | refine mem_tail ?_ | refine sub_mem (by with_reducible assumption) ?_))
  k_with "SrcLP" => k_extra "my SrcLP"
  k_with "src P" => (k_here; k_dflt (refine srcP (by rfl) (by k_asm) (by k_asm) (by k_extra "in sub") (by first | size_fits | exact Nat.le_of_ble_eq_true rfl) ?_; intro _))
  k_with "CompRestP" => k_extra "my CompRestP"
  k_with "rest P" => (with_unfolding_all first | (refine LCp.CompRestP.succ ?_; intro _ hv'w308; lcg_open hv'w308; refine ⟨_, _, _, _, _, rfl, by k_extra "in sub", rfl, rfl, ?_⟩; intro _ _ _ _ _ _ _ _ _ _ _ _ _ _ _ _) | refine LCp.CompRestP.zero ?_)
  k_with "call builtin:sorted" => k_extra "my sorted"
  k_with "call builtin:list.index" => k_extra "my index"
  k_with "subscriptTail Subscript Name Name Name ref int" => k_extra "my cell item"
  k_with "lit item" => (k_here; (with_reducible show wpAny _ _ (subscriptTail _ _ (Value.ref _) (Value.int _ _)) _ _ _); k_dflt (refine' item_litK ?ylw754 ?y0w754 ?y1w754 ?yvw754 ?_ ?ysw754; (case ylw754 => exact News.isList (by k_asm) (by k_extra "in sub")); (case y0w754 => decide); (case y1w754 => decide); (case yvw754 => rfl); (case ysw754 => with_unfolding_all rfl)))
  k_with "P ends" => (k_here; k_dflt (refine' p_ends ?bFw54 ?bNw54 ?bsw54 ?bow54 ?bSw54 ?_; (case bFw54 => k_asm); (case bNw54 => k_asm); (case bow54 => with_reducible assumption); (case bsw54 => lcg_sub); (case bSw54 => exact (Or.inr ⟨_, by k_extra "in sub", rfl, _, rfl⟩))))
  k_with "sub up" => (intro _ hpw596; first | exact hpw596 | (refine sub_mem (by with_reducible assumption) ?_; (repeat (first | with_reducible exact hpw596 | refine mem_tail ?_))))
  trivial
theorem c_keysA {S Lh Lv T1 T2 : Addr} {nS nh nv : Nat} {ta tb tc td u0 u1 u2 u3 u4 v0 v1 v2 v3 v4 : Tok} {w1 w2 : Int} {hm : Nat → Str} {vs : Nat → Int} {rest : List (Addr × Obj)}
    (B : Below A₀ base outer h₀) (F : Fr h₀ L s.heap m) (X : (hd.heap_1 w.params).In h₀) (N : News h₀ L s.heap rest) (T : Top topProg loose mean mg mb h₀) (hk : cs.kind = .function) (h1 : dp ≤ 324) (h2 : un ≤ 150)
    (hS : (S, PySem.W.listOf (List.toArray [.ref T1, .ref T2]) nS) ∈ rest) (hT1 : (T1, tupO [.int 0 ta, .int w1 tb]) ∈ rest) (hT2 : (T2, tupO [.int 1 tc, .int w2 td]) ∈ rest) (hw1 : -1 ≤ w1 ∧ w1 ≤ 1) (hw2 : -1 ≤ w2 ∧ w2 ≤ 1)
    (hLh : (Lh, PySem.W.listOf (List.toArray [.str (hm 0) u0, .str (hm 1) u1, .str (hm 2) u2, .str (hm 3) u3, .str (hm 4) u4]) nh) ∈ rest) (hLv : (Lv, PySem.W.listOf (List.toArray [.int (vs 0) v0, .int (vs 1) v1, .int (vs 2) v2, .int (vs 3) v3, .int (vs 4) v4]) nv) ∈ rest)
    (hz : ∀ i, i < 5 → (hm i).length ≤ 1000)
    (ret : ∀ K R h' tk', KeysAt R K (fun i => rankK 0 hm vs i * w1) (fun i => rankK 1 hm vs i * w2) → (∀ p ∈ rest, p ∈ R) → (∀ p ∈ R, p ∈ rest ∨ ∀ q ∈ rest, q.1 ≠ p.1) → Fr h₀ L h' m → News h₀ L h' R → Q (.ref K) { s with heap := h', toks := tk' }) :
    wpAny (model PySem.Challenge.rw_xo0026_01.row.prog w) (ktrTop dp un gd cn cs L a ccd cl outer) (call (.ref 248) [.ref S, .ref Lh, .ref Lv]) Q E s := by
  refine lift h1 h2 ?_
  revert X; k_fill; intro X
  refine wpAny_call ?_
  k_with "my CompSrc" => k_dflt (refine LCg.CompSrc.ledger (by rfl) (by k_asm) (by k_asm) (by k_extra "in run") (by first | size_fits | exact Nat.le_of_ble_eq_true rfl) ?_; intro g'; refine' rest_each (fun i y => ∃ t, y = Value.str (colT (hm i)) t) ?xturn ?xfin; (case' xturn => (intro i' v' I' oI' C' oC' D' m' ys' h' tk' E' hi' hv' hC' hx' F' N' off' ne'; (obtain ⟨t9', hv9'⟩ := lit5S hv'; subst hv9'); (have hz' := hz i' hi'); (try simp only [LCg.Off3, and_true] at off'); (try k_fold))); (case' xfin => (intro ys' hn' hg'; (obtain ⟨tt', hy'⟩ := five_strsT (f := fun k => colT (hm k)) hn' hg'); subst hy'; (try k_fold))))
  k_with "my CompEnd" => first | k_extra "turn ends" | k_extra "P ends"
  k_with "my add" => first | k_extra "col open" | k_extra "col host"
  k_with "my compT" => first | k_extra "comp P" | k_extra "my_comp" | k_extra "comp K"
  k_with "my KSrc" => k_dflt (refine ⟨_, _, _, _, 5, _, KeysUp (fun i => rankK 0 hm vs i * w1) (fun i => rankK 1 hm vs i * w2) _, rfl, rfl, by decide, by k_asm, by k_asm, by assumption, .zero, ?kturn, ?kdone⟩; (case' kturn => (intro i' t' I' oI' C' oC' c' oc' D' ys' news' h' tk' E' hi' hJ' hC' hc' F' N' off'; (have sub' := hJ'.1); (try k_fold))); (case' kdone => (intro D' ys' news' h' tk' hJ' F' N' off'; (have sub' := hJ'.1); (try k_fold))))
  k_with "my name" => k_extra "cell name"
  k_with "my SrcLP" => k_extra "src P"
  k_with "my CompRestP" => k_extra "rest P"
  k_with "my item" => k_extra "lit item"
  k_with "my cell item" => first
    | k_dflt (refine' item_fnS (ws := fun k => colT (hm k)) ?pl ?pi ?_ ?ps; (case' pl => exact News.isList (by k_asm) (by k_extra "in sub")); (case' pi => assumption); (case' ps => with_unfolding_all rfl); intro t')
    | k_dflt (refine' item_fnI (vs := vs) ?ql ?qi ?_ ?qs; (case' ql => exact News.isList (by k_asm) (by k_extra "in sub")); (case' qi => assumption); (case' qs => with_unfolding_all rfl); intro t')
  k_with "my sorted" => first
    | k_dflt (refine' sorted_texts (f := fun k => colT (hm k)) (t := tt') ?rF ?rN ?rl ?_; (case' rF => k_asm); (case' rN => k_asm); (case' rl => exact News.isList (by k_asm) (by k_extra "in sub")); intro D' p' c9' h' F' N' l1 hS'; (try k_fold))
    | k_dflt (refine' kso_sorted (ns := [vs 0, vs 1, vs 2, vs 3, vs 4]) ?sF ?sN ?sl ?si ?sz ?_; (case' sF => k_asm); (case' sN => k_asm); (case' sl => exact News.isList (by k_asm) (by k_extra "in sub")); (case' si => exact .cons _ _ (.cons _ _ (.cons _ _ (.cons _ _ (.cons _ _ .nil))))); (case' sz => exact Nat.le_of_ble_eq_true rfl); intro D' vs' ns' c9' h' F' N' l1 hi' hn' hp' hs' hf'; (try k_fold))
  k_with "my index" => first
    | k_dflt (refine' index_text (f := fun k => colT (hm k)) ?tN ?tm ?tS ?ti ?_; (case' tN => k_asm); (case' tm => exact .head _); (case' tS => assumption); (case' ti => assumption))
    | k_dflt (refine' index_int (v := vs) ?uN ?um ?ua ?up ?us ?ui ?_; (case' uN => k_asm); (case' um => exact .head _); (case' ua => assumption); (case' up => assumption); (case' us => assumption); (case' ui => assumption))
  k_extra "my_enter"
  rename (PySem.Obj.data _ = PySem.Data.cell _) => dz
  have ds' := (dz : _ = PySem.Data.cell (some (Value.ref S)))
  clear dz
  k_steps
  · rename (∀ p ∈ rest, @LT.lt Nat _ p.1 _) => z1
    rename (_ ∧ _ ∧ LCg.Off1 _ rest) => z2
    rename (_ ∧ _ ∧ _ ∧ AllLt _ rest) => z3
    refine ret _ _ _ _ (KeysUp.keys hJ') (fun p hp => .tail _ (sub' p (.tail _ (.tail _ (.tail _ (.tail _ hp)))))) (keys_done hJ' off' (fun p hp => .tail _ (.tail _ (.tail _ (.tail _ hp)))) (List.forall_mem_cons.mpr ⟨.inr fun q hq => Nat.ne_of_lt (ktn_ltOf z3.2.2.2 q hq), List.forall_mem_cons.mpr ⟨.inr fun q hq => off1_all z2.2.2 q hq, List.forall_mem_cons.mpr ⟨.inr fun q hq => Nat.ne_of_lt (Nat.lt_succ_of_lt (Nat.lt_succ_of_lt (z1 q hq))), List.forall_mem_cons.mpr ⟨.inr fun q hq => Nat.ne_of_lt (Nat.lt_succ_of_lt (z1 q hq)), fun p hp => .inl hp⟩⟩⟩⟩)) ‹_› ‹_›
  · exact kend ‹_› ‹_› ‹_› off' hJ'
theorem c_keysB {S Lh Lv T1 T2 : Addr} {nS nh nv : Nat} {ta tb tc td u0 u1 u2 u3 u4 v0 v1 v2 v3 v4 : Tok} {w1 w2 : Int} {hm : Nat → Str} {vs : Nat → Int} {rest : List (Addr × Obj)}
    (B : Below A₀ base outer h₀) (F : Fr h₀ L s.heap m) (X : (hd.heap_1 w.params).In h₀) (N : News h₀ L s.heap rest) (T : Top topProg loose mean mg mb h₀) (hk : cs.kind = .function) (h1 : dp ≤ 324) (h2 : un ≤ 150)
    (hS : (S, PySem.W.listOf (List.toArray [.ref T1, .ref T2]) nS) ∈ rest) (hT1 : (T1, tupO [.int 1 ta, .int w1 tb]) ∈ rest) (hT2 : (T2, tupO [.int 0 tc, .int w2 td]) ∈ rest) (hw1 : -1 ≤ w1 ∧ w1 ≤ 1) (hw2 : -1 ≤ w2 ∧ w2 ≤ 1)
    (hLh : (Lh, PySem.W.listOf (List.toArray [.str (hm 0) u0, .str (hm 1) u1, .str (hm 2) u2, .str (hm 3) u3, .str (hm 4) u4]) nh) ∈ rest) (hLv : (Lv, PySem.W.listOf (List.toArray [.int (vs 0) v0, .int (vs 1) v1, .int (vs 2) v2, .int (vs 3) v3, .int (vs 4) v4]) nv) ∈ rest)
    (hz : ∀ i, i < 5 → (hm i).length ≤ 1000)
    (ret : ∀ K R h' tk', KeysAt R K (fun i => rankK 1 hm vs i * w1) (fun i => rankK 0 hm vs i * w2) → (∀ p ∈ rest, p ∈ R) → (∀ p ∈ R, p ∈ rest ∨ ∀ q ∈ rest, q.1 ≠ p.1) → Fr h₀ L h' m → News h₀ L h' R → Q (.ref K) { s with heap := h', toks := tk' }) :
    wpAny (model PySem.Challenge.rw_xo0026_01.row.prog w) (ktrTop dp un gd cn cs L a ccd cl outer) (call (.ref 248) [.ref S, .ref Lh, .ref Lv]) Q E s := by
  refine lift h1 h2 ?_
  revert X; k_fill; intro X
  refine wpAny_call ?_
  k_with "my CompSrc" => k_dflt (refine LCg.CompSrc.ledger (by rfl) (by k_asm) (by k_asm) (by k_extra "in run") (by first | size_fits | exact Nat.le_of_ble_eq_true rfl) ?_; intro g'; refine' rest_each (fun i y => ∃ t, y = Value.str (colT (hm i)) t) ?xturn ?xfin; (case' xturn => (intro i' v' I' oI' C' oC' D' m' ys' h' tk' E' hi' hv' hC' hx' F' N' off' ne'; (obtain ⟨t9', hv9'⟩ := lit5S hv'; subst hv9'); (have hz' := hz i' hi'); (try simp only [LCg.Off3, and_true] at off'); (try k_fold))); (case' xfin => (intro ys' hn' hg'; (obtain ⟨tt', hy'⟩ := five_strsT (f := fun k => colT (hm k)) hn' hg'); subst hy'; (try k_fold))))
  k_with "my CompEnd" => first | k_extra "turn ends" | k_extra "P ends"
  k_with "my add" => first | k_extra "col open" | k_extra "col host"
  k_with "my compT" => first | k_extra "comp P" | k_extra "my_comp" | k_extra "comp K"
  k_with "my KSrc" => k_dflt (refine ⟨_, _, _, _, 5, _, KeysUp (fun i => rankK 1 hm vs i * w1) (fun i => rankK 0 hm vs i * w2) _, rfl, rfl, by decide, by k_asm, by k_asm, by assumption, .zero, ?kturn, ?kdone⟩; (case' kturn => (intro i' t' I' oI' C' oC' c' oc' D' ys' news' h' tk' E' hi' hJ' hC' hc' F' N' off'; (have sub' := hJ'.1); (try k_fold))); (case' kdone => (intro D' ys' news' h' tk' hJ' F' N' off'; (have sub' := hJ'.1); (try k_fold))))
  k_with "my name" => k_extra "cell name"
  k_with "my SrcLP" => k_extra "src P"
  k_with "my CompRestP" => k_extra "rest P"
  k_with "my item" => k_extra "lit item"
  k_with "my cell item" => first
    | k_dflt (refine' item_fnS (ws := fun k => colT (hm k)) ?pl ?pi ?_ ?ps; (case' pl => exact News.isList (by k_asm) (by k_extra "in sub")); (case' pi => assumption); (case' ps => with_unfolding_all rfl); intro t')
    | k_dflt (refine' item_fnI (vs := vs) ?ql ?qi ?_ ?qs; (case' ql => exact News.isList (by k_asm) (by k_extra "in sub")); (case' qi => assumption); (case' qs => with_unfolding_all rfl); intro t')
  k_with "my sorted" => first
    | k_dflt (refine' sorted_texts (f := fun k => colT (hm k)) (t := tt') ?rF ?rN ?rl ?_; (case' rF => k_asm); (case' rN => k_asm); (case' rl => exact News.isList (by k_asm) (by k_extra "in sub")); intro D' p' c9' h' F' N' l1 hS'; (try k_fold))
    | k_dflt (refine' kso_sorted (ns := [vs 0, vs 1, vs 2, vs 3, vs 4]) ?sF ?sN ?sl ?si ?sz ?_; (case' sF => k_asm); (case' sN => k_asm); (case' sl => exact News.isList (by k_asm) (by k_extra "in sub")); (case' si => exact .cons _ _ (.cons _ _ (.cons _ _ (.cons _ _ (.cons _ _ .nil))))); (case' sz => exact Nat.le_of_ble_eq_true rfl); intro D' vs' ns' c9' h' F' N' l1 hi' hn' hp' hs' hf'; (try k_fold))
  k_with "my index" => first
    | k_dflt (refine' index_text (f := fun k => colT (hm k)) ?tN ?tm ?tS ?ti ?_; (case' tN => k_asm); (case' tm => exact .head _); (case' tS => assumption); (case' ti => assumption))
    | k_dflt (refine' index_int (v := vs) ?uN ?um ?ua ?up ?us ?ui ?_; (case' uN => k_asm); (case' um => exact .head _); (case' ua => assumption); (case' up => assumption); (case' us => assumption); (case' ui => assumption))
  k_extra "my_enter"
  rename (PySem.Obj.data _ = PySem.Data.cell _) => dz
  have ds' := (dz : _ = PySem.Data.cell (some (Value.ref S)))
  clear dz
  k_steps
  · rename (∀ p ∈ rest, @LT.lt Nat _ p.1 _) => z1
    rename (_ ∧ _ ∧ LCg.Off1 _ rest) => z2
    rename (_ ∧ _ ∧ _ ∧ AllLt _ rest) => z3
    refine ret _ _ _ _ (KeysUp.keys hJ') (fun p hp => .tail _ (sub' p (.tail _ (.tail _ (.tail _ (.tail _ hp)))))) (keys_done hJ' off' (fun p hp => .tail _ (.tail _ (.tail _ (.tail _ hp)))) (List.forall_mem_cons.mpr ⟨.inr fun q hq => Nat.ne_of_lt (ktn_ltOf z3.2.2.2 q hq), List.forall_mem_cons.mpr ⟨.inr fun q hq => off1_all z2.2.2 q hq, List.forall_mem_cons.mpr ⟨.inr fun q hq => Nat.ne_of_lt (Nat.lt_succ_of_lt (Nat.lt_succ_of_lt (z1 q hq))), List.forall_mem_cons.mpr ⟨.inr fun q hq => Nat.ne_of_lt (Nat.lt_succ_of_lt (z1 q hq)), fun p hp => .inl hp⟩⟩⟩⟩)) ‹_› ‹_›
  · exact kend ‹_› ‹_› ‹_› off' hJ'
theorem c_keys {S Lh Lv T1 T2 : Addr} {nS nh nv : Nat} {ta tb tc td u0 u1 u2 u3 u4 v0 v1 v2 v3 v4 : Tok} {i1 i2 w1 w2 : Int} {hm : Nat → Str} {vs : Nat → Int} {rest : List (Addr × Obj)}
    (B : Below A₀ base outer h₀) (F : Fr h₀ L s.heap m) (X : (hd.heap_1 w.params).In h₀) (N : News h₀ L s.heap rest) (T : Top topProg loose mean mg mb h₀) (hk : cs.kind = .function) (h1 : dp ≤ 324) (h2 : un ≤ 150)
    (hS : (S, PySem.W.listOf (List.toArray [.ref T1, .ref T2]) nS) ∈ rest) (hT1 : (T1, tupO [.int i1 ta, .int w1 tb]) ∈ rest) (hT2 : (T2, tupO [.int i2 tc, .int w2 td]) ∈ rest) (hi : i1 = 0 ∧ i2 = 1 ∨ i1 = 1 ∧ i2 = 0) (hw1 : -1 ≤ w1 ∧ w1 ≤ 1) (hw2 : -1 ≤ w2 ∧ w2 ≤ 1)
    (hLh : (Lh, PySem.W.listOf (List.toArray [.str (hm 0) u0, .str (hm 1) u1, .str (hm 2) u2, .str (hm 3) u3, .str (hm 4) u4]) nh) ∈ rest) (hLv : (Lv, PySem.W.listOf (List.toArray [.int (vs 0) v0, .int (vs 1) v1, .int (vs 2) v2, .int (vs 3) v3, .int (vs 4) v4]) nv) ∈ rest)
    (hz : ∀ i, i < 5 → (hm i).length ≤ 1000)
    (ret : ∀ K R h' tk', KeysAt R K (fun i => rankK i1 hm vs i * w1) (fun i => rankK i2 hm vs i * w2) → (∀ p ∈ rest, p ∈ R) → (∀ p ∈ R, p ∈ rest ∨ ∀ q ∈ rest, q.1 ≠ p.1) → Fr h₀ L h' m → News h₀ L h' R → Q (.ref K) { s with heap := h', toks := tk' }) :
    wpAny (model PySem.Challenge.rw_xo0026_01.row.prog w) (ktrTop dp un gd cn cs L a ccd cl outer) (call (.ref 248) [.ref S, .ref Lh, .ref Lv]) Q E s := by
  rcases hi with ⟨rfl, rfl⟩ | ⟨rfl, rfl⟩
  · exact c_keysA B F X N T hk h1 h2 hS hT1 hT2 hw1 hw2 hLh hLv hz ret
  · exact c_keysB B F X N T hk h1 h2 hS hT1 hT2 hw1 hw2 hLh hLv hz ret
end
theorem compTurn_two1 (elt t0 i0 t1 i1 ct : PySem.Expr) (scope : Scope) (pos : Pos) (it acc : Value) (env : Env) :
    compTurn (.ListComp elt [⟨t0, i0, [], 0⟩, ⟨t1, i1, [ct], 0⟩] scope pos) 1 it acc env = (do
      standAt i1.pos
      match ← pyNext it with
      | none => pure (.done .next)
      | some v =>
        letOwnedTupleGo t1 it v
        assign t1 env v
        let mut ok := true
        for c in [ct] do
          if ok then ok ← isTrue c env (eval c env)
        if ok then
          (do let _ ← call (.builtin "list.append") [acc, ← eval elt env])
        again (.compLoop (.ListComp elt [⟨t0, i0, [], 0⟩, ⟨t1, i1, [ct], 0⟩] scope pos) 1 it acc env)) := by rfl
theorem compTurn_two0 (elt t0 i0 t1 i1 ct : PySem.Expr) (scope : Scope) (pos : Pos) (it acc : Value) (env : Env) :
    compTurn (.ListComp elt [⟨t0, i0, [], 0⟩, ⟨t1, i1, [ct], 0⟩] scope pos) 0 it acc env = (do
      standAt i0.pos
      match ← pyNext it with
      | none => pure (.done .next)
      | some v =>
        letOwnedTupleGo t0 it v
        assign t0 env v
        let mut ok := true
        for c in ([] : List PySem.Expr) do
          if ok then ok ← isTrue c env (eval c env)
        if ok then
          let x ← eval i1 env
          standAt i1.pos
          let x ← foldedSetIterable i1 env x
          let _ ← runOwn (.compStart (.ListComp elt [⟨t0, i0, [], 0⟩, ⟨t1, i1, [ct], 0⟩] scope pos) 1 (← holding [x] (pyIter x)) acc env) env
        again (.compLoop (.ListComp elt [⟨t0, i0, [], 0⟩, ⟨t1, i1, [ct], 0⟩] scope pos) 0 it acc env)) := by rfl
section
variable {prog : Program} {A : Around} {E : Value → Shared → Prop} {R : Result → Shared → Prop} {s : Shared}
theorem loop_two1 {elt t0 i0 t1 i1 ct : PySem.Expr} {scope : Scope} {pos : Pos} {it acc : Value} {env : Env} (I : Nat → Shared → Prop)
    (turn : ∀ n s, I n s → wpAny (model prog w) A (pyNext it) (fun r s₁ => match r with
      | none => R (.ok .next) s₁
      | some v => wpAny (model prog w) A (assign t1 env v) (fun _ s₂ => wpAny (model prog w) A (isTrue ct env (eval ct env)) (fun ok s₃ =>
            if ok = true then wpAny (model prog w) A (eval elt env) (fun x s₄ =>
              wpAny (model prog w) A (call (.builtin "list.append") [acc, x]) (fun _ s₅ => ∃ m, m < n ∧ I m s₅) (notedBy (model prog w) A env fun e s' => R (.error e) s') s₄) (notedBy (model prog w) A env fun e s' => R (.error e) s') s₃
            else ∃ m, m < n ∧ I m s₃) (notedBy (model prog w) A env fun e s' => R (.error e) s') s₂) (notedBy (model prog w) A env fun e s' => R (.error e) s') s₁) (notedBy (model prog w) A env fun e s' => R (.error e) s') s)
    (n : Nat) (h : I n s) (ht : ∀ v, letOwnedTupleGo t1 it v = pure () := by intro _; rfl) :
    codeAny (model prog w) A (.compLoop (.ListComp elt [⟨t0, i0, [], 0⟩, ⟨t1, i1, [ct], 0⟩] scope pos) 1 it acc env) R s := by
  refine codeAny_loop rfl I (fun n s hI => ?_) n h
  show wpAny _ A ((compTurn (.ListComp elt [⟨t0, i0, [], 0⟩, ⟨t1, i1, [ct], 0⟩] scope pos) 1 it acc env).onRaise (fun x => do noteFrame x env; theTreesLotGoes x)) _ _ s
  refine wpAny_noted ?_
  rw [compTurn_two1]
  refine wpAny_bind (wpAny_standAt (wpAny_bind (wpAny_mono (turn n s hI) (fun r s₁ h₁ => ?_) fun _ _ h' => h')))
  cases r with
  | none => exact wpAny_pure h₁
  | some v =>
    refine wpAny_bind (wpAny_of_eq (ht v) ?_)
    refine wpAny_bind (wpAny_mono h₁ (fun _ s₂ h₂ => wpAny_bind (wpAny_mono (wpAny_tests_one h₂) (fun ok s₃ h₃ => ?_) fun _ _ h' => h')) fun _ _ h' => h')
    cases ok with
    | false => exact wpAny_pure ⟨rfl, h₃⟩
    | true =>
      exact wpAny_bind (wpAny_bind (wpAny_mono h₃ (fun x s₄ h₄ => wpAny_bind (wpAny_mono h₄ (fun _ s₅ h₅ => wpAny_pure (wpAny_pure ⟨rfl, h₅⟩)) fun _ _ h' => h')) fun _ _ h' => h'))
theorem loop_two0 {elt t0 i0 t1 i1 ct : PySem.Expr} {scope : Scope} {pos : Pos} {it acc : Value} {env : Env} (I : Nat → Shared → Prop)
    (turn : ∀ n s, I n s → wpAny (model prog w) A (pyNext it) (fun r s₁ => match r with
      | none => R (.ok .next) s₁
      | some v => wpAny (model prog w) A (assign t0 env v) (fun _ s₂ => wpAny (model prog w) A (eval i1 env) (fun x s₃ => wpAny (model prog w) A (pyIter x) (fun it1 s₄ =>
            codeAny (model prog w) A (.compStart (.ListComp elt [⟨t0, i0, [], 0⟩, ⟨t1, i1, [ct], 0⟩] scope pos) 1 it1 acc env) (fun r s₅ => match r with | .ok _ => ∃ m, m < n ∧ I m s₅ | .error e => cameBackBy (model prog w) A env (notedBy (model prog w) A env fun e s' => R (.error e) s') e s₅) s₄)
            (notedBy (model prog w) A env fun e s' => R (.error e) s') s₃) (notedBy (model prog w) A env fun e s' => R (.error e) s') s₂) (notedBy (model prog w) A env fun e s' => R (.error e) s') s₁) (notedBy (model prog w) A env fun e s' => R (.error e) s') s)
    (n : Nat) (h : I n s) (hs : ∀ x, foldedSetIterable i1 env x = pure x) (ht : ∀ v, letOwnedTupleGo t0 it v = pure () := by intro _; rfl) :
    codeAny (model prog w) A (.compLoop (.ListComp elt [⟨t0, i0, [], 0⟩, ⟨t1, i1, [ct], 0⟩] scope pos) 0 it acc env) R s := by
  refine codeAny_loop rfl I (fun n s hI => ?_) n h
  show wpAny _ A ((compTurn (.ListComp elt [⟨t0, i0, [], 0⟩, ⟨t1, i1, [ct], 0⟩] scope pos) 0 it acc env).onRaise (fun x => do noteFrame x env; theTreesLotGoes x)) _ _ s
  refine wpAny_noted ?_
  rw [compTurn_two0]
  refine wpAny_bind (wpAny_standAt (wpAny_bind (wpAny_mono (turn n s hI) (fun r s₁ h₁ => ?_) fun _ _ h' => h')))
  cases r with
  | none => exact wpAny_pure h₁
  | some v =>
    refine wpAny_bind (wpAny_of_eq (ht v) ?_)
    refine wpAny_bind (wpAny_mono h₁ (fun _ s₂ h₂ => wpAny_bind (wpAny_mono (wpAny_tests_nil (Q := fun ok s₃ => ok = true ∧ s₃ = s₂) ⟨rfl, rfl⟩) (fun ok s₃ h₃ => ?_) fun _ _ h' => h')) fun _ _ h' => h')
    obtain ⟨rfl, rfl⟩ := h₃
    refine wpAny_bind (wpAny_mono h₂ (fun x s₃ h₃ => ?_) fun _ _ h' => h')
    refine wpAny_bind (wpAny_standAt (wpAny_bind (wpAny_of_eq (hs x) ?_)))
    refine wpAny_bind (wpAny_holding (wpAny_mono h₃ (fun it1 s₄ h₄ => ?_) fun _ _ h' => h'))
    refine wpAny_bind (wpAny_runOwn (codeAny_mono (show codeAny (model prog w) (A.mark none) _ _ _ from h₄) fun r s₅ h₅ => ?_))
    cases r with
    | ok f => exact wpAny_pure ⟨rfl, h₅⟩
    | error e => exact h₅
theorem start_two1 {elt t0 i0 t1 i1 ct : PySem.Expr} {scope : Scope} {pos : Pos} {it acc : Value} {env : Env}
    (h0 : codeAny (model prog w) A (.compLoop (.ListComp elt [⟨t0, i0, [], 0⟩, ⟨t1, i1, [ct], 0⟩] scope pos) 1 it acc env) R s)
    (h : wpAny (model prog w) A (pyIter it) (fun it' s' => codeAny (model prog w) A (.compLoop (.ListComp elt [⟨t0, i0, [], 0⟩, ⟨t1, i1, [ct], 0⟩] scope pos) 1 it' acc env) R s') (notedBy (model prog w) A env fun x s' => R (.error x) s') s) :
    codeAny (model prog w) A (.compStart (.ListComp elt [⟨t0, i0, [], 0⟩, ⟨t1, i1, [ct], 0⟩] scope pos) 1 it acc env) R s := by
  refine codeAny_of_tree ?_
  show wpAny _ _ ((compStart (.ListComp elt [⟨t0, i0, [], 0⟩, ⟨t1, i1, [ct], 0⟩] scope pos) 1 it acc env).onRaise (fun x => do noteFrame x env; standAt theWindowsPlace)) _ _ s
  refine wpAny_notedAt ?_
  unfold compStart
  show wpAny _ _ (ask >>= _) _ _ s
  refine wpAny_bind (wpAny_askSetting (wpAny_ite ?_))
  split
  · first
      | exact wpAny_bind (wpAny_pure (wpAny_pure (And.intro rfl h0)))
      | exact wpAny_pure (And.intro rfl h0)
  · first
      | exact wpAny_bind (wpAny_rule (wpAny_bind (wpAny_standAt (wpAny_bind (wpAny_mono h (fun it' s' h' => wpAny_pure (And.intro rfl h')) fun _ _ x => x)))))
      | (refine wpAny_bind (wpAny_rule ?_); show wpAny _ _ (standAt i1.pos >>= _) _ _ s; exact wpAny_bind (wpAny_standAt (wpAny_bind (wpAny_mono h (fun it' s' h' => wpAny_pure (And.intro rfl h')) fun _ _ x => x))))
end
noncomputable def pairsOf (p : Nat → Nat → Bool) (n : Nat) : List (Nat × Nat) := (List.range n).flatMap fun j => ((List.range j).filter fun i => p i j).map fun i => (i, j)
noncomputable def rowOf (p : Nat → Nat → Bool) (j i : Nat) : List (Nat × Nat) := ((List.range i).filter fun i => p i j).map fun i => (i, j)
theorem pairsOf_succ {p : Nat → Nat → Bool} {n : Nat} : pairsOf p (n + 1) = pairsOf p n ++ rowOf p n n := by
  unfold pairsOf rowOf; rw [List.range_succ, List.flatMap_append]; simp
theorem rowOf_yes {p : Nat → Nat → Bool} {j i : Nat} (h : p i j = true) : rowOf p j (i + 1) = rowOf p j i ++ [(i, j)] := by
  unfold rowOf; rw [List.range_succ, List.filter_append, List.map_append]; simp [h]
theorem rowOf_no {p : Nat → Nat → Bool} {j i : Nat} (h : p i j = false) : rowOf p j (i + 1) = rowOf p j i := by
  unfold rowOf; rw [List.range_succ, List.filter_append, List.map_append]; simp [h]
noncomputable def RngAt (h₀ : Heap) (L : Addr) (m : Str → Option Value) (s₁ : Shared) (j : Nat) (all : List (Addr × Obj)) (xv : Value) (s₂ : Shared) : Prop :=
  ∃ r t u v h' tk', xv = .ref r ∧ s₂ = { s₁ with heap := h', toks := tk' } ∧ IsRange h' r 0 (j : Int) 1 t u v ∧ Fr h₀ L h' m ∧ News h₀ L h' all
noncomputable def End2 (h₀ : Heap) (L : Addr) (m : Str → Option Value) (s₁ : Shared) (e1 e2 e3 e4 : Addr × Obj) (R : Value → List (Addr × Obj) → Prop) (y : Value) (s₂ : Shared) : Prop := KEnd h₀ L m s₁ e1 e2 e3 e4 R y s₂
inductive Src2 (prog : Program) (w : World) (A : Around) (h₀ : Heap) (L : Addr) (m : Str → Option Value) (env : Env) (elt ct i1 : PySem.Expr) (x0 x1 : Str) (scope : Scope) (cl : List (Str × Addr)) (Q : Value → Shared → Prop) (xv : Value) (s₁ : Shared) : Prop
  | mk (r : Addr) (t u v : Tok) (news : List (Addr × Obj)) (p : Nat → Nat → Bool) (J : List (Nat × Nat) → List Value → List (Addr × Obj) → Prop) (zz1 : xv = .ref r) (zz2 : A.handled = none) (zz3 : Fr h₀ L s₁.heap m) (zz4 : News h₀ L s₁.heap news) (zz5 : IsRange s₁.heap r 0 5 1 t u v) (zz6 : J [] [] news) (zz7 : (∀ (j : Nat) tj I oI C oC D ys l m₂ news' h tk (E' : Value → Shared → Prop), j < 5 → J l ys news' → LCg.NsObj oC m₂ → m₂ x0 = some (.int (j : Int) tj) → Fr h₀ L h m → News h₀ L h ((I, oI) :: (C, oC) :: (D, LCg.lst ys) :: news') → wpAny (model prog w) A (eval i1 (compEnvC scope cl C env)) (RngAt h₀ L m s₁ j ((I, oI) :: (C, oC) :: (D, LCg.lst ys) :: news')) E' { s₁ with heap := h, toks := tk })) (zz8 : (∀ (i j : Nat) ti tj I1 oI1 I oI C oC D ys l m₂ news' h tk (E' : Value → Shared → Prop), j < 5 → i < j → J l ys news' → LCg.NsObj oC m₂ → m₂ x0 = some (.int (j : Int) tj) → m₂ x1 = some (.int (i : Int) ti) → Fr h₀ L h m → News h₀ L h ((I1, oI1) :: (I, oI) :: (C, oC) :: (D, LCg.lst ys) :: news') → (∀ p ∈ news', p.1 ≠ I1 ∧ p.1 ≠ I ∧ p.1 ≠ C ∧ p.1 ≠ D) → wpAny (model prog w) A (isTrue ct (compEnvC scope cl C env) (eval ct (compEnvC scope cl C env))) (fun ok s' => if ok = true then wpAny (model prog w) A (eval elt (compEnvC scope cl C env)) (End2 h₀ L m { s₁ with heap := h, toks := tk } (I1, oI1) (I, oI) (C, oC) (D, LCg.lst ys) (fun y news'' => p i j = true ∧ J (l ++ [(i, j)]) (ys ++ [y]) news'')) E' s' else End2 h₀ L m { s₁ with heap := h, toks := tk } (I1, oI1) (I, oI) (C, oC) (D, LCg.lst ys) (fun _ news'' => p i j = false ∧ J l ys news'') Value.none s') E' { s₁ with heap := h, toks := tk })) (zz9 : (∀ D ys news' h tk, J (pairsOf p 5) ys news' → Fr h₀ L h m → News h₀ L h ((D, LCg.lst ys) :: news') → (∀ p ∈ news', p.1 ≠ D) → Q (.ref D) { s₁ with heap := h, toks := tk })) : Src2 prog w A h₀ L m env elt ct i1 x0 x1 scope cl Q xv s₁
theorem pairsOf_le {p : Nat → Nat → Bool} {j i : Nat} : (rowOf p j i).length ≤ i := by
  unfold rowOf; rw [List.length_map]; exact Nat.le_trans (List.length_filter_le _ _) (Nat.le_of_eq List.length_range)
section
variable {prog : Program} {A : Around} {E : Value → Shared → Prop} {s : Shared} {h₀ : Heap} {L : Addr} {m : Str → Option Value} {env : Env}
inductive Blk2 (h₀ : Heap) (L : Addr) (m : Str → Option Value) (I C D : Addr) (p : Nat → Nat → Bool) (J : List (Nat × Nat) → List Value → List (Addr × Obj) → Prop) (s₂ : Shared) (k : Nat) : Shared → Prop
  | mk (h' : Heap) (tk j : Nat) (ys : List Value) (m₂ : Str → Option Value) (oC : Obj) (news' : List (Addr × Obj)) (hj : j ≤ 5) (ek : k = 5 + 1 - j) (hyl : ys.length ≤ j * 5) (hst : IsRangeIter h' I (0 + (j : Nat) * 1) ((5 : Nat) - (j : Nat)) 1) (F : Fr h₀ L h' m) (hC : LCg.NsObj oC m₂)
    (N : News h₀ L h' ((C, oC) :: (D, LCg.lst ys) :: news')) (off : ∀ p ∈ news', p.1 ≠ I ∧ p.1 ≠ C ∧ p.1 ≠ D) (hJ : J (pairsOf p j) ys news') : Blk2 h₀ L m I C D p J s₂ k { s₂ with heap := h', toks := tk }
inductive Blk1 (h₀ : Heap) (L : Addr) (m : Str → Option Value) (I1 I C D : Addr) (oI : Obj) (x0 : Str) (j : Nat) (tv : Tok) (p : Nat → Nat → Bool) (J : List (Nat × Nat) → List Value → List (Addr × Obj) → Prop) (s₂ : Shared) (k : Nat) : Shared → Prop
  | mk (h' : Heap) (tk i : Nat) (zs : List Value) (m₃ : Str → Option Value) (oC : Obj) (news'' : List (Addr × Obj)) (hi : i ≤ j) (ek : k = j + 1 - i) (hzl : zs.length ≤ j * 5 + i) (hst : IsRangeIter h' I1 (0 + (i : Nat) * 1) ((j : Int) - (i : Nat)) 1) (F : Fr h₀ L h' m) (hC : LCg.NsObj oC m₃) (hm0 : m₃ x0 = some (.int (j : Int) tv))
    (N : News h₀ L h' ((I, oI) :: (C, oC) :: (D, LCg.lst zs) :: news'')) (off : ∀ p ∈ news'', p.1 ≠ I1 ∧ p.1 ≠ I ∧ p.1 ≠ C ∧ p.1 ≠ D) (hJ : J (pairsOf p j ++ rowOf p j i) zs news'') : Blk1 h₀ L m I1 I C D oI x0 j tv p J s₂ k { s₂ with heap := h', toks := tk }
theorem block_2 {elt iter ct i1 : PySem.Expr} {x0 x1 : Str} {p0 p1 : Pos} {scope : Scope} {cl : List (Str × Addr)} {pos : Pos} {s₂ : Shared} {I : Addr} {news : List (Addr × Obj)} {p : Nat → Nat → Bool} {J : List (Nat × Nat) → List Value → List (Addr × Obj) → Prop} {Q : Value → Shared → Prop} (hh : A.handled = none)
    (hcell : ∀ y ∈ scope.names, y.2 ≠ .cell) (hkind : scope.kind = .function) (hx0 : scope.names.lookup x0 = some .local) (hx1 : scope.names.lookup x1 = some .local) (hxx : x0 ≠ x1) (hs1 : ∀ C x, foldedSetIterable i1 (compEnvC scope cl C env) x = pure x)
    (hst : IsRangeIter s₂.heap I (0 + ((0 : Nat) : Int) * 1) ((5 : Nat) - ((0 : Nat) : Int)) 1) (F : Fr h₀ L s₂.heap m) (N : News h₀ L s₂.heap news) (hIL : L ≠ I) (hI₀ : h₀.get? I = none) (off : ∀ p ∈ news, p.1 ≠ I) (hJ : J [] [] news)
    (src : ∀ (j : Nat) tj I oI C oC D ys l m₂ news' h tk (E' : Value → Shared → Prop), j < 5 → J l ys news' → LCg.NsObj oC m₂ → m₂ x0 = some (.int (j : Int) tj) → Fr h₀ L h m → News h₀ L h ((I, oI) :: (C, oC) :: (D, LCg.lst ys) :: news') →
      wpAny (model prog w) A (eval i1 (compEnvC scope cl C env)) (RngAt h₀ L m s₂ j ((I, oI) :: (C, oC) :: (D, LCg.lst ys) :: news')) E' { s₂ with heap := h, toks := tk })
    (turn : ∀ (i j : Nat) ti tj I1 oI1 I oI C oC D ys l m₂ news' h tk (E' : Value → Shared → Prop), j < 5 → i < j → J l ys news' → LCg.NsObj oC m₂ → m₂ x0 = some (.int (j : Int) tj) → m₂ x1 = some (.int (i : Int) ti) → Fr h₀ L h m → News h₀ L h ((I1, oI1) :: (I, oI) :: (C, oC) :: (D, LCg.lst ys) :: news') → (∀ p ∈ news', p.1 ≠ I1 ∧ p.1 ≠ I ∧ p.1 ≠ C ∧ p.1 ≠ D) →
      wpAny (model prog w) A (isTrue ct (compEnvC scope cl C env) (eval ct (compEnvC scope cl C env))) (fun ok s' => if ok = true then
        wpAny (model prog w) A (eval elt (compEnvC scope cl C env)) (End2 h₀ L m { s₂ with heap := h, toks := tk } (I1, oI1) (I, oI) (C, oC) (D, LCg.lst ys) (fun y news'' => p i j = true ∧ J (l ++ [(i, j)]) (ys ++ [y]) news'')) E' s'
        else End2 h₀ L m { s₂ with heap := h, toks := tk } (I1, oI1) (I, oI) (C, oC) (D, LCg.lst ys) (fun _ news'' => p i j = false ∧ J l ys news'') Value.none s') E' { s₂ with heap := h, toks := tk })
    (done : ∀ D ys news' h tk, J (pairsOf p 5) ys news' → Fr h₀ L h m → News h₀ L h ((D, LCg.lst ys) :: news') → (∀ p ∈ news', p.1 ≠ D) → Q (.ref D) { s₂ with heap := h, toks := tk }) :
    wpAny (model prog w) A (newList []) (fun acc s₃ => wpAny (model prog w) A (newFunctionEnv scope env.globals cl [] env.qual none .none (some env)) (fun cenv s₄ =>
      codeAny (model prog w) A (.compStart (.ListComp elt [⟨.Name x0 p0, iter, [], 0⟩, ⟨.Name x1 p1, i1, [ct], 0⟩] scope pos) 0 (.ref I) acc { cenv with scope := relabel scope env }) (compPost (model prog w) A E none Q acc cenv.locals) s₄) E s₃) E s₂ := by
  have W : Walks prog w A I [I] [I] 5 (fun i v => ∃ t, v = .int (0 + (i : Int)) t) (fun i h => IsRangeIter h I (0 + (i : Nat) * 1) ((5 : Nat) - (i : Nat)) 1) := LCg.range_walks hh 0 5
  refine wpAny_newObj_type (wpAny_newFunctionEnv hcell (by intro y hy; simp at hy) (fun h₁ hns₁ hsb₁ => ?_) hkind)
  dsimp only at hns₁ hsb₁ ⊢
  generalize hH2 : s₂.heap.push { cls := .type "list", dict := none, data := .seq ([] : List Value).toArray } = H2 at hns₁ hsb₁ ⊢
  have z2 : H2.objs.size = s₂.heap.objs.size + 1 := by rw [← hH2, Heap.size_push]
  have ne : ∀ {x y : Nat}, x ≠ y → @Ne Addr x y := fun h => h
  have hIlt0 : @LT.lt Nat _ I s₂.heap.objs.size := by have st' : s₂.heap.get? I = some _ := hst; exact Heap.lt_size st'
  have hLlt0 : @LT.lt Nat _ L s₂.heap.objs.size := F.ns.lt
  have fresh₀ : ∀ a : Addr, @LE.le Nat _ s₂.heap.objs.size a → h₀.get? a = none := fun a ha => by
    cases e : h₀.get? a with
    | none => rfl
    | some o' => exact absurd (Heap.lt_size (F.keep a o' e)) (Nat.not_lt.mpr ha)
  have hNlt : ∀ q ∈ news, @LT.lt Nat _ q.1 s₂.heap.objs.size := fun q hq => Heap.lt_size (N q hq).1
  have hDo2 : H2.get? s₂.heap.objs.size = some (LCg.lst []) := by rw [← hH2]; exact Heap.get?_push_size _ rfl
  have old2 : ∀ b o, s₂.heap.get? b = some o → H2.get? b = some o := fun b o e => hH2 ▸ Heap.get?_push_of_some _ e
  generalize hD : s₂.heap.objs.size = D at *
  generalize hC : H2.objs.size = C at *
  have hC' : C = D + 1 := z2
  have old : ∀ b o, s₂.heap.get? b = some o → h₁.get? b = some o := fun b o e => by
    have : @LT.lt Nat _ b s₂.heap.objs.size := Heap.lt_size e
    exact hsb₁.extBut b o (ne (by omega)) (Heap.get?_push_of_some _ (old2 b o e))
  have hDo : h₁.get? D = some (LCg.lst []) := hsb₁.extBut _ _ (ne (by omega)) (Heap.get?_push_of_some _ hDo2)
  obtain ⟨oC0, hCo, hCn⟩ := LCg.ns_obj hns₁
  have hD₀ := fresh₀ D (Nat.le_refl _)
  have hC₀ := fresh₀ C (by omega)
  have kf : (compEnvC scope cl C env).scope.kind = .function := by simp [compEnvC, relabel, hkind]
  have loop : ∀ s₃ : Shared, s₃ = { s₂ with heap := h₁, toks := s₂.toks + ([] : List (Str × Value)).length } → codeAny (model prog w) A (.compLoop (.ListComp elt [⟨.Name x0 p0, iter, [], 0⟩, ⟨.Name x1 p1, i1, [ct], 0⟩] scope pos) 0 (.ref I) (.ref D) (compEnvC scope cl C env))
        (compPost (model prog w) A E none Q (.ref D) C) s₃ := by
    rintro s₃ rfl
    refine loop_two0
      (Blk2 h₀ L m I C D p J s₂) ?_ (5 + 1)
      (.mk h₁ _ 0 [] _ oC0 news (Nat.zero_le _) rfl (Nat.zero_le _) (old _ _ hst) (F.keeps old) hCn ?_ ?_ hJ) (hs1 C)
    · intro k s' hI5
      k_fold
      obtain ⟨h', tk, j, ys, m₂, oC, news', hj, rfl, hyl, hst', F', hCn', N', off', hJ'⟩ := hI5
      by_cases hlt : j < 5
      · refine W.item j _ _ _ hlt hst' fun v h₂ tk₂ hPv hst₂ hk₂ => ?_
        obtain ⟨tv, rfl⟩ := hPv
        rw [Int.zero_add]
        have k2 : ∀ b o, b ≠ I → h'.get? b = some o → h₂.get? b = some o := fun b o hb e => hk₂ b o (by simpa using hb) e
        have zC : h₂.get? C = some oC := k2 _ _ (ne (by omega)) (N' (C, oC) (.head _)).1
        refine wpAny_assign_Name (wpAny_storeName_local (lookup_relabel_local hx0) (hCn'.ns zC) (fun h₃ hn₃ hs₃ => ?_) (by rw [kf]; rfl))
        replace hs₃ : Heap.SameBut C h₂ h₃ := hs₃
        obtain ⟨oC3, hoC3, hnC3⟩ := LCg.ns_obj hn₃
        have k3 : ∀ b o, b ≠ I → b ≠ C → h'.get? b = some o → h₃.get? b = some o := fun b o hb hb' e => hs₃.extBut b o hb' (k2 b o hb e)
        have st₂ : h₂.get? I = some _ := hst₂
        obtain ⟨oI, st₃, hoI⟩ : ∃ oI, h₃.get? I = some oI ∧ ∀ h'' : Heap, h''.get? I = some oI → IsRangeIter h'' I (0 + ((j + 1 : Nat) : Int) * 1) ((5 : Nat) - ((j + 1 : Nat) : Int)) 1 := ⟨_, hs₃.extBut _ _ (ne (by omega)) st₂, fun _ e => e⟩
        have F₃ : Fr h₀ L h₃ m := (LCg.fr_but F' hk₂ hIL hI₀).change hs₃ (ne (by omega)) hC₀
        have N₃ : News h₀ L h₃ ((I, oI) :: (C, oC3) :: (D, LCg.lst ys) :: news') := by
          refine List.forall_mem_cons.mpr ⟨⟨st₃, Ne.symm hIL, hI₀⟩, List.forall_mem_cons.mpr ⟨⟨hoC3, ne (by omega), hC₀⟩, List.forall_mem_cons.mpr ⟨⟨k3 _ _ (ne (by omega)) (ne (by omega)) (N' (D, LCg.lst ys) (.tail _ (.head _))).1, ne (by omega), hD₀⟩, fun p hp => ?_⟩⟩⟩
          obtain ⟨q1, q2, q3⟩ := off' p hp
          have := N' p (.tail _ (.tail _ hp))
          exact ⟨k3 _ _ q1 q2 this.1, this.2⟩
        refine wpAny_mono (src j tv I oI C oC3 D ys (pairsOf p j) _ news' h₃ _ _ hlt hJ' hnC3 (by simp) F₃ N₃) (fun xv1 s₄ h₄ => ?_) fun _ _ e => e
        k_fold
        obtain ⟨r1, t1, u1, v1, h₄, tk₄, rfl, rfl, hr1, F₄, N₄⟩ := h₄
        refine wpAny_pyIter_range hr1 (small_nat hlt) ?_
        rw [size_nat]
        have hI1I : @LT.lt Nat _ I h₄.objs.size := Heap.lt_size (N₄ (I, oI) (.head _)).1
        have hI1C : @LT.lt Nat _ C h₄.objs.size := Heap.lt_size (N₄ (C, oC3) (.tail _ (.head _))).1
        have hI1D : @LT.lt Nat _ D h₄.objs.size := Heap.lt_size (N₄ (D, LCg.lst ys) (.tail _ (.tail _ (.head _)))).1
        have hI1L : @LT.lt Nat _ L h₄.objs.size := F₄.ns.lt
        have hI1₀ : h₀.get? h₄.objs.size = none := by
          cases e : h₀.get? h₄.objs.size with
          | none => rfl
          | some o' => exact absurd (Heap.lt_size (F₄.keep _ o' e)) (Nat.lt_irrefl _)
        have offN : ∀ q ∈ news', @LT.lt Nat _ q.1 h₄.objs.size := fun q hq => Heap.lt_size (N₄ q (.tail _ (.tail _ (.tail _ hq)))).1
        have W1 : Walks prog w A h₄.objs.size [h₄.objs.size] [h₄.objs.size] j (fun i v => ∃ t, v = .int (0 + (i : Int)) t) (fun i h => IsRangeIter h h₄.objs.size (0 + (i : Nat) * 1) ((j : Int) - (i : Nat)) 1) := LCg.range_walks hh 0 j
        have push4 : ∀ b o, h₄.get? b = some o → (h₄.push { cls := .type "range_iterator", data := .fields #[rawInt 0, rawInt (j : Int), rawInt 1] }).get? b = some o := fun b o e => Heap.get?_push_of_some _ e
        have st40 : IsRangeIter (h₄.push { cls := .type "range_iterator", data := .fields #[rawInt 0, rawInt (j : Int), rawInt 1] }) h₄.objs.size (0 + ((0 : Nat) : Int) * 1) ((j : Int) - ((0 : Nat) : Int)) 1 := by show IsRangeIter _ _ _ _ _; simpa using Heap.get?_push_size _ rfl
        generalize hI1 : h₄.objs.size = I1 at *
        generalize hH5 : h₄.push { cls := .type "range_iterator", data := .fields #[rawInt 0, rawInt (j : Int), rawInt 1] } = H5 at *
        have inner : codeAny (model prog w) A (.compLoop (.ListComp elt [⟨.Name x0 p0, iter, [], 0⟩, ⟨.Name x1 p1, i1, [ct], 0⟩] scope pos) 1 (.ref I1) (.ref D) (compEnvC scope cl C env))
            (fun r s₅ => match r with
              | .ok _ => ∃ m', m' < 5 + 1 - j ∧ Blk2 h₀ L m I C D p J s₂ m' s₅
              | .error e => cameBackBy (model prog w) A (compEnvC scope cl C env) (notedBy (model prog w) A (compEnvC scope cl C env) fun e s' => compPost (model prog w) A E none Q (.ref D) C (.error e) s') e s₅) { s₂ with heap := H5, toks := tk₄ } := by
          refine loop_two1
            (Blk1 h₀ L m I1 I C D oI x0 j tv p J s₂) ?_ (j + 1)
            (.mk H5 _ 0 ys _ oC3 news' (Nat.zero_le _) rfl (by omega) st40 (F₄.keeps push4) hnC3 (by simp) (fun q hq => ⟨push4 _ _ (N₄ q hq).1, (N₄ q hq).2⟩) (fun q hq => ⟨ne (by have := offN q hq; omega), (off' q hq).1, (off' q hq).2.1, (off' q hq).2.2⟩) (by simpa [rowOf] using hJ'))
          intro k s' hI5
          k_fold
          obtain ⟨h', tk, i, zs, m₃, oC, news'', hi, rfl, hzl, hst', F', hCn', hm0, N', off', hJ'⟩ := hI5
          by_cases hlt1 : i < j
          · refine W1.item i _ _ _ hlt1 hst' fun v h₂ tk₂ hPv hst₂ hk₂ => ?_
            obtain ⟨ti, rfl⟩ := hPv
            rw [Int.zero_add]
            have k2 : ∀ b o, b ≠ I1 → h'.get? b = some o → h₂.get? b = some o := fun b o hb e => hk₂ b o (by simpa using hb) e
            have zC : h₂.get? C = some oC := k2 _ _ (ne (by omega)) (N' (C, oC) (.tail _ (.head _))).1
            refine wpAny_assign_Name (wpAny_storeName_local (lookup_relabel_local hx1) (hCn'.ns zC) (fun h₃ hn₃ hs₃ => ?_) (by rw [kf]; rfl))
            replace hs₃ : Heap.SameBut C h₂ h₃ := hs₃
            obtain ⟨oC5, hoC5, hnC5⟩ := LCg.ns_obj hn₃
            have k3 : ∀ b o, b ≠ I1 → b ≠ C → h'.get? b = some o → h₃.get? b = some o := fun b o hb hb' e => hs₃.extBut b o hb' (k2 b o hb e)
            have st₂ : h₂.get? I1 = some _ := hst₂
            obtain ⟨oI1, st₃, hoI1⟩ : ∃ oI1, h₃.get? I1 = some oI1 ∧ ∀ h'' : Heap, h''.get? I1 = some oI1 → IsRangeIter h'' I1 (0 + ((i + 1 : Nat) : Int) * 1) ((j : Int) - ((i + 1 : Nat) : Int)) 1 := ⟨_, hs₃.extBut _ _ (ne (by omega)) st₂, fun _ e => e⟩
            have F₃ : Fr h₀ L h₃ m := (LCg.fr_but F' hk₂ (ne (by omega)) hI1₀).change hs₃ (ne (by omega)) hC₀
            have N₃ : News h₀ L h₃ ((I1, oI1) :: (I, oI) :: (C, oC5) :: (D, LCg.lst zs) :: news'') := by
              refine List.forall_mem_cons.mpr ⟨⟨st₃, ne (by omega), hI1₀⟩, List.forall_mem_cons.mpr ⟨⟨k3 _ _ (ne (by omega)) (ne (by omega)) (N' (I, oI) (.head _)).1, Ne.symm hIL, hI₀⟩, List.forall_mem_cons.mpr ⟨⟨hoC5, ne (by omega), hC₀⟩, List.forall_mem_cons.mpr ⟨⟨k3 _ _ (ne (by omega)) (ne (by omega)) (N' (D, LCg.lst zs) (.tail _ (.tail _ (.head _)))).1, ne (by omega), hD₀⟩, fun q hq => ?_⟩⟩⟩⟩
              obtain ⟨q1, q2, q3, q4⟩ := off' q hq
              have := N' q (.tail _ (.tail _ (.tail _ hq)))
              exact ⟨k3 _ _ q1 q3 this.1, this.2⟩
            have hm0' : (fun y => if y = x1 then some (Value.int (i : Int) ti) else m₃ y) x0 = some (.int (j : Int) tv) := by dsimp only; rw [if_neg hxx]; exact hm0
            refine wpAny_mono (turn i j ti tv I1 oI1 I oI C oC5 D zs _ _ news'' h₃ _ _ hlt hlt1 hJ' hnC5 hm0' (by simp) F₃ N₃ off') (fun ok s₄ h₄ => ?_) fun _ _ e => e
            cases ok with
            | true =>
              rw [if_pos rfl] at h₄
              rw [if_pos rfl]
              refine wpAny_mono h₄ (fun y s₅ h₅ => ?_) fun _ _ e => e
              obtain ⟨h₆, tk₆, news₆, rfl, F₆, N₆, off₆, hp, hJ₆⟩ := h₅
              have zD := (N₆ (D, LCg.lst zs) (.tail _ (.tail _ (.tail _ (.head _))))).1
              refine append_at (hsz := by rw [List.size_toArray, PySem.sizeLine_eq]; omega) zD fun h₇ hs₇ hD₇ => ?_
              have k7 : ∀ b o, b ≠ D → h₆.get? b = some o → h₇.get? b = some o := fun b o hb e => hs₇.extBut b o hb e
              refine ⟨j + 1 - (i + 1), by omega, .mk h₇ tk₆ (i + 1) (zs ++ [y]) _ oC5 news₆ hlt1 rfl (by rw [List.length_append, List.length_singleton]; omega) (hoI1 _ (k7 _ _ (ne (by omega)) (N₆ (I1, oI1) (.head _)).1)) (F₆.change hs₇ (ne (by omega)) hD₀) hnC5 hm0' ?_ off₆ ?_⟩
              · refine List.forall_mem_cons.mpr ⟨⟨k7 _ _ (ne (by omega)) (N₆ (I, oI) (.tail _ (.head _))).1, Ne.symm hIL, hI₀⟩, List.forall_mem_cons.mpr ⟨⟨k7 _ _ (ne (by omega)) (N₆ (C, oC5) (.tail _ (.tail _ (.head _)))).1, ne (by omega), hC₀⟩,
                  List.forall_mem_cons.mpr ⟨⟨hD₇.trans (congrArg some (LCg.lst_snoc zs y)), ne (by omega), hD₀⟩, fun q hq => ?_⟩⟩⟩
                have := N₆ q (.tail _ (.tail _ (.tail _ (.tail _ hq))))
                exact ⟨k7 _ _ (off₆ q hq).2.2.2 this.1, this.2⟩
              · rw [rowOf_yes hp, ← List.append_assoc]; exact hJ₆
            | false =>
              rw [if_neg (by decide)] at h₄
              rw [if_neg (by decide)]
              obtain ⟨h₆, tk₆, news₆, rfl, F₆, N₆, off₆, hp, hJ₆⟩ := h₄
              refine ⟨j + 1 - (i + 1), by omega, .mk h₆ tk₆ (i + 1) zs _ oC5 news₆ hlt1 rfl (by omega) (hoI1 _ (N₆ (I1, oI1) (.head _)).1) F₆ hnC5 hm0' (fun q hq => N₆ q (.tail _ hq)) off₆ ?_⟩
              rw [rowOf_no hp]; exact hJ₆
          · obtain rfl : i = j := Nat.le_antisymm hi (Nat.not_lt.mp hlt1)
            refine W1.done _ _ _ hst' fun h₂ tk₂ hk₂ => ?_
            have k2 : ∀ b o, b ≠ I1 → h'.get? b = some o → h₂.get? b = some o := fun b o hb e => hk₂ b o (by simpa using hb) e
            refine ⟨5 + 1 - (i + 1), by omega, .mk h₂ tk₂ (i + 1) zs m₃ oC news'' hlt rfl (by omega) (hoI _ (k2 _ _ (ne (by omega)) (N' (I, oI) (.head _)).1)) (LCg.fr_but F' hk₂ (ne (by omega)) hI1₀) hCn' ?_ (fun q hq => (off' q hq).2) (by rw [pairsOf_succ]; exact hJ')⟩
            refine List.forall_mem_cons.mpr ⟨⟨k2 _ _ (ne (by omega)) (N' (C, oC) (.tail _ (.head _))).1, ne (by omega), hC₀⟩, List.forall_mem_cons.mpr ⟨⟨k2 _ _ (ne (by omega)) (N' (D, LCg.lst zs) (.tail _ (.tail _ (.head _)))).1, ne (by omega), hD₀⟩, fun q hq => ?_⟩⟩
            have := N' q (.tail _ (.tail _ (.tail _ hq)))
            exact ⟨k2 _ _ (off' q hq).1 this.1, this.2⟩
        exact start_two1 inner (W1.self 0 _ _ _ st40 inner)
      · obtain rfl : j = 5 := Nat.le_antisymm hj (Nat.not_lt.mp hlt)
        refine W.done _ _ _ hst' fun h₂ tk₂ hk₂ => ?_
        have k2 : ∀ b o, b ≠ I → h'.get? b = some o → h₂.get? b = some o := fun b o hb e => hk₂ b o (by simpa using hb) e
        have F₂ := LCg.fr_but F' hk₂ hIL hI₀
        have zC : h₂.get? C = some oC := k2 _ _ (ne (by omega)) (N' (C, oC) (.head _)).1
        refine ⟨_, hCn'.ns zC, fun h'' hs'' => done D ys news' h'' tk₂ hJ' (F₂.change hs'' (ne (by omega)) hC₀) (List.forall_mem_cons.mpr ⟨⟨hs''.extBut _ _ (ne (by omega)) (k2 _ _ (ne (by omega)) (N' (D, LCg.lst ys) (.tail _ (.head _))).1), ne (by omega), hD₀⟩, fun p hp => ?_⟩) fun p hp => (off' p hp).2.2⟩
        obtain ⟨q1, q2, q3⟩ := off' p hp
        have := N' p (.tail _ (.tail _ hp))
        exact ⟨hs''.extBut _ _ q2 (k2 _ _ q1 this.1), this.2⟩
    · refine List.forall_mem_cons.mpr ⟨⟨hCo, ne (by omega), hC₀⟩, List.forall_mem_cons.mpr ⟨⟨hDo, ne (by omega), hD₀⟩, fun p hp => ⟨old _ _ (N p hp).1, (N p hp).2⟩⟩⟩
    · intro q hq
      have l := hNlt q hq
      exact ⟨off q hq, ne (by omega), ne (by omega)⟩
  exact codeAny_compStart_list (loop _ rfl) (W.self 0 _ _ _ (old _ _ hst) (loop _ rfl))
end
theorem ListComp_2 {prog : Program} {A : Around} {E : Value → Shared → Prop} {s : Shared} {h₀ : Heap} {L : Addr} {m : Str → Option Value} {env : Env} {elt iter ct i1 : PySem.Expr} {x0 x1 : Str} {p0 p1 : Pos} {scope : Scope} {cl : List (Str × Addr)} {pos : Pos} {Q : Value → Shared → Prop} (F₀ : Fr h₀ L s.heap m)
    (hclos : closureFor scope env = pure cl) (hcell : ∀ y ∈ scope.names, y.2 ≠ .cell) (hkind : scope.kind = .function)
    (hnames : ∀ y ∈ scope.names, y.2 = .local → scope.names.lookup y.1 = some .local) (hx0 : scope.names.lookup x0 = some .local) (hx1 : scope.names.lookup x1 = some .local) (hxx : x0 ≠ x1) (hs1 : ∀ C x, foldedSetIterable i1 (compEnvC scope cl C env) x = pure x)
    (h : wpAny (model prog w) A (eval iter env) (Src2 prog w A h₀ L m env elt ct i1 x0 x1 scope cl Q) E s)
    (hs : ∀ x, foldedSetIterable iter env x = pure x := by intro _; rfl) :
    wpAny (model prog w) A (eval (.ListComp elt [⟨.Name x0 p0, iter, [], 0⟩, ⟨.Name x1 p1, i1, [ct], 0⟩] scope pos) env) Q E s := by
  rw [eval_ListComp]
  refine wpAny_comprehension_free (use := none) rfl hs hclos hkind hnames (wpAny_mono h (fun xv s₁ h₁ => ?_) fun _ _ e => e)
  obtain ⟨r, t, u, v, news, p, J, rfl, hh, F, N, hr, hJ, src, turn, done⟩ := h₁
  refine wpAny_pyIter_range hr rfl ?_
  exact block_2 hh hcell hkind hx0 hx1 hxx hs1 (by exact Heap.get?_push_size _ rfl) (F.push _) (fun p hp => ⟨Heap.get?_push_of_some _ (N p hp).1, (N p hp).2⟩) (Nat.ne_of_lt F.ns.lt) (next_is_new F) (fun p hp => Nat.ne_of_lt (Heap.lt_size (N p hp).1)) hJ
    (fun j tj I oI C oC D ys l m₂ news' h tk E' h1 h2 h3 h4 h5 h6 => src j tj I oI C oC D ys l m₂ news' h tk E' h1 h2 h3 h4 h5 h6)
    (fun i j ti tj I1 oI1 I oI C oC D ys l m₂ news' h tk E' h1 h2 h3 h4 h5 h6 h7 h8 h9 => turn i j ti tj I1 oI1 I oI C oC D ys l m₂ news' h tk E' h1 h2 h3 h4 h5 h6 h7 h8 h9)
    (fun D ys news' h tk h1 h2 h3 h4 => done D ys news' h tk h1 h2 h3 h4)
inductive BackC (h₀ : Heap) (L : Addr) (Jn : (Str → Option Value) → List (Addr × Obj) → Prop) (e1 e2 : Addr × Obj) (s₁ : Shared) : Shared → Prop
  | mk (h' : Heap) (tk : Nat) (m' : Str → Option Value) (news' : List (Addr × Obj)) (F : Fr h₀ L h' m') (N : News h₀ L h' (e1 :: e2 :: news')) (off : ∀ p ∈ news', p.1 ≠ e1.1 ∧ p.1 ≠ e2.1) (j : Jn m' news') : BackC h₀ L Jn e1 e2 s₁ { s₁ with heap := h', toks := tk }
inductive LoopC (h₀ : Heap) (L : Addr) (J : Nat → (Str → Option Value) → List (Addr × Obj) → Prop) (I c : Addr) (St : Nat → Heap → Prop) (n : Nat) (s₁ : Shared) (k : Nat) : Shared → Prop
  | mk (h : Heap) (tk : Nat) (m' : Str → Option Value) (news' : List (Addr × Obj)) (i : Nat) (oc : Obj) (v : Option Value) (hcd : oc.data = .cell v) (st : St i h) (F : Fr h₀ L h m') (N : News h₀ L h ((c, oc) :: news')) (off : ∀ p ∈ news', p.1 ≠ I ∧ p.1 ≠ c) (j : J i m' news') (hi : i ≤ n) (e : k = n - i) :
      LoopC h₀ L J I c St n s₁ k { s₁ with heap := h, toks := tk }
noncomputable def TurnC (h₀ : Heap) (L : Addr) (Jn : (Str → Option Value) → List (Addr × Obj) → Prop) (e1 e2 : Addr × Obj) (s₁ : Shared) (Q : Flow → Shared → Prop) (f : Flow) (s₂ : Shared) : Prop := match f with
  | .ret v => Q (.ret v) s₂
  | .brk => Q .next s₂
  | _ => BackC h₀ L Jn e1 e2 s₁ s₂
theorem TurnC.next {h₀ h' : Heap} {L : Addr} {Jn : (Str → Option Value) → List (Addr × Obj) → Prop} {e1 e2 : Addr × Obj} {s₁ : Shared} {Q : Flow → Shared → Prop} {tk : Nat} {m' : Str → Option Value} {news' : List (Addr × Obj)}
    (F : Fr h₀ L h' m') (N : News h₀ L h' (e1 :: e2 :: news')) (o : ∀ p ∈ news', p.1 ≠ e1.1 ∧ p.1 ≠ e2.1) (j : Jn m' news') : TurnC h₀ L Jn e1 e2 s₁ Q .next { s₁ with heap := h', toks := tk } := .mk h' tk m' news' F N o j
section
variable {prog : Program} {A : Around} {E : Value → Shared → Prop} {s : Shared} {env : Env} {h₀ : Heap} {x : Str} {body : List Stmt} {Q : Flow → Shared → Prop}
theorem name_loopC {I c : Addr} {fp : List Addr} {n : Nat} {P : Nat → Value → Prop} {St : Nat → Heap → Prop} {m₀ : Str → Option Value} {news : List (Addr × Obj)} {oc0 : Obj} {v00 : Option Value}
    (W : Walks prog w A I fp [I] n P St) (J : Nat → (Str → Option Value) → List (Addr × Obj) → Prop)
    (hx : env.kindOf x = some .cell) (hk : env.scope.kind = .function) (hc : env.cells.lookup x = some c) (hI : ∀ i h, St i h → ∃ o, h.get? I = some o) (hIL : I ≠ env.locals) (hI0 : h₀.get? I = none) (hIc : I ≠ c) (hfc : c ∉ fp)
    (hJm : ∀ b ∈ fp, b ≠ I → ∃ o, ∀ i m₁ news₁, J i m₁ news₁ → (b, o) ∈ news₁)
    (hst : St 0 s.heap) (F : Fr h₀ env.locals s.heap m₀) (N : News h₀ env.locals s.heap ((c, oc0) :: news)) (hd0 : oc0.data = .cell v00) (hn : ∀ p ∈ news, p.1 ≠ I ∧ p.1 ≠ c) (hj : J 0 m₀ news)
    (turn : ∀ (i : Nat) v m₁ news₁ h tk oI oc, i < n → P i v → J i m₁ news₁ → (∀ p ∈ news₁, p.1 ≠ I ∧ p.1 ≠ c) → oc.data = .cell (some v) → Fr h₀ env.locals h m₁ → News h₀ env.locals h ((I, oI) :: (c, oc) :: news₁) →
      wpAny (model prog w) A (execs body env) (TurnC h₀ env.locals (J (i + 1)) (I, oI) (c, oc) { s with heap := h, toks := tk } Q) (notedBy (model prog w) A env fun e s' => cameBackBy (model prog w) A env E e s') { s with heap := h, toks := tk })
    (done : ∀ m₁ news₁ oc v h tk, J n m₁ news₁ → oc.data = .cell v → (∀ p ∈ news₁, p.1 ≠ c) → Fr h₀ env.locals h m₁ → News h₀ env.locals h ((c, oc) :: news₁) → Q .next { s with heap := h, toks := tk }) :
    NameLoopAt prog w A env x body Q E (.ref I) s := by
  intro px
  refine codeAny_forLoop (LoopC h₀ env.locals J I c St n s) ?_ n (.mk s.heap s.toks m₀ news 0 oc0 v00 hd0 hst F N hn hj (Nat.zero_le _) rfl)
  intro k s' hL
  k_fold
  obtain ⟨h, tk, m', news', i, oc, v0, hcd, st, F', N', off, hJ, hi, rfl⟩ := hL
  have hcL : c ≠ env.locals := (N' (c, oc) (.head _)).2.1
  have hc₀ : h₀.get? c = none := (N' (c, oc) (.head _)).2.2
  have keepF : ∀ {h' : Heap}, (∀ b o, b ∉ [I] → h.get? b = some o → h'.get? b = some o) → Fr h₀ env.locals h' m' ∧ News h₀ env.locals h' ((c, oc) :: news') := fun hk => by
    refine ⟨⟨F'.ns.at fun o x => hk _ o (fun e => hIL (List.mem_singleton.mp e).symm) x, fun b o e => hk b o (fun e' => ?_) (F'.keep b o e), F'.above⟩, fun p hp => ⟨hk _ _ (fun e => ?_) (N' p hp).1, (N' p hp).2⟩⟩
    · rw [List.mem_singleton.mp e', hI0] at e; cases e
    · rcases List.mem_cons.mp hp with rfl | hp
      · exact hIc (List.mem_singleton.mp e).symm
      · exact (off p hp).1 (List.mem_singleton.mp e)
  by_cases hin : i < n
  · refine W.item i _ _ _ hin st fun v h₁ tk₁ hPv st₁ hk₁ => ?_
    obtain ⟨F₁, N₁⟩ := keepF hk₁
    refine wpAny_assign_Name (wpAny_storeName_cell hk hx hc ⟨oc, (N₁ (c, oc) (.head _)).1, hcd⟩ (fun h₂ hc₂ hs₂ => ?_))
    obtain ⟨oc2, hoc2, hd2⟩ := hc₂
    have F₂ : Fr h₀ env.locals h₂ m' := F₁.change hs₂ hcL hc₀
    obtain ⟨oI, hoI⟩ := hI _ _ st₁
    have hoI₂ : h₂.get? I = some oI := (hs₂.2 I hIc).trans hoI
    have N₂ : News h₀ env.locals h₂ ((I, oI) :: (c, oc2) :: news') := by
      refine List.forall_mem_cons.mpr ⟨⟨hoI₂, hIL, hI0⟩, List.forall_mem_cons.mpr ⟨⟨hoc2, hcL, hc₀⟩, fun p hp => ?_⟩⟩
      have := N₁ p (.tail _ hp)
      exact ⟨hs₂.extBut _ _ (off p hp).2 this.1, this.2⟩
    have st₂ : St (i + 1) h₂ := W.frame _ _ _ st₁ fun b hb o e => hs₂.extBut b o (fun q => hfc (by have q' : b = c := q; rw [← q']; exact hb)) e
    refine wpAny_mono (turn i v m' news' h₂ _ oI oc2 hin hPv hJ off hd2 F₂ N₂) (fun f s₃ q => ?_) fun _ _ e => e
    have fin : BackC h₀ env.locals (J (i + 1)) (I, oI) (c, oc2) { s with heap := h₂, toks := tk₁ } s₃ → ∃ k', k' < n - i ∧ LoopC h₀ env.locals J I c St n s k' s₃ := by
      rintro ⟨h₆, tk₆, m'', news'', F₆, N₆, off₆, hJ₆⟩
      refine ⟨n - (i + 1), by omega, .mk h₆ tk₆ m'' news'' (i + 1) oc2 (some v) hd2 (W.frame (i + 1) h₂ h₆ st₂ fun b hb o e => ?_) F₆ (fun p hp => N₆ p (.tail _ hp)) off₆ hJ₆ hin rfl⟩
      by_cases hbI : b = I
      · subst hbI
        rw [hoI₂] at e
        cases e
        exact (N₆ (b, oI) (.head _)).1
      · obtain ⟨o', ho'⟩ := hJm b hb hbI
        have e1 : h₂.get? b = some o' := (N₂ _ (.tail _ (.tail _ (ho' _ _ _ hJ)))).1
        rw [e] at e1
        cases e1
        exact (N₆ _ (.tail _ (.tail _ (ho' _ _ _ hJ₆)))).1
    cases f with
    | next => exact fin q
    | cont => exact fin q
    | brk => exact q
    | ret v => exact q
  · rw [Nat.le_antisymm hi (Nat.not_lt.mp hin)] at st hJ
    refine W.done _ _ _ st fun h₁ tk₁ hk₁ => wpAny_execs_nil ?_
    obtain ⟨F₂, N₂⟩ := keepF hk₁
    exact done m' news' oc v0 h₁ tk₁ hJ hcd (fun p hp => (off p hp).2) F₂ N₂
theorem texts_loopC {a c : Addr} {f : Nat → Str} {t0 t1 t2 t3 t4 : Tok} {na : Nat} {m₀ : Str → Option Value} {news : List (Addr × Obj)} {oc0 : Obj} {v00 : Option Value} (J : Nat → (Str → Option Value) → List (Addr × Obj) → Prop)
    (hh : A.handled = none) (hx : env.kindOf x = some .cell) (hk : env.scope.kind = .function) (hc : env.cells.lookup x = some c) (ha : (a, PySem.W.listOf (List.toArray [.str (f 0) t0, .str (f 1) t1, .str (f 2) t2, .str (f 3) t3, .str (f 4) t4]) na) ∈ news)
    (hJm : ∀ i m₁ news₁, J i m₁ news₁ → ∀ p ∈ news, (p = (a, PySem.W.listOf (List.toArray [.str (f 0) t0, .str (f 1) t1, .str (f 2) t2, .str (f 3) t3, .str (f 4) t4]) na)) → p ∈ news₁)
    (F : Fr h₀ env.locals s.heap m₀) (N : News h₀ env.locals s.heap ((c, oc0) :: news)) (hd0 : oc0.data = .cell v00) (hn : ∀ p ∈ news, p.1 ≠ c) (hj : J 0 m₀ news)
    (turn : ∀ (i : Nat) t m₁ news₁ h tk I oI oc, i < 5 → J i m₁ news₁ → (∀ p ∈ news₁, p.1 ≠ I ∧ p.1 ≠ c) → @Ne Addr I c → oc.data = .cell (some (.str (f i) t)) → Fr h₀ env.locals h m₁ → News h₀ env.locals h ((I, oI) :: (c, oc) :: news₁) →
      wpAny (model prog w) A (execs body env) (TurnC h₀ env.locals (J (i + 1)) (I, oI) (c, oc) { s with heap := h, toks := tk } Q) (notedBy (model prog w) A env fun e s' => cameBackBy (model prog w) A env E e s') { s with heap := h, toks := tk })
    (done : ∀ m₁ news₁ oc v h tk, J 5 m₁ news₁ → oc.data = .cell v → (∀ p ∈ news₁, p.1 ≠ c) → Fr h₀ env.locals h m₁ → News h₀ env.locals h ((c, oc) :: news₁) → Q .next { s with heap := h, toks := tk }) :
    wpAny (model prog w) A (pyIter (.ref a)) (fun it s₂ => NameLoopAt prog w A env x body Q E it s₂) E s := by
  have hl := News.isList N (.tail _ ha)
  have hlt : @LT.lt Nat _ a s.heap.objs.size := by obtain ⟨_, e, _⟩ := hl; exact Heap.lt_size e
  have hclt : @LT.lt Nat _ c s.heap.objs.size := Heap.lt_size (N (c, oc0) (.head _)).1
  have ne : ∀ {x y : Nat}, x ≠ y → @Ne Addr x y := fun h => h
  refine wpAny_pyIter_list hl ?_
  have up : ∀ b o, s.heap.get? b = some o → (s.heap.push { cls := .type "list_iterator", data := .fields #[.ref a, .int 0 0] }).get? b = some o := fun b o e => Heap.get?_push_of_some _ e
  refine name_loopC (Walks.list hh s.heap.objs.size a (Nat.ne_of_lt hlt) _) J hx hk hc (fun i h st => by obtain ⟨o, e, _⟩ := st.1; exact ⟨o, e⟩) ?_ (next_is_new F) (ne (by omega)) ?_ ?_ ⟨⟨_, Heap.get?_push_size _ rfl, rfl, rfl⟩, hl.push _⟩ (F.keeps up) (N.grown up) hd0 (fun p hp => ⟨Nat.ne_of_lt (Heap.lt_size (N p (.tail _ hp)).1), hn p hp⟩) hj ?_ done
  · intro e; exact absurd F.ns.lt (e ▸ Nat.lt_irrefl _)
  · intro hm
    rcases List.mem_cons.mp hm with e | hm
    · exact absurd e (ne (by omega))
    · exact hn _ ha (List.mem_singleton.mp hm).symm
  · intro b hb hbI
    rcases List.mem_cons.mp hb with e | hb
    · exact absurd e hbI
    · rw [List.mem_singleton.mp hb]
      exact ⟨_, fun i m₁ news₁ hJ => hJm i m₁ news₁ hJ _ ha rfl⟩
  · intro i v m₁ news₁ h tk oI oc hi hv hJ off hd F' N'
    obtain ⟨t, rfl⟩ := lit5S hv
    exact turn i t m₁ news₁ h tk _ oI oc hi hJ off (ne (by omega)) hd F' N'
end
noncomputable def PairAt (news : List (Addr × Obj)) (ij : Nat × Nat) (y : Value) : Prop := ∃ T ti tj, y = .ref T ∧ (T, tupO [.int (ij.1 : Int) ti, .int (ij.2 : Int) tj]) ∈ news
theorem PairAt.mono {news news' : List (Addr × Obj)} {ij : Nat × Nat} {y : Value} (h : PairAt news ij y) (sub : ∀ p ∈ news, p ∈ news') : PairAt news' ij y := by
  obtain ⟨T, ti, tj, e, hm⟩ := h
  exact ⟨T, ti, tj, e, sub _ hm⟩
theorem Paired.mono {α β : Type} {F G : α → β → Prop} (h : ∀ a b, F a b → G a b) : ∀ {l : List α} {r : List β}, PySem.Paired F l r → PySem.Paired G l r
  | _, _, .nil => .nil
  | _, _, .cons a r => .cons (h _ _ a) (Paired.mono h r)
theorem Paired.at {α β : Type} {F : α → β → Prop} : ∀ {l : List α} {r : List β}, PySem.Paired F l r → ∀ {i : Nat} {b : β}, r[i]? = some b → ∃ a, l[i]? = some a ∧ F a b
  | _, _, .nil, i, b, h => by simp at h
  | _, _, .cons (a := a) h1 r, 0, b, h => by cases h; exact ⟨a, rfl, h1⟩
  | _, _, .cons _ r, i + 1, b, h => Paired.at r h
section
variable {prog : Program} {A : Around} {h₀ : Heap} {L : Addr} {m : Str → Option Value} {env : Env} {elt : PySem.Expr} {x x₂ : Str} {scope : Scope} {cl : List (Str × Addr)} {s : Shared} {S : List (Addr × Obj) → Prop} {Fin : List Value → List (Addr × Obj) → Prop} {news : List (Addr × Obj)}
theorem restP_each {l : List (Nat × Nat)} {ys : List Value} (hP : PySem.Paired (PairAt news) l ys) (G : Nat × Nat → Value → Prop)
    (turn : ∀ (ij : Nat × Nat) ti tj I oI C oC D m₂ zs h tk (E' : Value → Shared → Prop), ij ∈ l → LCg.NsObj oC m₂ → m₂ x = some (.int (ij.1 : Int) ti) → m₂ x₂ = some (.int (ij.2 : Int) tj) → Fr h₀ L h m → News h₀ L h ((I, oI) :: (C, oC) :: (D, LCg.lst zs) :: news) → LCg.Off3 I C D news → ((@Ne Nat I C) ∧ (@Ne Nat I D) ∧ (@Ne Nat C D)) →
      wpAny (model prog w) A (eval elt (compEnvC scope cl C env)) (LCg.CompEnd h₀ L m { s with heap := h, toks := tk } I oI C oC D (LCg.lst zs) S (Turned news (G ij))) E' { s with heap := h, toks := tk })
    (fin : ∀ zs, PySem.Paired G l zs → Fin zs news) : LCp.CompRestP prog w A h₀ L m env elt x x₂ scope cl s S (fun i v => ys.toArray[i]? = some v) Fin ys.toArray.size 0 [] news := by
  have hlen : ys.toArray.size = l.length := by rw [List.size_toArray, PySem.Paired.length hP]
  have key : ∀ (j i : Nat) (zs : List Value), i + j = l.length → PySem.Paired G (l.take i) zs → LCp.CompRestP prog w A h₀ L m env elt x x₂ scope cl s S (fun i v => ys.toArray[i]? = some v) Fin j i zs news := by
    intro j
    induction j with
    | zero =>
      intro i zs hi hz
      rw [Nat.add_zero] at hi
      rw [hi, List.take_length] at hz
      exact LCp.CompRestP.zero (fin zs hz)
    | succ j ih =>
      intro i zs hi hz
      refine LCp.CompRestP.succ ?_
      intro v hv
      obtain ⟨ij, hij, T, ti, tj, rfl, hT⟩ := Paired.at hP (i := i) (b := v) (by simpa using hv)
      refine ⟨T, _, .int (ij.1 : Int) ti, .int (ij.2 : Int) tj, 0, rfl, hT, rfl, rfl, ?_⟩
      intro I oI C oC D m₂ h tk E' hC hx hx₂ F N off ne
      refine wpAny_mono (turn ij ti tj I oI C oC D m₂ zs h tk E' (List.mem_of_getElem? hij) hC hx hx₂ F N off ne) (fun y s₂ hq => ?_) fun _ _ e => e
      obtain ⟨h', tk', nw, e, F', N', off', hS, hn, hG⟩ := hq
      rw [hn] at N' off' hS
      refine ⟨h', tk', news, e, F', N', off', hS, ih (i + 1) _ (by omega) ?_⟩
      rw [List.take_add_one, hij]
      exact PySem.Paired.snoc hz hG
  rw [hlen]
  exact key l.length 0 [] (by omega) .nil
end
noncomputable def PairsUp (news0 : List (Addr × Obj)) (l : List (Nat × Nat)) (ys : List Value) (news : List (Addr × Obj)) : Prop :=
  (∀ p ∈ news0, p ∈ news) ∧ (∀ p ∈ news, p ∈ news0 ∨ ∀ q ∈ news0, q.1 ≠ p.1) ∧ PySem.Paired (PairAt news) l ys
theorem PairsUp.zero {news0 : List (Addr × Obj)} : PairsUp news0 [] [] news0 := ⟨fun _ h => h, fun _ h => .inl h, .nil⟩
theorem PairsUp.next {news0 news : List (Addr × Obj)} {l : List (Nat × Nat)} {ys : List Value} {i j : Nat} {T : Addr} {ti tj : Tok} (h : PairsUp news0 l ys news) (off : ∀ p ∈ news, p.1 ≠ T) : PairsUp news0 (l ++ [(i, j)]) (ys ++ [.ref T]) ((T, tupO [.int (i : Int) ti, .int (j : Int) tj]) :: news) := by
  obtain ⟨h1, h2, h3⟩ := h
  refine ⟨fun p hp => .tail _ (h1 p hp), List.forall_mem_cons.mpr ⟨.inr fun q hq => off q (h1 q hq), h2⟩, PySem.Paired.snoc (Paired.mono (fun _ _ h => h.mono fun p hp => .tail _ hp) h3) ⟨T, ti, tj, rfl, .head _⟩⟩
theorem ne_nil {prog : Program} {A : Around} {E : Value → Shared → Prop} {s : Shared} {a b : Addr} {ys : List Value} {Q : Value → Shared → Prop} (ha : s.heap.IsList a ys.toArray) (hb : s.heap.IsList b (List.toArray ([] : List Value))) (hu : A.units + 64 < cLine) (h : Q (.bool (!ys.isEmpty)) s) :
    wpAny (model prog w) A (compareOp .NotEq (.ref a) (.ref b)) Q E s := by
  cases ys with
  | nil => exact SeqAt.RcNeAt.lists (e := fun _ => true) ha hb rfl (by omega) (fun j h1 _ => absurd h1 (by simp)) prog w E Q h
  | cons y r => exact SeqAt.RcNeAt.lists_lengths ha hb (by simp) (by omega) prog w E Q h
theorem set_made {prog : Program} {A : Around} {E : Value → Shared → Prop} {s : Shared} {h₀ : Heap} {L : Addr} {m : Str → Option Value} {news : List (Addr × Obj)} {l : Addr} {vs : List Value} {ns : List Int} {Q : Value → Shared → Prop} (Fr0 : Fr h₀ L s.heap m) (N : News h₀ L s.heap news) (hh : A.handled = none) (hl : s.heap.IsList l vs.toArray) (hi : IntsAre vs ns) (hb : ns.length ≤ 100)
    (h : ∀ D h' (tk : Nat) o, Fr h₀ L h' m → News h₀ L h' ((D, o) :: news) → o.SetObjOf (intKind prog w) (fun k' => (firstMet (fun i => ns.getD i 0) ns.length).any (· == k')) (firstMet (fun i => ns.getD i 0) ns.length).length → (∀ q ∈ news, @LT.lt Nat _ q.1 D) → Q (.ref D) { s with heap := h', toks := tk }) :
    wpAny (model prog w) A (call (.type "set") [.ref l]) Q E s := by
  have hv : vs.toArray.size = ns.length := by rw [List.size_toArray]; exact hi.length
  have lt : ∀ q ∈ news, @LT.lt Nat _ q.1 s.heap.objs.size := fun q hq => Heap.lt_size (N q hq).1
  have fresh : h₀.get? s.heap.objs.size = none := by
    cases e : h₀.get? s.heap.objs.size with
    | none => rfl
    | some o => exact absurd (Heap.lt_size (Fr0.keep _ _ e)) (Nat.lt_irrefl _)
  refine PySem.call_set_list hh hl (ns := ns) (by simpa using hi) (by unfold scanBound; omega) fun h' tk hS hk => ?_
  rw [hv] at hS
  obtain ⟨o, ho, hso⟩ := hS.objOf
  have up : ∀ b o, s.heap.get? b = some o → h'.get? b = some o := fun b o e => hk b o (Heap.lt_size e) e
  refine h s.heap.objs.size h' tk o (Fr0.keeps up) (List.forall_mem_cons.mpr ⟨⟨ho, fun e => ?_, fresh⟩, fun p hp => ⟨up _ _ (N p hp).1, (N p hp).2⟩⟩) hso lt
  have h9 : @LT.lt Nat _ L s.heap.objs.size := Fr0.ns.lt
  exact absurd (show (s.heap.objs.size : Nat) = L from e) (by omega)
noncomputable def pairsH (kA kB : Nat → Int) (hm : Nat → Str) (h : Str) : List (Nat × Nat) := pairsOf (fun i j => decide (hm j = h) && gtK kA kB i j) 5
noncomputable def turnsOf (kA kB : Nat → Int) (l : List (Nat × Nat)) : List Int := l.map fun ij => turnF kA kB ij.1 ij.2
noncomputable def mineOf (kA kB : Nat → Int) (hm : Nat → Str) (l : List (Nat × Nat)) (u : Str) : List Int := (l.filter fun ij => decide (hm ij.1 = u)).map fun ij => turnF kA kB ij.1 ij.2
noncomputable def gapsOf (vs : Nat → Int) (l : List (Nat × Nat)) : List Int := l.map fun ij => vs ij.1 - vs ij.2
theorem list_range {α : Type} {l : List α} {d : α} : l = (List.range l.length).map fun k => l.getD k d := by
  refine List.ext_getElem (by simp) fun i h1 h2 => ?_
  simp [h1]
theorem filter_range {α : Type} {l : List α} {d : α} {q : α → Bool} : l.filter q = ((List.range l.length).filter fun k => q (l.getD k d)).map fun k => l.getD k d := by
  conv => lhs; rw [list_range (l := l) (d := d)]
  rw [List.filter_map]; rfl
theorem mine_range {kA kB : Nat → Int} {hm : Nat → Str} {l : List (Nat × Nat)} {u : Str} : mineOf kA kB hm l u = ((List.range l.length).filter fun k => decide (hm (l.getD k (0, 0)).1 = u)).map fun k => turnF kA kB (l.getD k (0, 0)).1 (l.getD k (0, 0)).2 := by
  unfold mineOf
  rw [filter_range (d := (0, 0)), List.map_map]; rfl
theorem picked_ints {p : Nat → Bool} {f : Nat → Int} {n : Nat} {ys : List Value} (h : Picked p (fun k y => ∃ t, y = Value.int (f k) t) n ys) : IntsAre ys (((List.range n).filter p).map f) := by
  unfold Picked at h
  generalize (List.range n).filter p = l at h
  induction h with
  | nil => exact .nil
  | cons h _ ih => obtain ⟨t, rfl⟩ := h; exact .cons _ _ ih
theorem paired_ints {l : List (Nat × Nat)} {f : Nat × Nat → Int} {ys : List Value} (h : PySem.Paired (fun ij y => ∃ t, y = Value.int (f ij) t) l ys) : IntsAre ys (l.map f) := by
  induction h with
  | nil => exact .nil
  | cons h _ ih => obtain ⟨t, rfl⟩ := h; exact .cons _ _ ih
theorem pairs_lt {p : Nat → Nat → Bool} {n : Nat} {ij : Nat × Nat} (h : ij ∈ pairsOf p n) : ij.1 < ij.2 ∧ ij.2 < n ∧ p ij.1 ij.2 = true := by
  unfold pairsOf at h
  obtain ⟨j, hj, h⟩ := List.mem_flatMap.mp h
  obtain ⟨i, hi, rfl⟩ := List.mem_map.mp h
  obtain ⟨h1, h2⟩ := List.mem_filter.mp hi
  exact ⟨List.mem_range.mp h1, List.mem_range.mp hj, h2⟩
theorem pairs_len {p : Nat → Nat → Bool} : (pairsOf p 5).length ≤ 10 := by
  have h : ∀ j, (rowOf p j j).length ≤ j := fun j => pairsOf_le
  have e : ∀ n, (pairsOf p (n + 1)).length = (pairsOf p n).length + (rowOf p n n).length := fun n => by rw [pairsOf_succ, List.length_append]
  have e0 : (pairsOf p 0).length = 0 := rfl
  have a0 : (pairsOf p 1).length = (pairsOf p 0).length + (rowOf p 0 0).length := e 0
  have a1 : (pairsOf p 2).length = (pairsOf p 1).length + (rowOf p 1 1).length := e 1
  have a2 : (pairsOf p 3).length = (pairsOf p 2).length + (rowOf p 2 2).length := e 2
  have a3 : (pairsOf p 4).length = (pairsOf p 3).length + (rowOf p 3 3).length := e 3
  have a4 : (pairsOf p 5).length = (pairsOf p 4).length + (rowOf p 4 4).length := e 4
  have := h 0; have := h 1; have := h 2; have := h 3; have := h 4
  omega
noncomputable def setKV {α : Type} (l : List (Str × α)) (k : Str) (v : α) : List (Str × α) := if l.any (fun e => e.1 = k) then l.map (fun e => if e.1 = k then (e.1, v) else e) else l ++ [(k, v)]
theorem Cal.replace {news : List (Addr × Obj)} {kvs : List (Str × Value)} {cs : List (Str × Int × Int)} (h : Cal news kvs cs) {u : Str} {P : Addr} {c t : Int} {tc tt : Tok} (hP : (P, tupO [.int c tc, .int t tt]) ∈ news) :
    Cal news (kvs.map fun kv => if kv.1 = u then (kv.1, Value.ref P) else kv) (cs.map fun e => if e.1 = u then (e.1, c, t) else e) := by
  induction h with
  | nil => exact .nil
  | @cons k P0 c0 t0 tc0 tt0 kvs cs h1 r ih =>
    rw [List.map_cons, List.map_cons]
    by_cases e : k = u
    · rw [if_pos e, if_pos e]; exact .cons hP ih
    · rw [if_neg e, if_neg e]; exact .cons h1 ih
theorem Cal.set {news : List (Addr × Obj)} {kvs : List (Str × Value)} {cs : List (Str × Int × Int)} (h : Cal news kvs cs) {u : Str} {P : Addr} {c t : Int} {tc tt : Tok} (hP : (P, tupO [.int c tc, .int t tt]) ∈ news) : Cal news (stored kvs u (.ref P)) (setKV cs u (c, t)) := by
  unfold stored setKV
  rw [any_key (l := kvs), any_key (l := cs), h.keys]
  split
  · exact h.replace hP
  · exact h.append hP
structure Told {α : Type} (hm : Nat → Str) (ok : Str → Bool) (f : Str → α) (n : Nat) (l : List (Str × α)) : Prop where
  vals : ∀ e ∈ l, e.2 = f e.1 ∧ ok e.1 = true
  keys : ∀ k, k < n → ok (hm k) = true → l.any (fun e => e.1 = hm k) = true
theorem Told.zero {α : Type} {hm : Nat → Str} {ok : Str → Bool} {f : Str → α} : Told hm ok f 0 [] := ⟨(fun e h => nomatch h), fun k hk => absurd hk (Nat.not_lt_zero _)⟩
theorem Told.skip {α : Type} {hm : Nat → Str} {ok : Str → Bool} {f : Str → α} {n : Nat} {l : List (Str × α)} (h : Told hm ok f n l) (ho : ok (hm n) = false) : Told hm ok f (n + 1) l := ⟨h.vals, fun k hk hok => by
  rcases Nat.lt_or_ge k n with h1 | h1
  · exact h.keys k h1 hok
  · have : k = n := by omega
    rw [this, ho] at hok; cases hok⟩
theorem setKV_any {α : Type} {l : List (Str × α)} {k u : Str} {v : α} : (setKV l k v).any (fun e => e.1 = u) = (l.any (fun e => e.1 = u) || decide (k = u)) := by
  unfold setKV
  split
  · rename_i hk
    have e : (l.map fun e => if e.1 = k then (e.1, v) else e).any (fun e => e.1 = u) = l.any fun e => e.1 = u := by
      rw [List.any_map]
      congr 1
      funext e
      simp only [Function.comp]
      split <;> rfl
    rw [e]
    by_cases hu : k = u
    · rw [← hu, hk]; rfl
    · rw [decide_eq_false hu, Bool.or_false]
  · rw [List.any_append]
    simp
theorem Told.next {α : Type} {hm : Nat → Str} {ok : Str → Bool} {f : Str → α} {n : Nat} {l : List (Str × α)} (h : Told hm ok f n l) (ho : ok (hm n) = true) : Told hm ok f (n + 1) (setKV l (hm n) (f (hm n))) := by
  refine ⟨fun e he => ?_, fun k hk hok => ?_⟩
  · unfold setKV at he
    split at he
    · obtain ⟨e0, h0, rfl⟩ := List.mem_map.mp he
      split
      · rename_i e1; exact ⟨by rw [e1], by rw [e1]; exact ho⟩
      · exact h.vals e0 h0
    · rcases List.mem_append.mp he with h1 | h1
      · exact h.vals e h1
      · rw [List.mem_singleton.mp h1]; exact ⟨rfl, ho⟩
  · rw [setKV_any]
    rcases Nat.lt_or_ge k n with h1 | h1
    · rw [h.keys k h1 hok, Bool.true_or]
    · have : k = n := by omega
      rw [this, decide_eq_true rfl, Bool.or_true]
theorem Book.set {news : List (Addr × Obj)} {b : Nat} {kvs : List (Str × Value)} {bs : List (Str × Entry)} (h : Book w news b kvs bs) {home : Str} {R D : Addr} {o' : Obj} {kt : List (Str × Value)} {cc nc tt ct : Int} {cal : List (Str × Int × Int)} {g1 g2 g3 g4 : Tok}
    (hR : (R, tupO [.int cc g1, .int nc g2, .int tt g3, .int ct g4, .ref D]) ∈ news) (hD : (D, o') ∈ news) (dD : o'.IsDictOf (PySem.strKind PySem.Challenge.rw_xo0026_01.row.prog w) kt) (cD : Cal news kt cal) (lo : (D == sysModules) = false) (hz : kt.length ≤ b) :
    Book w news b (stored kvs home (.ref R)) (setKV bs home (cc, nc, tt, ct, cal)) := by
  unfold stored setKV
  rw [any_key (l := kvs), any_key (l := bs), h.keys]
  split
  · rename_i hk
    clear hk
    induction h with
    | nil => exact .nil
    | @cons k R0 D0 o0 kt0 cc0 nc0 tt0 ct0 cal0 a1 a2 a3 a4 kvs bs h1 h2 h3 h4 h5 h6 r ih =>
      rw [List.map_cons, List.map_cons]
      by_cases e : k = home
      · rw [if_pos e, if_pos e]; exact .cons hR hD dD cD lo hz ih
      · rw [if_neg e, if_neg e]; exact .cons h1 h2 h3 h4 h5 h6 ih
  · exact h.append hR hD dD cD lo hz
noncomputable def calN (kA kB : Nat → Int) (hm : Nat → Str) (l : List (Nat × Nat)) : Nat → List (Str × Int × Int)
  | 0 => []
  | n + 1 => if (mineOf kA kB hm l (hm n)).isEmpty then calN kA kB hm l n else setKV (calN kA kB hm l n) (hm n) (((mineOf kA kB hm l (hm n)).length : Int), (mineOf kA kB hm l (hm n)).sum)
noncomputable def jsOf (l : List (Nat × Nat)) : List Int := l.map fun ij => (ij.2 : Int)
noncomputable def metOf (l : List (Nat × Nat)) : List Int := firstMet (fun i => (jsOf l).getD i 0) (jsOf l).length
noncomputable def entryD (kA kB : Nat → Int) (hm : Nat → Str) (vs : Nat → Int) (h : Str) : Entry :=
  (((metOf (pairsH kA kB hm h)).length : Int), ((pairsH kA kB hm h).length : Int), (turnsOf kA kB (pairsH kA kB hm h)).sum, (gapsOf vs (pairsH kA kB hm h)).sum, calN kA kB hm (pairsH kA kB hm h) 5)
noncomputable def dueN (kA kB : Nat → Int) (hm : Nat → Str) (vs : Nat → Int) : Nat → List (Str × Entry)
  | 0 => []
  | n + 1 => if (pairsH kA kB hm (hm n)).isEmpty then dueN kA kB hm vs n else setKV (dueN kA kB hm vs n) (hm n) (entryD kA kB hm vs (hm n))
section
variable {prog : Program} {A : Around} {E : Value → Shared → Prop} {s : Shared} {env : Env} {h₀ : Heap} {x : Str} {body : List Stmt} {Q : Flow → Shared → Prop} {kA kB : Nat → Int} {hm : Nat → Str} {vs : Nat → Int} {m₀ : Str → Option Value}
inductive CalJ (w : World) (kA kB : Nat → Int) (hm : Nat → Str) (l : List (Nat × Nat)) (m₀ : Str → Option Value) (Dc : Addr) (N0 : List (Addr × Obj)) (i : Nat) (m' : Str → Option Value) (news' : List (Addr × Obj)) : Prop
  | mk (zz1 : (∀ y : Str, y ≠ "mine" → m' y = m₀ y)) (o : Obj) (kvs : List (Str × Value)) (ex : List (Addr × Obj)) (zz2 : news' = (Dc, o) :: (ex ++ N0)) (zz3 : (∀ p ∈ ex, p.1 ≠ Dc ∧ ∀ q ∈ N0, q.1 ≠ p.1)) (zz4 : o.IsDictOf (PySem.strKind PySem.Challenge.rw_xo0026_01.row.prog w) kvs) (zz5 : Cal ex kvs (calN kA kB hm l i)) (zz6 : kvs.length ≤ i) : CalJ w kA kB hm l m₀ Dc N0 i m' news'
theorem mine_map {m' : Str → Option Value} (h : ∀ y : Str, y ≠ "mine" → m' y = m₀ y) : m' = fun y : Str => if y = "mine" then m' "mine" else m₀ y := by
  funext y
  by_cases h0 : y = "mine"
  · rw [if_pos h0, h0]
  · rw [if_neg h0, h y h0]
theorem cal_loop {l : List (Nat × Nat)} {a c Dc : Addr} {t0 t1 t2 t3 t4 : Tok} {na : Nat} {h1 h2 h3 h4 h5 : Addr × Obj} {N1 : List (Addr × Obj)} {oc0 oD : Obj} {v00 : Option Value}
    (hh : A.handled = none) (hx : env.kindOf x = some .cell) (hk : env.scope.kind = .function) (hc : env.cells.lookup x = some c) (ha : (a, PySem.W.listOf (List.toArray [.str (hm 0) t0, .str (hm 1) t1, .str (hm 2) t2, .str (hm 3) t3, .str (hm 4) t4]) na) ∈ N1)
    (F : Fr h₀ env.locals s.heap m₀) (N : News h₀ env.locals s.heap ((c, oc0) :: (Dc, oD) :: h1 :: h2 :: h3 :: h4 :: h5 :: N1)) (hd0 : oc0.data = .cell v00) (hDc : @Ne Nat Dc c) (hn : ∀ p ∈ h1 :: h2 :: h3 :: h4 :: h5 :: N1, p.1 ≠ c) (hD : ∀ p ∈ h1 :: h2 :: h3 :: h4 :: h5 :: N1, p.1 ≠ Dc)
    (hz : oD.IsDictOf (PySem.strKind PySem.Challenge.rw_xo0026_01.row.prog w) ([] : List (Str × Value)))
    (r1 : ∀ p ∈ N1, p.1 ≠ h1.1) (r2 : ∀ p ∈ N1, p.1 ≠ h2.1) (r3 : ∀ p ∈ N1, p.1 ≠ h3.1) (r4 : ∀ p ∈ N1, p.1 ≠ h4.1) (r5 : ∀ p ∈ N1, p.1 ≠ h5.1)
    (turn : ∀ (i : Nat) t mv h tk I oI oc o kvs ex R, i < 5 → R = ex ++ (h1 :: h2 :: h3 :: h4 :: h5 :: N1) → (∀ p ∈ h1 :: h2 :: h3 :: h4 :: h5 :: N1, p ∈ R) → o.IsDictOf (PySem.strKind PySem.Challenge.rw_xo0026_01.row.prog w) kvs → Cal ex kvs (calN kA kB hm l i) → kvs.length ≤ i → kvs.length ≤ 1000 → (∀ p ∈ ex, p.1 ≠ Dc ∧ ∀ q ∈ h1 :: h2 :: h3 :: h4 :: h5 :: N1, q.1 ≠ p.1) →
      (∀ p ∈ R, p.1 ≠ Dc) → (∀ p ∈ R, p.1 ≠ I) → (∀ p ∈ R, p.1 ≠ c) → @Ne Nat I c → @Ne Nat I Dc → oc.data = .cell (some (.str (hm i) t)) →
      Fr h₀ env.locals h (fun y : Str => if y = "mine" then mv else m₀ y) → News h₀ env.locals h ((I, oI) :: (c, oc) :: (Dc, o) :: R) →
      wpAny (model prog w) A (execs body env) (TurnC h₀ env.locals (CalJ w kA kB hm l m₀ Dc (h1 :: h2 :: h3 :: h4 :: h5 :: N1) (i + 1)) (I, oI) (c, oc) { s with heap := h, toks := tk } Q) (notedBy (model prog w) A env fun e s' => cameBackBy (model prog w) A env E e s') { s with heap := h, toks := tk })
    (done : ∀ mv h tk oc v o kvs R, (∀ p ∈ N1, p ∈ R) → o.IsDictOf (PySem.strKind PySem.Challenge.rw_xo0026_01.row.prog w) kvs → Cal R kvs (calN kA kB hm l 5) → kvs.length ≤ 5 → (∀ p ∈ R, p.1 ≠ Dc) → (∀ p ∈ R, p.1 ≠ c) → (∀ p ∈ R, p.1 ≠ h1.1) → (∀ p ∈ R, p.1 ≠ h2.1) → (∀ p ∈ R, p.1 ≠ h3.1) → (∀ p ∈ R, p.1 ≠ h4.1) → (∀ p ∈ R, p.1 ≠ h5.1) → oc.data = .cell v →
      Fr h₀ env.locals h (fun y : Str => if y = "mine" then mv else m₀ y) → News h₀ env.locals h ((c, oc) :: (Dc, o) :: h1 :: h2 :: h3 :: h4 :: h5 :: R) → Q .next { s with heap := h, toks := tk }) :
    wpAny (model prog w) A (pyIter (.ref a)) (fun it s₂ => NameLoopAt prog w A env x body Q E it s₂) E s := by
  have ha' := (.tail _ (.tail _ (.tail _ (.tail _ (.tail _ ha)))) : (a, PySem.W.listOf (List.toArray [.str (hm 0) t0, .str (hm 1) t1, .str (hm 2) t2, .str (hm 3) t3, .str (hm 4) t4]) na) ∈ h1 :: h2 :: h3 :: h4 :: h5 :: N1)
  have low : ∀ {p : Addr × Obj}, p ∈ N1 → p ∈ h1 :: h2 :: h3 :: h4 :: h5 :: N1 := fun hp => .tail _ (.tail _ (.tail _ (.tail _ (.tail _ hp))))
  refine texts_loopC (f := hm) (CalJ w kA kB hm l m₀ Dc (h1 :: h2 :: h3 :: h4 :: h5 :: N1)) hh hx hk hc (.tail _ ha') ?_ F N hd0 (List.forall_mem_cons.mpr ⟨hDc, hn⟩) ⟨fun _ _ => rfl, oD, [], [], rfl, (fun p hp => nomatch hp), hz, .nil, Nat.zero_le _⟩ ?_ ?_
  · rintro i m₁ news₁ ⟨_, o, kvs, ex, rfl, _, _, _, _⟩ p hp rfl
    exact .tail _ (List.mem_append_right _ ha')
  · rintro i t m₁ news₁ h tk I oI oc hi ⟨hmap, o, kvs, ex, rfl, hex, ho, hC, hz⟩ off hIc hd F' N'
    rw [mine_map hmap] at F'
    refine turn i t _ h tk I oI oc o kvs ex _ hi rfl (fun p hp => List.mem_append_right _ hp) ho hC hz (by omega) hex (fun p hp => ?_) (fun p hp => (off p (.tail _ hp)).1) (fun p hp => (off p (.tail _ hp)).2) hIc (fun e => (off _ (.head _)).1 e.symm) hd F' N'
    rcases List.mem_append.mp hp with hp | hp
    · exact (hex p hp).1
    · exact hD p hp
  · rintro m₁ news₁ oc v h tk ⟨hmap, o, kvs, ex, rfl, hex, ho, hC, hz⟩ hd off F' N'
    rw [mine_map hmap] at F'
    have two : ∀ {a : Addr}, (∀ p ∈ ex, p.1 ≠ a) → (∀ p ∈ N1, p.1 ≠ a) → ∀ p ∈ ex ++ N1, p.1 ≠ a := fun x y p hp => by
      rcases List.mem_append.mp hp with hp | hp
      · exact x p hp
      · exact y p hp
    refine done _ h tk oc v o kvs (ex ++ N1) (fun p hp => List.mem_append_right _ hp) ho (hC.mono fun p hp => List.mem_append_left _ hp) hz (two (fun p hp => (hex p hp).1) fun p hp => hD p (low hp)) (fun p hp => ?_)
      (two (fun p hp e => (hex p hp).2 _ (.head _) e.symm) r1) (two (fun p hp e => (hex p hp).2 _ (.tail _ (.head _)) e.symm) r2) (two (fun p hp e => (hex p hp).2 _ (.tail _ (.tail _ (.head _))) e.symm) r3) (two (fun p hp e => (hex p hp).2 _ (.tail _ (.tail _ (.tail _ (.head _)))) e.symm) r4) (two (fun p hp e => (hex p hp).2 _ (.tail _ (.tail _ (.tail _ (.tail _ (.head _))))) e.symm) r5) hd F' (fun p hp => N' p ?_)
    · rcases List.mem_append.mp hp with hp | hp
      · exact off p (.tail _ (List.mem_append_left _ hp))
      · exact off p (.tail _ (List.mem_append_right _ (low hp)))
    · revert p; k_extra "subl"
theorem cal_next {l : List (Nat × Nat)} {c Dc I : Addr} {oI oc o : Obj} {kvs : List (Str × Value)} {N0 ex R : List (Addr × Obj)} {i : Nat} {m' : Str → Option Value} {h : Heap} {tk : Nat} {all : List (Addr × Obj)}
    (F : Fr h₀ env.locals h m') (N : News h₀ env.locals h all) (sub : ∀ p ∈ (I, oI) :: (c, oc) :: (Dc, o) :: R, p ∈ all) (hmap : ∀ y : Str, y ≠ "mine" → m' y = m₀ y) (hR : R = ex ++ N0) (ho : o.IsDictOf (PySem.strKind PySem.Challenge.rw_xo0026_01.row.prog w) kvs)
    (hC : Cal ex kvs (calN kA kB hm l i)) (hz : kvs.length ≤ i) (hex : ∀ p ∈ ex, p.1 ≠ Dc ∧ ∀ q ∈ N0, q.1 ≠ p.1) (q2 : ∀ p ∈ R, p.1 ≠ I) (q3 : ∀ p ∈ R, p.1 ≠ c) (e1 : @Ne Nat I Dc) (e2 : @Ne Nat Dc c) (hno : (mineOf kA kB hm l (hm i)).isEmpty = true) :
    TurnC h₀ env.locals (CalJ w kA kB hm l m₀ Dc N0 (i + 1)) (I, oI) (c, oc) s Q .next { s with heap := h, toks := tk } := by
  subst hR
  refine TurnC.next F (fun p hp => N p (sub p hp)) (List.forall_mem_cons.mpr ⟨⟨Ne.symm e1, e2⟩, fun p hp => ⟨q2 p hp, q3 p hp⟩⟩) ⟨hmap, o, kvs, ex, rfl, hex, ho, ?_, by omega⟩
  unfold calN
  rw [if_pos hno]; exact hC
theorem cal_set {l : List (Nat × Nat)} {c Dc I P : Addr} {oI oc o : Obj} {kvs : List (Str × Value)} {N0 ex R : List (Addr × Obj)} {i : Nat} {m' : Str → Option Value} {h : Heap} {tk : Nat} {all : List (Addr × Obj)} {t1 t2 : Tok} {n1 n2 : Int}
    (F : Fr h₀ env.locals h m') (N : News h₀ env.locals h all) (sub : ∀ p ∈ (I, oI) :: (c, oc) :: (Dc, o) :: (P, tupO [.int n1 t1, .int n2 t2]) :: R, p ∈ all) (hmap : ∀ y : Str, y ≠ "mine" → m' y = m₀ y) (hR : R = ex ++ N0) (ho : o.IsDictOf (PySem.strKind PySem.Challenge.rw_xo0026_01.row.prog w) (stored kvs (hm i) (.ref P)))
    (hC : Cal ex kvs (calN kA kB hm l i)) (hz : kvs.length ≤ i) (hex : ∀ p ∈ ex, p.1 ≠ Dc ∧ ∀ q ∈ N0, q.1 ≠ p.1) (q2 : ∀ p ∈ R, p.1 ≠ I) (q3 : ∀ p ∈ R, p.1 ≠ c) (e1 : @Ne Nat I Dc) (e2 : @Ne Nat Dc c) (hno : (mineOf kA kB hm l (hm i)).isEmpty = false)
    (h1 : n1 = ((mineOf kA kB hm l (hm i)).length : Int)) (h2 : n2 = (mineOf kA kB hm l (hm i)).sum) (pI : @Ne Nat P I) (pc : @Ne Nat P c) (pD : @Ne Nat P Dc) (pR : ∀ q ∈ R, q.1 ≠ P) :
    TurnC h₀ env.locals (CalJ w kA kB hm l m₀ Dc N0 (i + 1)) (I, oI) (c, oc) s Q .next { s with heap := h, toks := tk } := by
  subst hR
  refine TurnC.next F (fun p hp => N p (sub p hp)) (List.forall_mem_cons.mpr ⟨⟨Ne.symm e1, e2⟩, List.forall_mem_cons.mpr ⟨⟨pI, pc⟩, fun p hp => ⟨q2 p hp, q3 p hp⟩⟩⟩) ⟨hmap, o, _, (P, tupO [.int n1 t1, .int n2 t2]) :: ex, rfl, List.forall_mem_cons.mpr ⟨⟨pD, fun q hq => pR q (List.mem_append_right _ hq)⟩, hex⟩, ho, ?_, Nat.le_trans stored_length (Nat.succ_le_succ hz)⟩
  unfold calN
  rw [hno, if_neg (by decide), ← h1, ← h2]
  exact (hC.mono fun p hp => .tail _ hp).set (.head _)
noncomputable def PairsEx (news0 : List (Addr × Obj)) (l : List (Nat × Nat)) (ys : List Value) (news : List (Addr × Obj)) : Prop :=
  (∀ p ∈ news0, p ∈ news) ∧ ∃ ex, news = ex ++ news0 ∧ (∀ p ∈ ex, ∀ q ∈ news0, q.1 ≠ p.1) ∧ PySem.Paired (PairAt ex) l ys
theorem PairsEx.zero {news0 : List (Addr × Obj)} : PairsEx news0 [] [] news0 := ⟨fun _ h => h, [], rfl, (fun _ h => nomatch h), .nil⟩
theorem PairsEx.next {news0 news : List (Addr × Obj)} {l : List (Nat × Nat)} {ys : List Value} {i j : Nat} {T : Addr} {ti tj : Tok} (h : PairsEx news0 l ys news) (off : ∀ p ∈ news, p.1 ≠ T) : PairsEx news0 (l ++ [(i, j)]) (ys ++ [.ref T]) ((T, tupO [.int (i : Int) ti, .int (j : Int) tj]) :: news) := by
  obtain ⟨h1, ex, rfl, h2, h3⟩ := h
  exact ⟨fun p hp => .tail _ (h1 p hp), _ :: ex, rfl, List.forall_mem_cons.mpr ⟨fun q hq => off q (h1 q hq), h2⟩, PySem.Paired.snoc (Paired.mono (fun _ _ h => h.mono fun p hp => .tail _ hp) h3) ⟨T, ti, tj, rfl, .head _⟩⟩
theorem pairs_shape {h₀ h : Heap} {L D : Addr} {e1 e2 e3 e4 e5 e6 : Addr × Obj} {R news : List (Addr × Obj)} {l : List (Nat × Nat)} {ys : List Value} (hJ : PairsEx (e1 :: e2 :: e3 :: e4 :: e5 :: e6 :: R) l ys news) (N : News h₀ L h ((D, LCg.lst ys) :: news)) (off : ∀ p ∈ news, p.1 ≠ D)
    (r1 : ∀ p ∈ R, p.1 ≠ e1.1) (r2 : ∀ p ∈ R, p.1 ≠ e2.1) (r3 : ∀ p ∈ R, p.1 ≠ e3.1) (r4 : ∀ p ∈ R, p.1 ≠ e4.1) (r5 : ∀ p ∈ R, p.1 ≠ e5.1) (r6 : ∀ p ∈ R, p.1 ≠ e6.1) :
    ∃ R2, (∀ p ∈ R, p ∈ R2) ∧ (∀ p ∈ R2, p.1 ≠ e1.1) ∧ (∀ p ∈ R2, p.1 ≠ e2.1) ∧ (∀ p ∈ R2, p.1 ≠ e3.1) ∧ (∀ p ∈ R2, p.1 ≠ e4.1) ∧ (∀ p ∈ R2, p.1 ≠ e5.1) ∧ (∀ p ∈ R2, p.1 ≠ e6.1) ∧ (∀ p ∈ R2, p.1 ≠ D) ∧ (@Ne Nat e1.1 D ∧ @Ne Nat e2.1 D ∧ @Ne Nat e3.1 D ∧ @Ne Nat e4.1 D ∧ @Ne Nat e5.1 D ∧ @Ne Nat e6.1 D) ∧
      PySem.Paired (PairAt R2) l ys ∧ News h₀ L h (e1 :: e2 :: e3 :: e4 :: e5 :: e6 :: (D, LCg.lst ys) :: R2) := by
  obtain ⟨h1, ex, rfl, h2, h3⟩ := hJ
  have two : ∀ {a : Addr}, (∀ p ∈ ex, p.1 ≠ a) → (∀ p ∈ R, p.1 ≠ a) → ∀ p ∈ ex ++ R, p.1 ≠ a := fun x y p hp => by
    rcases List.mem_append.mp hp with hp | hp
    · exact x p hp
    · exact y p hp
  refine ⟨ex ++ R, fun p hp => List.mem_append_right _ hp, two (fun p hp e => h2 p hp _ (.head _) e.symm) r1, two (fun p hp e => h2 p hp _ (.tail _ (.head _)) e.symm) r2, two (fun p hp e => h2 p hp _ (.tail _ (.tail _ (.head _))) e.symm) r3, two (fun p hp e => h2 p hp _ (.tail _ (.tail _ (.tail _ (.head _)))) e.symm) r4,
    two (fun p hp e => h2 p hp _ (.tail _ (.tail _ (.tail _ (.tail _ (.head _))))) e.symm) r5, two (fun p hp e => h2 p hp _ (.tail _ (.tail _ (.tail _ (.tail _ (.tail _ (.head _)))))) e.symm) r6, fun p hp => ?_, ⟨off _ (h1 _ (.head _)), off _ (h1 _ (.tail _ (.head _))), off _ (h1 _ (.tail _ (.tail _ (.head _)))), off _ (h1 _ (.tail _ (.tail _ (.tail _ (.head _))))), off _ (h1 _ (.tail _ (.tail _ (.tail _ (.tail _ (.head _)))))), off _ (h1 _ (.tail _ (.tail _ (.tail _ (.tail _ (.tail _ (.head _))))))) ⟩,
    Paired.mono (fun _ _ h => h.mono fun p hp => List.mem_append_left _ hp) h3, fun p hp => N p ?_⟩
  · refine off p ?_
    rcases List.mem_append.mp hp with hp | hp
    · exact List.mem_append_left _ hp
    · exact List.mem_append_right _ (.tail _ (.tail _ (.tail _ (.tail _ (.tail _ (.tail _ hp))))))
  · revert p; k_extra "subl"
structure DueG (news : List (Addr × Obj)) (K Lh Lv : Addr) (kA kB : Nat → Int) (hm : Nat → Str) (vs : Nat → Int) : Prop where
  keys : KeysAt news K kA kB
  homes : ∃ (t : Nat → Tok) (n : Nat), (Lh, PySem.W.listOf (List.toArray [.str (hm 0) (t 0), .str (hm 1) (t 1), .str (hm 2) (t 2), .str (hm 3) (t 3), .str (hm 4) (t 4)]) n) ∈ news
  weights : ∃ (t : Nat → Tok) (n : Nat), (Lv, PySem.W.listOf (List.toArray [.int (vs 0) (t 0), .int (vs 1) (t 1), .int (vs 2) (t 2), .int (vs 3) (t 3), .int (vs 4) (t 4)]) n) ∈ news
theorem DueG.mono {news news' : List (Addr × Obj)} {K Lh Lv : Addr} (G : DueG news K Lh Lv kA kB hm vs) (sub : ∀ p ∈ news, p ∈ news') : DueG news' K Lh Lv kA kB hm vs := by
  obtain ⟨t, n, h1⟩ := G.homes
  obtain ⟨u, k, h2⟩ := G.weights
  exact ⟨G.keys.mono sub, ⟨t, n, sub _ h1⟩, ⟨u, k, sub _ h2⟩⟩
theorem home_item {value slice : PySem.Expr} {news : List (Addr × Obj)} {L K Lh Lv : Addr} {i : Nat} {u : Tok} {Q : Value → Shared → Prop} (N : News h₀ L s.heap news) (G : DueG news K Lh Lv kA kB hm vs) (hi : i < 5) (h : ∀ t, Q (.str (hm i) t) s)
    (hs : subscripted slice false (.ref Lh) (.int i u) = operate [.ref Lh, .int i u] (getItem (.ref Lh) (.int i u))) : wpAny (model prog w) A (subscriptTail value slice (.ref Lh) (.int (i : Int) u)) Q E s := by
  obtain ⟨t, n, hm'⟩ := G.homes
  exact item_fnS (ws := hm) (News.isList N hm') hi h hs
theorem weight_item {value slice : PySem.Expr} {news : List (Addr × Obj)} {L K Lh Lv : Addr} {i : Nat} {u : Tok} {Q : Value → Shared → Prop} (N : News h₀ L s.heap news) (G : DueG news K Lh Lv kA kB hm vs) (hi : i < 5) (h : ∀ t, Q (.int (vs i) t) s)
    (hs : subscripted slice false (.ref Lv) (.int i u) = operate [.ref Lv, .int i u] (getItem (.ref Lv) (.int i u))) : wpAny (model prog w) A (subscriptTail value slice (.ref Lv) (.int (i : Int) u)) Q E s := by
  obtain ⟨t, n, hm'⟩ := G.weights
  exact item_fnI (vs := vs) (News.isList N hm') hi h hs
inductive DueJ (w : World) (kA kB : Nat → Int) (hm : Nat → Str) (vs : Nat → Int) (m₀ : Str → Option Value) (Dd cU cT cP : Addr) (N0 : List (Addr × Obj)) (i : Nat) (m' : Str → Option Value) (news' : List (Addr × Obj)) : Prop
  | mk (zz1 : (∀ y : Str, y ≠ "gaps" → y ≠ "mine" → y ≠ "callers" → m' y = m₀ y)) (o oU oT oP : Obj) (vU vT vP : Option Value) (kvs : List (Str × Value)) (R : List (Addr × Obj)) (zz2 : news' = (Dd, o) :: (cU, oU) :: (cT, oT) :: (cP, oP) :: R) (zz3 : oU.data = .cell vU) (zz4 : oT.data = .cell vT) (zz5 : oP.data = .cell vP) (zz6 : (∀ p ∈ N0, p ∈ R)) (zz7 : (∀ p ∈ R, p.1 ≠ Dd)) (zz8 : (∀ p ∈ R, p.1 ≠ cU)) (zz9 : (∀ p ∈ R, p.1 ≠ cT)) (zz10 : (∀ p ∈ R, p.1 ≠ cP)) (zz11 : o.IsDictOf (PySem.strKind PySem.Challenge.rw_xo0026_01.row.prog w) kvs) (zz12 : Book w R 5 kvs (dueN kA kB hm vs i)) (zz13 : kvs.length ≤ i) : DueJ w kA kB hm vs m₀ Dd cU cT cP N0 i m' news'
theorem due_map {m' : Str → Option Value} (h : ∀ y : Str, y ≠ "gaps" → y ≠ "mine" → y ≠ "callers" → m' y = m₀ y) : m' = fun y : Str => if y = "gaps" then m' "gaps" else if y = "mine" then m' "mine" else if y = "callers" then m' "callers" else m₀ y := by
  funext y
  by_cases h0 : y = "gaps"
  · rw [if_pos h0, h0]
  by_cases h1 : y = "mine"
  · rw [if_neg h0, if_pos h1, h1]
  by_cases h2 : y = "callers"
  · rw [if_neg h0, if_neg h1, if_pos h2, h2]
  · rw [if_neg h0, if_neg h1, if_neg h2, h y h0 h1 h2]
theorem due_loop {a c Dd cU cT cP : Addr} {t0 t1 t2 t3 t4 : Tok} {na : Nat} {N0 : List (Addr × Obj)} {oc0 oD oU oT oP : Obj} {v00 vU vT vP : Option Value}
    (hh : A.handled = none) (hx : env.kindOf x = some .cell) (hk : env.scope.kind = .function) (hc : env.cells.lookup x = some c) (ha : (a, PySem.W.listOf (List.toArray [.str (hm 0) t0, .str (hm 1) t1, .str (hm 2) t2, .str (hm 3) t3, .str (hm 4) t4]) na) ∈ N0)
    (F : Fr h₀ env.locals s.heap m₀) (N : News h₀ env.locals s.heap ((c, oc0) :: (Dd, oD) :: (cU, oU) :: (cT, oT) :: (cP, oP) :: N0)) (hd0 : oc0.data = .cell v00) (hdU : oU.data = .cell vU) (hdT : oT.data = .cell vT) (hdP : oP.data = .cell vP)
    (e1 : @Ne Nat Dd c) (e2 : @Ne Nat cU c) (e3 : @Ne Nat cT c) (e4 : @Ne Nat cP c) (hn : ∀ p ∈ N0, p.1 ≠ c) (q1 : ∀ p ∈ N0, p.1 ≠ Dd) (q2 : ∀ p ∈ N0, p.1 ≠ cU) (q3 : ∀ p ∈ N0, p.1 ≠ cT) (q4 : ∀ p ∈ N0, p.1 ≠ cP) (hz : oD.IsDictOf (PySem.strKind PySem.Challenge.rw_xo0026_01.row.prog w) ([] : List (Str × Value)))
    (turn : ∀ (i : Nat) t gv mv cv h tk I oI oc o oU oT oP vU vT vP kvs R, i < 5 → (∀ p ∈ N0, p ∈ R) → o.IsDictOf (PySem.strKind PySem.Challenge.rw_xo0026_01.row.prog w) kvs → Book w R 5 kvs (dueN kA kB hm vs i) → kvs.length ≤ i → kvs.length ≤ 1000 → (∀ p ∈ R, p.1 ≠ Dd) → (∀ p ∈ R, p.1 ≠ cU) → (∀ p ∈ R, p.1 ≠ cT) → (∀ p ∈ R, p.1 ≠ cP) → (∀ p ∈ R, p.1 ≠ I) → (∀ p ∈ R, p.1 ≠ c) →
      @Ne Nat I c → @Ne Nat I Dd → @Ne Nat I cU → @Ne Nat I cT → @Ne Nat I cP → oc.data = .cell (some (.str (hm i) t)) → oU.data = .cell vU → oT.data = .cell vT → oP.data = .cell vP →
      Fr h₀ env.locals h (fun y : Str => if y = "gaps" then gv else if y = "mine" then mv else if y = "callers" then cv else m₀ y) → News h₀ env.locals h ((I, oI) :: (c, oc) :: (Dd, o) :: (cU, oU) :: (cT, oT) :: (cP, oP) :: R) →
      wpAny (model prog w) A (execs body env) (TurnC h₀ env.locals (DueJ w kA kB hm vs m₀ Dd cU cT cP N0 (i + 1)) (I, oI) (c, oc) { s with heap := h, toks := tk } Q) (notedBy (model prog w) A env fun e s' => cameBackBy (model prog w) A env E e s') { s with heap := h, toks := tk })
    (done : ∀ gv mv cv h tk o kvs R, (∀ p ∈ N0, p ∈ R) → o.IsDictOf (PySem.strKind PySem.Challenge.rw_xo0026_01.row.prog w) kvs → Book w R 5 kvs (dueN kA kB hm vs 5) → kvs.length ≤ 5 → (∀ p ∈ R, p.1 ≠ Dd) →
      Fr h₀ env.locals h (fun y : Str => if y = "gaps" then gv else if y = "mine" then mv else if y = "callers" then cv else m₀ y) → News h₀ env.locals h ((Dd, o) :: R) → Q .next { s with heap := h, toks := tk }) :
    wpAny (model prog w) A (pyIter (.ref a)) (fun it s₂ => NameLoopAt prog w A env x body Q E it s₂) E s := by
  refine texts_loopC (f := hm) (DueJ w kA kB hm vs m₀ Dd cU cT cP N0) hh hx hk hc (.tail _ (.tail _ (.tail _ (.tail _ ha)))) ?_ F N hd0 (List.forall_mem_cons.mpr ⟨e1, List.forall_mem_cons.mpr ⟨e2, List.forall_mem_cons.mpr ⟨e3, List.forall_mem_cons.mpr ⟨e4, hn⟩⟩⟩⟩)
    ⟨fun _ _ _ _ => rfl, oD, oU, oT, oP, vU, vT, vP, [], N0, rfl, hdU, hdT, hdP, fun _ h => h, q1, q2, q3, q4, hz, .nil, Nat.zero_le _⟩ ?_ ?_
  · rintro i m₁ news₁ ⟨_, o, oU, oT, oP, vU, vT, vP, kvs, R, rfl, _, _, _, sub, _⟩ p hp rfl
    exact .tail _ (.tail _ (.tail _ (.tail _ (sub _ ha))))
  · rintro i t m₁ news₁ h tk I oI oc hi ⟨hmap, o, oU, oT, oP, vU, vT, vP, kvs, R, rfl, dU, dT, dP, sub, r1, r2, r3, r4, ho, hB, hz⟩ off hIc hd F' N'
    rw [due_map hmap] at F'
    exact turn i t _ _ _ h tk I oI oc o oU oT oP vU vT vP kvs R hi sub ho hB hz (by omega) r1 r2 r3 r4 (fun p hp => (off p (.tail _ (.tail _ (.tail _ (.tail _ hp))))).1) (fun p hp => (off p (.tail _ (.tail _ (.tail _ (.tail _ hp))))).2) hIc
      (fun e => (off _ (.head _)).1 e.symm) (fun e => (off _ (.tail _ (.head _))).1 e.symm) (fun e => (off _ (.tail _ (.tail _ (.head _)))).1 e.symm) (fun e => (off _ (.tail _ (.tail _ (.tail _ (.head _))))).1 e.symm) hd dU dT dP F' N'
  · rintro m₁ news₁ oc v h tk ⟨hmap, o, oU, oT, oP, vU, vT, vP, kvs, R, rfl, dU, dT, dP, sub, r1, r2, r3, r4, ho, hB, hz⟩ hd off F' N'
    rw [due_map hmap] at F'
    refine done _ _ _ h tk o kvs R sub ho hB hz r1 F' (fun p hp => N' p ?_)
    rcases List.mem_cons.mp hp with rfl | hp
    · exact .tail _ (.head _)
    · exact .tail _ (.tail _ (.tail _ (.tail _ (.tail _ hp))))
theorem due_next {c Dd cU cT cP I : Addr} {oI oc o oU oT oP : Obj} {vU vT vP : Option Value} {kvs : List (Str × Value)} {N0 R : List (Addr × Obj)} {i : Nat} {m' : Str → Option Value} {h : Heap} {tk : Nat} {all : List (Addr × Obj)}
    (F : Fr h₀ env.locals h m') (N : News h₀ env.locals h all) (sub : ∀ p ∈ (I, oI) :: (c, oc) :: (Dd, o) :: (cU, oU) :: (cT, oT) :: (cP, oP) :: R, p ∈ all) (hmap : ∀ y : Str, y ≠ "gaps" → y ≠ "mine" → y ≠ "callers" → m' y = m₀ y) (sub0 : ∀ p ∈ N0, p ∈ R)
    (hU : oU.data = .cell vU) (hT : oT.data = .cell vT) (hP : oP.data = .cell vP) (ho : o.IsDictOf (PySem.strKind PySem.Challenge.rw_xo0026_01.row.prog w) kvs) (hB : Book w R 5 kvs (dueN kA kB hm vs (i + 1))) (hz : kvs.length ≤ i + 1)
    (q1 : ∀ p ∈ R, p.1 ≠ Dd) (q2 : ∀ p ∈ R, p.1 ≠ cU) (q3 : ∀ p ∈ R, p.1 ≠ cT) (q4 : ∀ p ∈ R, p.1 ≠ cP) (q5 : ∀ p ∈ R, p.1 ≠ I) (q6 : ∀ p ∈ R, p.1 ≠ c) (i1 : @Ne Nat I Dd) (i2 : @Ne Nat I cU) (i3 : @Ne Nat I cT) (i4 : @Ne Nat I cP) (e1 : @Ne Nat Dd c) (e2 : @Ne Nat cU c) (e3 : @Ne Nat cT c) (e4 : @Ne Nat cP c) :
    TurnC h₀ env.locals (DueJ w kA kB hm vs m₀ Dd cU cT cP N0 (i + 1)) (I, oI) (c, oc) s Q .next { s with heap := h, toks := tk } :=
  TurnC.next F (fun p hp => N p (sub p hp)) (List.forall_mem_cons.mpr ⟨⟨Ne.symm i1, e1⟩, List.forall_mem_cons.mpr ⟨⟨Ne.symm i2, e2⟩, List.forall_mem_cons.mpr ⟨⟨Ne.symm i3, e3⟩, List.forall_mem_cons.mpr ⟨⟨Ne.symm i4, e4⟩, fun p hp => ⟨q5 p hp, q6 p hp⟩⟩⟩⟩⟩)
    ⟨hmap, o, oU, oT, oP, vU, vT, vP, kvs, R, rfl, hU, hT, hP, sub0, q1, q2, q3, q4, ho, hB, hz⟩
theorem pair_item {value slice : PySem.Expr} {news : List (Addr × Obj)} {L : Addr} {D : Addr} {l : List (Nat × Nat)} {ys : List Value} {n k : Nat} {u : Tok} {Q : Value → Shared → Prop} (N : News h₀ L s.heap news) (hD : (D, PySem.W.listOf (List.toArray ys) n) ∈ news) (hP : PySem.Paired (PairAt news) l ys) (hk : k < l.length) (hz : l.length ≤ 10)
    (h : ∀ T ti tj, (T, tupO [.int ((l.getD k (0, 0)).1 : Int) ti, .int ((l.getD k (0, 0)).2 : Int) tj]) ∈ news → Q (.ref T) s)
    (hs : subscripted slice false (.ref D) (.int k u) = operate [.ref D, .int k u] (getItem (.ref D) (.int k u))) : wpAny (model prog w) A (subscriptTail value slice (.ref D) (.int (k : Int) u)) Q E s := by
  have hlen := PySem.Paired.length hP
  have hy : ys[k]? = some (ys[k]'(by omega)) := List.getElem?_eq_getElem (by omega)
  obtain ⟨ij, hij, T, ti, tj, e, hT⟩ := Paired.at hP hy
  have e2 : l.getD k (0, 0) = ij := by rw [List.getD_eq_getElem?_getD, hij]; rfl
  refine item_litK (News.isList N hD) (by omega) (by omega) (v := .ref T) (by rw [Int.toNat_natCast, hy, e]) (h T ti tj (by rw [e2]; exact hT)) hs
theorem tup_item0 {value slice : PySem.Expr} {news : List (Addr × Obj)} {L T : Addr} {a b : Int} {ta tb u : Tok} {Q : Value → Shared → Prop} (N : News h₀ L s.heap news) (hT : (T, tupO [.int a ta, .int b tb]) ∈ news) (h : Q (.int a ta) s)
    (hs : subscripted slice false (.ref T) (.int 0 u) = operate [.ref T, .int 0 u] (getItem (.ref T) (.int 0 u))) : wpAny (model prog w) A (subscriptTail value slice (.ref T) (.int 0 u)) Q E s := by
  have ht : IsTup s.heap T (List.toArray [.int a ta, .int b tb]) := ⟨_, (N _ hT).1, rfl, _, rfl⟩
  exact tail_any ht.typeIs slot_tuple_getitem.lookup (getItem_tuple ht (by decide) (by decide) (by rfl) (by rfl) h) hs
theorem ints_at {value slice : PySem.Expr} {news : List (Addr × Obj)} {L D : Addr} {vs' : List Value} {ns : List Int} {n k : Nat} {u : Tok} {Q : Value → Shared → Prop} (N : News h₀ L s.heap news) (hD : (D, PySem.W.listOf (List.toArray vs') n) ∈ news) (hi : IntsAre vs' ns) (hk : k < ns.length) (hz : ns.length ≤ 10)
    (h : ∀ t, Q (.int (ns.getD k 0) t) s)
    (hs : subscripted slice false (.ref D) (.int k u) = operate [.ref D, .int k u] (getItem (.ref D) (.int k u))) : wpAny (model prog w) A (subscriptTail value slice (.ref D) (.int (k : Int) u)) Q E s := by
  have := item_ints (value := value) (slice := slice) (prog := prog) (A := A) (E := E) (Q := Q) (k := (k : Int)) (u := u) (News.isList N hD) hi (by omega) (by omega) (by omega) (fun t => by rw [Int.toNat_natCast]; exact h t) hs
  exact this
theorem ne_nil2 {a b : Addr} {ys : List Value} {Q : Value → Shared → Prop} (ha : s.heap.IsList a ys.toArray) (hb : s.heap.IsList b (List.toArray ([] : List Value))) (hu : A.units + 64 < cLine) (h0 : ys.isEmpty = true → Q (.bool false) s) (h1 : ys.isEmpty = false → Q (.bool true) s) :
    wpAny (model prog w) A (compareOp .NotEq (.ref a) (.ref b)) Q E s := by
  refine ne_nil ha hb hu ?_
  cases e : ys.isEmpty
  · exact h1 e
  · exact h0 e
end
section
variable {h₀ : Heap} {L T : Addr} {m : Str → Option Value} {s₁ : Shared} {e1 e2 e3 e4 : Addr × Obj} {news0 news all : List (Addr × Obj)} {l : List (Nat × Nat)} {i j : Nat} {ys : List Value} {h' : Heap} {tk : Nat} {ti tj : Tok} {b : Bool}
theorem pair_yes (F : Fr h₀ L h' m) (N : News h₀ L h' all) (sub : ∀ p ∈ (T, tupO [.int (i : Int) ti, .int (j : Int) tj]) :: e1 :: e2 :: e3 :: e4 :: news, p ∈ all) (o1 : @Ne Nat e1.1 T) (o2 : @Ne Nat e2.1 T) (o3 : @Ne Nat e3.1 T) (o4 : @Ne Nat e4.1 T) (o5 : ∀ p ∈ news, p.1 ≠ T)
    (off : ∀ p ∈ news, p.1 ≠ e1.1 ∧ p.1 ≠ e2.1 ∧ p.1 ≠ e3.1 ∧ p.1 ≠ e4.1) (hb : b = true) (hJ : PairsEx news0 l ys news) : End2 h₀ L m s₁ e1 e2 e3 e4 (fun y news'' => b = true ∧ PairsEx news0 (l ++ [(i, j)]) (ys ++ [y]) news'') (.ref T) { s₁ with heap := h', toks := tk } := by
  refine ⟨h', tk, (T, tupO [.int (i : Int) ti, .int (j : Int) tj]) :: news, rfl, F, fun p hp => N p (sub p ?_), List.forall_mem_cons.mpr ⟨⟨Ne.symm o1, Ne.symm o2, Ne.symm o3, Ne.symm o4⟩, off⟩, hb, hJ.next o5⟩
  revert p; k_extra "subl"
theorem pair_no {v : Value} (F : Fr h₀ L h' m) (N : News h₀ L h' all) (sub : ∀ p ∈ e1 :: e2 :: e3 :: e4 :: news, p ∈ all) (off : ∀ p ∈ news, p.1 ≠ e1.1 ∧ p.1 ≠ e2.1 ∧ p.1 ≠ e3.1 ∧ p.1 ≠ e4.1) (hb : b = false) (hJ : PairsEx news0 l ys news) :
    End2 h₀ L m s₁ e1 e2 e3 e4 (fun _ news'' => b = false ∧ PairsEx news0 l ys news'') v { s₁ with heap := h', toks := tk } := ⟨h', tk, news, rfl, F, fun p hp => N p (sub p hp), off, hb, hJ⟩
end
theorem small10 {j : Nat} (h : j ≤ 10) : Builtin.Range.small 0 (j : Int) 1 = true := small_one (by decide) (by decide) (by omega) (by omega)
theorem pairs_getD {p : Nat → Nat → Bool} {k : Nat} (h : k < (pairsOf p 5).length) : ((pairsOf p 5).getD k (0, 0)).1 < 5 := by
  have e : (pairsOf p 5).getD k (0, 0) ∈ pairsOf p 5 := by rw [List.getD_eq_getElem?_getD, List.getElem?_eq_getElem h]; exact List.getElem_mem h
  have := pairs_lt e
  omega
section
variable {prog : Program} {A : Around} {E : Value → Shared → Prop} {s : Shared} {h₀ : Heap} {L : Addr} {kA kB : Nat → Int} {hm : Nat → Str} {news : List (Addr × Obj)}
theorem len_as {D : Addr} {vs' : List Value} {n : Nat} {Q : Value → Shared → Prop} (hl : s.heap.IsList D vs'.toArray) (hn : vs'.length = n) (hz : n ≤ 1000) (h : ∀ t tk, Q (.int (n : Int) t) { s with toks := tk }) : wpAny (model prog w) A (call (.builtin "len") [.ref D]) Q E s :=
  PyProof.Rows.len_list hl (by rw [List.size_toArray, hn]; omega) (by rw [List.size_toArray, hn]; exact h _ _)
theorem turn_at {value slice : PySem.Expr} {D : Addr} {vs' : List Value} {l : List (Nat × Nat)} {k : Nat} {u : Tok} {Q : Value → Shared → Prop} (hl : s.heap.IsList D vs'.toArray) (hi : IntsAre vs' (turnsOf kA kB l)) (hk : k < l.length) (hz : l.length ≤ 10)
    (h : ∀ t, Q (.int (turnF kA kB (l.getD k (0, 0)).1 (l.getD k (0, 0)).2) t) s)
    (hs : subscripted slice false (.ref D) (.int k u) = operate [.ref D, .int k u] (getItem (.ref D) (.int k u))) : wpAny (model prog w) A (subscriptTail value slice (.ref D) (.int (k : Int) u)) Q E s := by
  have e : (turnsOf kA kB l).length = l.length := by unfold turnsOf; rw [List.length_map]
  refine item_ints (k := (k : Int)) (u := u) hl hi (by omega) (by omega) (by omega) (fun t => ?_) hs
  have e2 : (turnsOf kA kB l).getD k 0 = turnF kA kB (l.getD k (0, 0)).1 (l.getD k (0, 0)).2 := by
    unfold turnsOf
    rw [List.getD_eq_getElem?_getD, List.getElem?_map, List.getD_eq_getElem?_getD, List.getElem?_eq_getElem hk]
    rfl
  rw [Int.toNat_natCast, e2]
  exact h t
theorem mine_ints {l : List (Nat × Nat)} {u : Str} {zs : List Value} (h : Picked (fun k => decide (hm (l.getD k (0, 0)).1 = u)) (fun k y => ∃ t, y = Value.int (turnF kA kB (l.getD k (0, 0)).1 (l.getD k (0, 0)).2) t) l.length zs) : IntsAre zs (mineOf kA kB hm l u) := by
  rw [mine_range]
  exact picked_ints h
theorem mine_len {l : List (Nat × Nat)} {u : Str} : (mineOf kA kB hm l u).length ≤ l.length := by
  unfold mineOf; rw [List.length_map]; exact List.length_filter_le _ _
theorem ints_empty {vs' : List Value} {ns : List Int} {b : Bool} (hi : IntsAre vs' ns) (h : vs'.isEmpty = b) : ns.isEmpty = b := by
  cases hi <;> exact h
theorem paired_empty {α β : Type} {F : α → β → Prop} {l : List α} {r : List β} {b : Bool} (hP : PySem.Paired F l r) (h : r.isEmpty = b) : l.isEmpty = b := by
  cases hP <;> exact h
end
theorem cell_here {prog : Program} {A : Around} {E : Value → Shared → Prop} {s : Shared} {env : Env} {h₀ : Heap} {L c : Addr} {news : List (Addr × Obj)} {x : Str} {pos : Pos} {v : Value} {o : Obj} {Q : Value → Shared → Prop} (hx : env.kindOf x = some .cell) (hk : env.scope.kind = .function) (hc : env.cells.lookup x = some c)
    (N : News h₀ L s.heap news) (hm : (c, o) ∈ news) (hd : o.data = .cell (some v)) (h : Q v s) (hb : (x == ("__debug__" : Str)) = false := by decide) : wpAny (model prog w) A (eval (.Name x pos) env) Q E s := wpAny_Name (wpAny_loadName_cell hk hx hc ⟨o, N.get hm, hd⟩ h) hb
theorem met_len {l : List (Nat × Nat)} (h : l.length ≤ 10) : (firstMet (fun i => (jsOf l).getD i 0) (jsOf l).length).length ≤ 10 := by
  refine Nat.le_trans (firstMet_length_le _ _) ?_
  unfold jsOf; rw [List.length_map]; exact h
section
variable {prog : Program} {A : Around} {E : Value → Shared → Prop} {s : Shared} {h₀ : Heap} {L K Lh Lv D : Addr} {kA kB : Nat → Int} {hm : Nat → Str} {vs : Nat → Int} {news all : List (Addr × Obj)} {value slice : PySem.Expr} {i k n : Nat} {u : Tok} {l : List (Nat × Nat)} {ys : List Value} {Q : Value → Shared → Prop}
theorem home_itemS (G : DueG news K Lh Lv kA kB hm vs) (N : News h₀ L s.heap all) (sub : ∀ p ∈ news, p ∈ all) (hi : i < 5) (h : ∀ t, Q (.str (hm i) t) s)
    (hs : subscripted slice false (.ref Lh) (.int i u) = operate [.ref Lh, .int i u] (getItem (.ref Lh) (.int i u))) : wpAny (model prog w) A (subscriptTail value slice (.ref Lh) (.int (i : Int) u)) Q E s := home_item N (G.mono sub) hi h hs
theorem weight_itemS (G : DueG news K Lh Lv kA kB hm vs) (N : News h₀ L s.heap all) (sub : ∀ p ∈ news, p ∈ all) (hi : i < 5) (h : ∀ t, Q (.int (vs i) t) s)
    (hs : subscripted slice false (.ref Lv) (.int i u) = operate [.ref Lv, .int i u] (getItem (.ref Lv) (.int i u))) : wpAny (model prog w) A (subscriptTail value slice (.ref Lv) (.int (i : Int) u)) Q E s := weight_item N (G.mono sub) hi h hs
theorem key_itemS (G : DueG news K Lh Lv kA kB hm vs) (N : News h₀ L s.heap all) (sub : ∀ p ∈ news, p ∈ all) (hi : i < 5) (h : ∀ a, KeyAt all a (kA i) (kB i) → Q (.ref a) s)
    (hs : subscripted slice false (.ref K) (.int i u) = operate [.ref K, .int i u] (getItem (.ref K) (.int i u))) : wpAny (model prog w) A (subscriptTail value slice (.ref K) (.int (i : Int) u)) Q E s := key_item N (G.keys.mono sub) hi h hs
theorem pair_itemS (hP : PySem.Paired (PairAt news) l ys) (N : News h₀ L s.heap all) (sub : ∀ p ∈ news, p ∈ all) (hD : (D, PySem.W.listOf (List.toArray ys) n) ∈ all) (hk : k < l.length) (hz : l.length ≤ 10)
    (h : ∀ T ti tj, (T, tupO [.int ((l.getD k (0, 0)).1 : Int) ti, .int ((l.getD k (0, 0)).2 : Int) tj]) ∈ all → Q (.ref T) s)
    (hs : subscripted slice false (.ref D) (.int k u) = operate [.ref D, .int k u] (getItem (.ref D) (.int k u))) : wpAny (model prog w) A (subscriptTail value slice (.ref D) (.int (k : Int) u)) Q E s := pair_item N hD (Paired.mono (fun _ _ h => h.mono sub) hP) hk hz h hs
end
theorem sub_due {e1 e2 e3 e4 e5 e6 e7 e8 e9 e10 e11 : Addr × Obj} {r : List (Addr × Obj)} : ∀ p ∈ e7 :: e8 :: e9 :: e5 :: e10 :: e11 :: e1 :: e6 :: r, p ∈ e1 :: e2 :: e3 :: e4 :: e5 :: e6 :: e7 :: e8 :: e9 :: e10 :: e11 :: r := by k_extra "subl"
theorem sub_due0 {e1 e2 e3 e4 e5 e6 e7 e8 : Addr × Obj} {r : List (Addr × Obj)} : ∀ p ∈ e2 :: e3 :: e4 :: e5 :: e6 :: e7 :: r, p ∈ e1 :: e2 :: e3 :: e4 :: e5 :: e6 :: e7 :: e8 :: r := by k_extra "subl"
theorem sub_cal {e1 e2 e3 e4 e5 e6 : Addr × Obj} {r : List (Addr × Obj)} : ∀ p ∈ e4 :: e5 :: e6 :: e1 :: r, p ∈ e1 :: e2 :: e3 :: e4 :: e5 :: e6 :: r := by k_extra "subl"
theorem lt_last5 {d a1 a2 a3 a4 a5 : Addr} {r : List (Addr × Obj)} (h : @LT.lt Nat _ a1 d ∧ @LT.lt Nat _ a2 d ∧ @LT.lt Nat _ a3 d ∧ @LT.lt Nat _ a4 d ∧ @LT.lt Nat _ a5 d ∧ AllLt d r) : AllLt d r := h.2.2.2.2.2
theorem lt_last4' {d a1 a2 a3 a4 : Addr} {r : List (Addr × Obj)} (h : @LT.lt Nat _ a1 d ∧ @LT.lt Nat _ a2 d ∧ @LT.lt Nat _ a3 d ∧ @LT.lt Nat _ a4 d ∧ AllLt d r) : AllLt d r := h.2.2.2.2
section
variable {kA kB : Nat → Int} {hm : Nat → Str} {vs : Nat → Int} {R R2 : List (Addr × Obj)} {i : Nat} {kvs kc : List (Str × Value)} {Rt Dc : Addr} {oc : Obj} {g1 g2 g3 g4 : Tok} {vsq : List Value}
theorem due_setB (hB : Book w R 5 kvs (dueN kA kB hm vs i)) (sub : ∀ p ∈ R, p ∈ R2) (hC : Cal R2 kc (calN kA kB hm (pairsH kA kB hm (hm i)) 5)) (ho : oc.IsDictOf (PySem.strKind PySem.Challenge.rw_xo0026_01.row.prog w) kc) (hz : kc.length ≤ 5) (lo : (Dc == sysModules) = false)
    (hne : (pairsH kA kB hm (hm i)).isEmpty = false) :
    Book w ((Rt, tupO [.int ((firstMet (fun k => (jsOf (pairsH kA kB hm (hm i))).getD k 0) (jsOf (pairsH kA kB hm (hm i))).length).length : Int) g1, .int ((pairsH kA kB hm (hm i)).length : Int) g2, .int (turnsOf kA kB (pairsH kA kB hm (hm i))).sum g3, .int (gapsOf vs (pairsH kA kB hm (hm i))).sum g4, .ref Dc]) :: (Dc, oc) :: R2) 5 (stored kvs (hm i) (.ref Rt)) (dueN kA kB hm vs (i + 1)) := by
  unfold dueN
  rw [hne, if_neg (by decide)]
  exact (hB.mono (fun p hp => .tail _ (.tail _ (sub p hp))) (Nat.le_refl _)).set (.head _) (.tail _ (.head _)) ho (hC.mono fun p hp => .tail _ (.tail _ hp)) lo hz
theorem due_skipB (hB : Book w R 5 kvs (dueN kA kB hm vs i)) (sub : ∀ p ∈ R, p ∈ R2) (hne : (pairsH kA kB hm (hm i)).isEmpty = true) : Book w R2 5 kvs (dueN kA kB hm vs (i + 1)) := by
  unfold dueN
  rw [if_pos hne]
  exact hB.mono sub (Nat.le_refl _)
end
theorem both_yes {kA kB : Nat → Int} {i j : Nat} {x y : Str} (h1 : (x == y) = true) (h2 : (if kA i = kA j then if kB i = kB j then false else decide (kB j < kB i) else decide (kA j < kA i)) = true) : (decide (x = y) && gtK kA kB i j) = true := by
  have e : gtK kA kB i j = true := h2
  rw [e, decide_eq_true (eq_of_beq h1)]; rfl
theorem both_no1 {kA kB : Nat → Int} {i j : Nat} {x y : Str} (h2 : (if kA i = kA j then if kB i = kB j then false else decide (kB j < kB i) else decide (kA j < kA i)) = false) : (decide (x = y) && gtK kA kB i j) = false := by
  have e : gtK kA kB i j = false := h2
  rw [e, Bool.and_false]
theorem both_no2 {kA kB : Nat → Int} {i j : Nat} {x y : Str} (h1 : (x == y) = false) : (decide (x = y) && gtK kA kB i j) = false := by
  rw [decide_eq_false (fun e => by rw [e, beq_self_eq_true] at h1; cases h1), Bool.false_and]
theorem beq_yes {x y : Str} (h1 : (x == y) = true) : decide (x = y) = true := decide_eq_true (eq_of_beq h1)
theorem beq_no {x y : Str} (h1 : (x == y) = false) : decide (x = y) = false := decide_eq_false (fun e => by rw [e, beq_self_eq_true] at h1; cases h1)
theorem due_order {h₀ h : Heap} {L : Addr} {e1 e2 e3 e4 e5 : Addr × Obj} {r : List (Addr × Obj)} (N : News h₀ L h (e1 :: e2 :: e3 :: e4 :: e5 :: r)) : News h₀ L h (e5 :: e1 :: e2 :: e3 :: e4 :: r) := fun p hp => N p (by revert p; k_extra "subl")
theorem cal_order {h₀ h : Heap} {L : Addr} {e1 e2 e3 e4 e5 e6 e7 e8 e9 e10 : Addr × Obj} {r : List (Addr × Obj)} (N : News h₀ L h (e1 :: e2 :: e3 :: e4 :: e5 :: e6 :: e7 :: e8 :: e9 :: e10 :: r)) : News h₀ L h (e7 :: e1 :: e4 :: e5 :: e6 :: e8 :: e9 :: e2 :: e3 :: e10 :: r) := fun p hp => N p (by revert p; k_extra "subl")
theorem lt_last9 {d a1 a2 a3 a4 a5 a6 a7 a8 a9 : Addr} {r : List (Addr × Obj)} (h : @LT.lt Nat _ a1 d ∧ @LT.lt Nat _ a2 d ∧ @LT.lt Nat _ a3 d ∧ @LT.lt Nat _ a4 d ∧ @LT.lt Nat _ a5 d ∧ @LT.lt Nat _ a6 d ∧ @LT.lt Nat _ a7 d ∧ @LT.lt Nat _ a8 d ∧ @LT.lt Nat _ a9 d ∧ AllLt d r) : AllLt d r := h.2.2.2.2.2.2.2.2.2
section
variable {mg mb : Str → Option Value} {mean : ExcName → Option Value} {loose : List Str} {dp un : Nat} {gd : Option (List Code)} {cn : Str} {cs : Scope} {a : Addr} {ccd : Value} {cl : List (Str × Addr)} {outer : List Env} {A₀ : Around} {base h₀ : Heap} {L : Addr} {m : Str → Option Value} {s : Shared} {Q E : Value → Shared → Prop}
theorem off_due_1 : True := by
  w_top off
  k_with_none
  k_with "subl" => ((repeat' (first | refine List.forall_mem_cons.mpr ⟨by (repeat (first | exact List.Mem.head _ | refine List.Mem.tail _ ?_ | refine List.mem_append_right _ ?_)), ?_⟩ | refine List.forall_mem_append.mpr ⟨?_, ?_⟩)); all_goals (intro _ hpw219; (repeat (first | exact hpw219 | refine List.Mem.tail _ ?_ | exact List.mem_append_left _ hpw219 | refine List.mem_append_right _ ?_))))
  k_with "pk" => (with_reducible first | exact pk1 ‹_› | exact pk2 ‹_› | exact pk3 ‹_› | exact pk4 ‹_› | exact pk5 ‹_› | exact pk6 ‹_› | exact pk7 ‹_› | exact pk8 ‹_› | exact pk9 ‹_› | exact pk10 ‹_› | exact pk11 ‹_› | exact pk12 ‹_› | exact pk13 ‹_› | exact pk14 ‹_› | exact pl2 ‹_› | exact pl3 ‹_› | exact pl4 ‹_› | exact pl5 ‹_› | exact pl6 ‹_› | exact pl7 ‹_›)
  k_with "suc" => (with_reducible first | exact lts1 | exact lts2 | exact lts3 | exact lts4 | exact lts5 | exact lts6 | exact lts7)
  k_with "hop" => (with_reducible first | exact ‹_› | k_extra "pk" | (refine Nat.lt_trans ?_ (by first | assumption | k_extra "pk"); k_extra "hop"))
  k_with "om" => (first | (with_reducible first | ((show @Ne Nat _ _); (try dsimp only); first | exact ‹_› | exact Ne.symm ‹_› | exact Nat.ne_of_lt (by k_extra "suc") | exact Nat.ne_of_gt (by k_extra "suc") | ((fail_if_success (fail_if_success refine cj2 ‹_› ?_)); exact Nat.ne_of_gt (by k_extra "pk")) | ((fail_if_success (fail_if_success refine cj1 ‹_› ?_)); exact Nat.ne_of_lt (by k_extra "pk")) | ((fail_if_success (fail_if_success refine cj3 ‹_› ?_)); k_extra "pk") | ((fail_if_success (fail_if_success refine cj4 ‹_› ?_)); k_extra "pk") | ((fail_if_success (fail_if_success refine cj5 ‹_› ?_)); exact Ne.symm (by k_extra "pk")) | ((fail_if_success (fail_if_success refine cj6 ‹_› ?_)); exact Ne.symm (by k_extra "pk")) | exact Nat.ne_of_gt ‹_› | exact Nat.ne_of_lt ‹_›) | ((show _ ∨ _); first | exact lt5_cases ‹_› | exact i5_cases ‹_› ‹_› | exact i3_cases ‹_› ‹_›) | ((show @LT.lt Nat _ _ _); first | exact ‹_› | exact sub_step ‹_› | exact sub_step1 ‹_› | k_extra "suc" | ((fail_if_success (fail_if_success refine cj7 ‹_› ?_)); k_extra "pk")) | ((show @LE.le Nat _ _ _); (try dsimp only); first | exact (by decide) | exact Nat.le_of_lt ‹_› | exact Nat.le_of_lt (by k_extra "suc") | (refine Nat.le_trans ‹_› ?_; decide) | (refine Nat.le_trans (Nat.le_of_eq (Eq.symm ‹_›)) (Nat.le_trans ‹_› ?_); decide) | exact le_s1 (by k_extra "pk") | exact len2a ‹_› ‹_› | exact len2b ‹_› ‹_›) | ((show @LE.le Int _ _ _); exact neg5) | ((show @LT.lt Int _ _ _); exact Int.ofNat_lt.mpr ‹_›)))
  k_with "my_enter" => k_dflt (first | (refine' code_def ?k1w914 ?k2w914 ?k3w914 ?k4w914 ?k5w914 ?kAw914 ?kFw914 ?kKw914 ?k6w914 ?k7w914 ?k8w914 ?k9w914 ?kBw914 ?_ ?c2w914 ?c3w914 ?c4w914 ?c5w914; (case kAw914 => exact rfl); (case kFw914 => exact rfl); (case kKw914 => assumption); (case k1w914 => k_asm); (case k2w914 => k_asm); (case k3w914 => k_asm); (case k4w914 => k_asm); (case k5w914 => k_asm); (case k6w914 => k_is); (case k7w914 => k_is); (case k8w914 => k_room); (case k9w914 => first | exact BindsTo.of_eq rfl | exact binds_K (by k_in) rfl (by k_is) rfl rfl rfl); (case c5w914 => decide); (case kBw914 => exact locs rfl); (case c2w914 => exact rfl); (case c3w914 => exact rfl); (case c4w914 => exact rfl); k_whole; intro _ _ _ _ _ N'w914 B'w914 _ _; (try dsimp only); (try k_lift B'w914); (try k_fold)) | (refine' code_defC ?k1w914 ?k2w914 ?k3w914 ?k4w914 ?k5w914 ?kAw914 ?kFw914 ?kKw914 ?k6w914 ?k7w914 ?k8w914 ?k9w914 ?kBw914 ?kDw914 ?_ ?c2w914 ?c3w914 ?c4w914; (case kAw914 => exact rfl); (case kFw914 => exact rfl); (case kKw914 => assumption); (case k1w914 => k_asm); (case k2w914 => k_asm); (case k3w914 => k_asm); (case k4w914 => k_asm); (case k5w914 => k_asm); (case k6w914 => k_is); (case k7w914 => k_is); (case k8w914 => k_room); (case k9w914 => first | exact BindsTo.of_eq rfl | exact binds_K (by k_in) rfl (by k_is) rfl rfl rfl); (case kBw914 => exact rfl); (case kDw914 => decide +kernel); (case c2w914 => exact rfl); (case c3w914 => exact rfl); (case c4w914 => exact rfl); k_whole; intro _ _ _ _ _ _ _ N'w914 Y'w914 B'w914 _ _ l1w914; (try k_lt l1w914); k_cells Y'w914; (try simp only [List.cons_append, List.nil_append] at N'w914); (try dsimp only); (try k_lift B'w914); (try k_fold)))
  k_with "my_unrolled" => (k_dflt (first | (refine LCg.CompSrc.ledger (by rfl) (by k_asm) (by k_asm) (by k_mem) (by first | size_fits | exact Nat.le_of_ble_eq_true rfl) ?_; intro _; lcg_lit) | (refine LCg.CompSrc.base (by rfl) (by k_asm) (by k_asm) ‹_› (by first | size_fits | exact Nat.le_of_ble_eq_true rfl) ?_; intro _; lcg_lit) | (refine LCg.CompSrc.range (by rfl) (by k_asm) (by k_asm) ‹_› (by first | decide | rfl) (by first | rfl | decide) (by first | size_fits | exact Nat.le_of_ble_eq_true rfl) ?_; intro _; lcg_lit)))
  k_with "my_comp" => k_dflt (refine LCg.ListComp_U (F₀ := by k_asm) (by with_unfolding_all rfl) (by decide) (by rfl) (by decide) (by rfl) ?_)
  k_with "my_compA" => k_dflt (refine LCg.Assign_ListComp_U (F₀ := by k_asm) (by rfl) (by with_unfolding_all rfl) (by with_unfolding_all rfl) (by decide) (by rfl) (by decide) (by rfl) (by rfl) (by rfl) ?_)
  k_with "CompRest" => (with_unfolding_all first | (refine LCg.CompRest.succ ?_; intro _ _ _ _ _ _ _ _ _ _ hv'w186 _ hx'w186 _ _ off'w186 _; (first | lcg_open hv'w186 | (obtain ⟨_, hv9'w186⟩ := hv'w186; subst hv9'w186; (try simp only [Int.zero_add, Int.natCast_zero, Int.natCast_one, Int.reduceAdd, Nat.reduceAdd, Int.cast_ofNat_Int] at hx'w186))); (try simp only [LCg.Off3, and_true] at off'w186)) | refine LCg.CompRest.zero ?_)
  k_with "eval ListComp" => (k_here; k_extra "my_comp")
  k_with "exec Assign cons ListComp" => (k_here; k_extra "my_compA")
  k_with "call ref" => k_extra "my call"
  k_with "subscriptTail" => k_extra "my strs"
  k_with "exec For" => k_extra "my For"
  k_with "CompEnd" => k_extra "my CompEnd"
  k_with "subscriptTail Name Name ref int" => k_extra "my item"
  k_with "binaryOp Add str str" => (k_here; (with_reducible show wpAny _ _ (binaryOp Operator.Add (Value.str _ _) (Value.str _ _)) _ _ _); (refine add_short (by with_reducible assumption) (by with_reducible assumption) ?_); intro _ _ _)
  k_with "binaryOp Add str str" => (k_here; (with_reducible show wpAny _ _ (binaryOp Operator.Add (Value.str _ _) (Value.str _ _)) _ _ _); (refine add_short (by first | with_reducible assumption | exact quote_short) (by first | with_reducible assumption | exact quote_short) ?_); intro _ _ _)
  k_with "call type:str" => (k_here; (with_reducible show wpAny _ _ (call (Value.type "str") [Value.int _ _]) _ _ _); (refine str_digit ‹_› ‹_› ?_); intro _ _ _)
  k_with "subscriptTail Name BinOp ref int" => k_extra "my strs"
  k_with "subscriptTail Subscript" => k_extra "my strs"
  k_with "pyIter ref" => k_extra "my pyIter"
  k_with "lex white" => (k_here; k_dflt (refine lex_white ‹_› ?_; intro _))
  k_with "eval Name" => k_extra "my name"
  k_with "FnAt" => k_dflt (exact FnAt.of (by k_asm) (by k_mem))
  k_with "TurnJ" => k_dflt (refine TurnJ.ret ?_; (try dsimp only))
  k_with "exec For Tuple Call cons nil" => k_extra "my For"
  k_with "setItem ref str" => k_extra "my set"
  k_with "in run" => (repeat (first | with_reducible assumption | exact List.Mem.head _ | refine List.Mem.tail _ ?_ | assumption | exact sub_mem (by with_reducible assumption) (by with_reducible assumption) | refine sub_mem (by with_reducible assumption) ?_))
  k_with "run mem" => (k_extra "in run"; done)
  k_with "TurnG" => k_dflt (refine TurnG.ret ?_; (try dsimp only))
  k_with "dict set" => (k_here; k_dflt (refine' kda_set (knd := PySem.strKind _ _) ?Fw365 ?Nw365 ?Uw365 ?dw365 (strKind_is _ _ _ _) ?zw365 ?_; (case Fw365 => k_asm); (case Nw365 => k_asm); (case Uw365 => k_updF); (case dw365 => assumption); (case zw365 => first | exact take_size ‹_› | exact dict_size ‹_›); intro _ _ _ N'w365 _; (try dsimp only at N'w365)))
  k_with "exec For Name Call cons nil" => k_extra "my For"
  k_with "for name" => (k_here; k_dflt (refine For_name ?_))
  k_with "subscriptTail Name Constant ref int" => k_extra "my row part"
  k_with "subscriptTail Subscript Name Name Constant ref int" => k_extra "my row part"
  k_with "newTuple" => k_extra "my newTuple"
  k_with "new tuple" => (k_here; k_dflt (refine' kup_newTuple ?Fw145 ?Nw145 ?_ ?zw145; (case Fw145 => k_asm); (case Nw145 => k_asm); (case zw145 => kmk_size)); intro _ _ _ _ l1w145; (try k_lt l1w145); (try k_sweep))
  k_with "eval ListComp" => k_extra "my compT"
  k_with "comp T" => (k_here; k_dflt (refine LCt.ListComp_T (F₀ := by k_asm) (by with_unfolding_all rfl) (by decide) (by rfl) (by decide) (by rfl) ?_))
  k_with "CompSrcT" => k_extra "my CompSrcT"
  k_with "key gt" => (k_here; (with_reducible show wpAny _ _ (compareOp CmpOp.Gt (Value.ref _) (Value.ref _)) _ _ _); k_dflt (refine' key_gt ?zNw76 ?zaw76 ?zbw76 ?zuw76 ?_; (case zNw76 => k_asm); (case zaw76 => assumption); (case zbw76 => assumption); (case zuw76 => ke_room)))
  k_with "compareOp Gt ref ref" => k_extra "my gt"
  k_with "call builtin:len" => k_extra "my len"
  k_with "comp P" => (k_here; (with_reducible show wpAny _ _ (eval (PySem.Expr.ListComp _ [PySem.Comprehension.mk (PySem.Expr.Tuple _ _ _) _ _ _] _ _) _) _ _ _); k_dflt (refine LCp.ListComp_P (F₀ := by k_asm) (by with_unfolding_all rfl) (by decide) (by rfl) (by decide) (by rfl) (by rfl) (by decide) ?_))
  k_with "in cells" => (repeat (first | exact List.Mem.head _ | refine List.Mem.tail _ ?_ | refine sub_mem (by with_reducible assumption) ?_))
  k_with "cell name" => (k_here; (with_reducible show wpAny _ _ (eval (PySem.Expr.Name _ _) (compEnvC _ _ _ _)) _ _ _); k_dflt (refine' lcf_cell ?yNw982 ?ycw982 ?ymw982 ?ydw982 ?_ ?yaw982 ?ybw982; (case yaw982 => rfl); (case ybw982 => rfl); (case yNw982 => k_asm); (case ycw982 => rfl); (case ymw982 => k_extra "in cells"); (case ydw982 => first | with_reducible assumption | assumption)))
  k_with "in sub" => (repeat (first | with_reducible assumption | exact List.Mem.head _ | refine mem_tail ?_ | refine sub_mem (by with_reducible assumption) ?_))
  k_with "SrcLP" => k_extra "my SrcLP"
  k_with "src P" => (k_here; k_dflt (refine srcP (by rfl) (by k_asm) (by k_asm) (by k_extra "in sub") (by first | size_fits | exact Nat.le_of_ble_eq_true rfl) ?_; intro _))
  k_with "P ends" => (k_here; k_dflt (refine' p_ends ?bFw54 ?bNw54 ?bsw54 ?bow54 ?bSw54 ?_; (case bFw54 => k_asm); (case bNw54 => k_asm); (case bow54 => with_reducible assumption); (case bsw54 => lcg_sub); (case bSw54 => exact (Or.inr ⟨_, by k_extra "in sub", rfl, _, rfl⟩))))
  k_with "exec Assign cons ListComp" => k_extra "my assign"
  k_with "compareOp NotEq ref ref" => k_extra "my ne"
  k_with "Src2" => k_extra "my Src2"
  k_with "call builtin:sum" => k_extra "my sum"
  k_with "call type:set" => k_extra "my set call"
  k_with "comp 2" => (k_here; (with_reducible show wpAny _ _ (eval (PySem.Expr.ListComp _ [PySem.Comprehension.mk (PySem.Expr.Name _ _) _ [] _, PySem.Comprehension.mk (PySem.Expr.Name _ _) _ [_] _] _ _) _) _ _ _); k_dflt (refine ListComp_2 (F₀ := by k_asm) (by with_unfolding_all rfl) (by decide) (by rfl) (by decide) (by rfl) (by rfl) (by decide) (by intro _ _; rfl) ?_))
  k_with "comp T1" => ((with_reducible show wpAny _ _ (eval (PySem.Expr.ListComp _ [PySem.Comprehension.mk (PySem.Expr.Name _ _) _ [_] _] _ _) _) _ _ _); k_extra "comp T")
  k_with "name assign" => (k_here; (with_reducible show wpAny _ _ (exec (PySem.Stmt.Assign [PySem.Expr.Name _ _] (PySem.Expr.ListComp _ _ _ _) _) _) _ _ _); k_dflt (refine wpAny_Assign_Name ?_))
  k_with "sub up" => (intro _ hpw596; first | exact hpw596 | (refine sub_mem (by with_reducible assumption) ?_; (repeat (first | with_reducible exact hpw596 | refine mem_tail ?_))))
  k_with "cell here" => (k_here; (with_reducible show wpAny _ _ (eval (PySem.Expr.Name _ _) (envOfC _ _ _ _ _)) _ _ _); k_dflt (refine' cell_here ?yxw288 ?ykw288 ?ycw288 ?yNw288 ?ymw288 ?ydw288 ?_; (case yxw288 => exact rfl); (case ykw288 => exact rfl); (case ycw288 => exact rfl); (case yNw288 => k_asm); (case ymw288 => k_extra "in cells"); (case ydw288 => first | with_reducible assumption | exact rfl | assumption)))
  k_with "exec For Name Name cons nil" => k_extra "my For"
  k_with "due ne" => (k_here; (with_reducible show wpAny _ _ (compareOp CmpOp.NotEq (Value.ref _) (Value.ref _)) _ _ _); k_dflt (refine' ne_nil2 ?waw903 ?wbw903 ?wuw903 ?_ ?_; (case waw903 => exact News.isList (by k_asm) (by k_extra "in sub")); (case wbw903 => exact News.isList (by k_asm) (.head _)); (case wuw903 => ke_room); (intro _); rotate_left; (intro _)))
  k_with "due len" => (k_here; k_dflt (refine' len_as ?law824 ?lnw824 ?lzw824 ?_; (case law824 => exact News.isList (by k_asm) (by k_extra "in sub")); (case lnw824 => first | exact IntsAre.length ‹_› | exact (PySem.Paired.length ‹_›).symm); (case lzw824 => first | omega | exact Nat.le_trans mine_len (by omega)); intro _ _))
  k_with "set len" => (k_here; k_dflt (refine' len_sl1 (own := []) ?eNw33 ?ehw33 ?efw33 ?_; (case eNw33 => k_asm); (case ehw33 => assumption); (case efw33 => omega)))
  k_with "due sum" => (k_here; k_dflt (refine' sumK ?k0w118 ?k1w118 ?k2w118 ?k3w118 ?k4w118 ?_; (case k0w118 => exact rfl); (case k1w118 => k_asm); (case k2w118 => k_asm); (case k3w118 => exact News.isList (by k_asm) (by k_extra "in sub")); (case k4w118 => assumption); k_whole; intro _ _ _ _ _))
  k_with "due item" => (k_here; (with_reducible show wpAny _ _ (subscriptTail _ _ (Value.ref _) (Value.int _ _)) _ _ _); k_dflt (first | ((with_reducible show wpAny _ _ (subscriptTail _ _ (Value.ref _) (Value.int 0 _)) _ _ _); (refine' tup_item0 ?mNw323 ?mTw323 ?_ ?msw323; (case mNw323 => k_asm); (case mTw323 => assumption); (case msw323 => with_unfolding_all rfl))) | (refine' weight_itemS ?mGw323 ?mNw323 ?mSw323 ?miw323 ?_ ?msw323; (case mGw323 => with_reducible assumption); (case mNw323 => k_asm); (case mSw323 => lcg_sub); (case miw323 => assumption); (case msw323 => with_unfolding_all rfl); intro _) | (refine' home_itemS ?mGw323 ?mNw323 ?mSw323 ?miw323 ?_ ?msw323; (case mGw323 => with_reducible assumption); (case mNw323 => k_asm); (case mSw323 => lcg_sub); (case miw323 => assumption); (case msw323 => with_unfolding_all rfl); intro _) | (refine' key_itemS ?mGw323 ?mNw323 ?mSw323 ?miw323 ?_ ?msw323; (case mGw323 => with_reducible assumption); (case mNw323 => k_asm); (case mSw323 => lcg_sub); (case miw323 => assumption); (case msw323 => with_unfolding_all rfl); intro _ _) | (refine' pair_itemS ?mPw323 ?mNw323 ?mSw323 ?mDw323 ?mkw323 ?mzw323 ?_ ?msw323; (case mPw323 => with_reducible assumption); (case mNw323 => k_asm); (case mSw323 => lcg_sub); (case mDw323 => (k_extra "in sub"; done)); (case mkw323 => assumption); (case mzw323 => assumption); (case msw323 => with_unfolding_all rfl); intro _ _ _ _) | (refine' turn_at ?mlw323 ?miw323 ?mkw323 ?mzw323 ?_ ?msw323; (case mlw323 => exact News.isList (by k_asm) (by k_extra "in sub")); (case miw323 => assumption); (case mkw323 => assumption); (case mzw323 => assumption); (case msw323 => with_unfolding_all rfl); intro _)))
  k_with "assign T" => (k_here; (with_reducible show wpAny _ _ (exec (PySem.Stmt.Assign [PySem.Expr.Name _ _] (PySem.Expr.ListComp _ [PySem.Comprehension.mk (PySem.Expr.Name _ _) _ [_] _] _ _) _) _) _ _ _); k_dflt (refine LCt.Assign_ListComp_T (F₀ := by k_asm) (by rfl) (by with_unfolding_all rfl) (by with_unfolding_all rfl) (by decide) (by rfl) (by decide) (by rfl) (by rfl) (by rfl) ?_))
  trivial
theorem c_due {K Lv Lh : Addr} {kA kB : Nat → Int} {hm : Nat → Str} {vs : Nat → Int} {rest : List (Addr × Obj)}
    (B : Below A₀ base outer h₀) (F : Fr h₀ L s.heap m) (X : (hd.heap_1 w.params).In h₀) (N : News h₀ L s.heap rest) (T : Top topProg loose mean mg mb h₀) (hk : cs.kind = .function) (h1 : dp ≤ 320) (h2 : un ≤ 100)
    (G : DueG rest K Lh Lv kA kB hm vs) (hvs : ∀ i, i < 5 → -1 ≤ vs i ∧ vs i ≤ 1)
    (ret : ∀ D o kvs R h' tk', (∀ p ∈ rest, p ∈ R) → o.IsDictOf (PySem.strKind PySem.Challenge.rw_xo0026_01.row.prog w) kvs → Book w R 5 kvs (dueN kA kB hm vs 5) → (D == sysModules) = false → (∀ p ∈ R, p.1 ≠ D) → Fr h₀ L h' m → News h₀ L h' ((D, o) :: R) → Q (.ref D) { s with heap := h', toks := tk' }) :
    wpAny (model PySem.Challenge.rw_xo0026_01.row.prog w) (ktrTop dp un gd cn cs L a ccd cl outer) (call (.ref 258) [.ref K, .ref Lv, .ref Lh]) Q E s := by
  refine lift h1 h2 ?_
  obtain ⟨th, nh, hLh⟩ := id G.homes
  revert X; k_fill; intro X
  refine wpAny_call ?_
  k_with "my For" => k_extra "for name"
  k_with "my assign" => first | k_extra "assign T" | k_extra "name assign"
  k_with "my compT" => first | k_extra "comp 2" | k_extra "comp P" | k_extra "comp T1"
  k_with "my pyIter" => first
    | k_dflt (refine' due_loop (hm := hm) (kA := kA) (kB := kB) (vs := vs) ?zhh ?zhx ?zhk ?zhc ?zha ?zF ?zN ?zhd0 ?zdU ?zdT ?zdP ?ze1 ?ze2 ?ze3 ?ze4 ?zhn ?zq1 ?zq2 ?zq3 ?zq4 ?zhz ?zturn ?zdone; (case' zhh => exact rfl); (case' zhx => exact rfl); (case' zhk => exact rfl); (case' zhc => exact rfl); (case' zF => k_asm); (case' zN => exact due_order (by k_asm)); (case' zha => exact .tail _ (.tail _ (.tail _ hLh))); (case' zhd0 => assumption); (case' zdU => assumption); (case' zdT => assumption); (case' zdP => assumption); (case' ze1 => (show @Ne Nat _ _; omega)); (case' ze2 => (show @Ne Nat _ _; omega)); (case' ze3 => (show @Ne Nat _ _; omega)); (case' ze4 => (show @Ne Nat _ _; omega)); (case' zhn => k_all); (case' zq1 => k_all); (case' zq2 => k_all); (case' zq3 => k_all); (case' zq4 => k_all); (case' zhz => assumption); (case' zturn => (intro i' t' gv' mv' cv' h' tk' I' oI' oc' o' oU' oT' oP' vU' vT' vP' kvs' R' hi' sub' ho' hB' hz1' hz2' r1' r2' r3' r4' r5' r6' i1' i2' i3' i4' i5' hd' dU' dT' dP' F' N'; (have G' := G.mono (fun p hp => sub' p (.tail _ (.tail _ (.tail _ hp))))); (have hlL' : (pairsH kA kB hm (hm i')).length ≤ 10 := pairs_len); (try k_fold))); (case' zdone => (intro gv' mv' cv' h' tk' o' kvs' R' sub' ho' hB' hz1' r1' F' N'; (try k_fold))))
    | k_dflt (refine' cal_loop (hm := hm) (kA := kA) (kB := kB) (l := pairsH kA kB hm (hm i')) ?chh ?chx ?chk ?chc ?cha ?cF ?cN ?chd0 ?chDc ?chn ?chD ?chz ?cr1 ?cr2 ?cr3 ?cr4 ?cr5 ?cturn ?cdone; (case' chh => exact rfl); (case' chx => exact rfl); (case' chk => exact rfl); (case' chc => exact rfl); (case' cF => k_asm); (case' cN => exact cal_order (by k_asm)); (case' cha => exact .tail _ (.tail _ (.tail _ (sub2' _ (sub' _ (.tail _ (.tail _ (.tail _ hLh)))))))); (case' chd0 => assumption); (case' chDc => (show @Ne Nat _ _; omega)); (case' chn => k_all); (case' chD => ((repeat (refine List.forall_mem_cons.mpr ⟨by (show @Ne Nat _ _; omega), ?_⟩)); exact ne_all (lt_last9 (by with_reducible assumption)) (Nat.le_refl _))); (case' chz => assumption); (case' cr1 => (dsimp only; k_all)); (case' cr2 => (dsimp only; k_all)); (case' cr3 => (dsimp only; k_all)); (case' cr4 => (dsimp only; k_all)); (case' cr5 => (dsimp only; k_all)); (case' cturn => (intro u' tu' mu' h' tk' I6' oI6' oc6' o6' kv6' ex6' R6' hu' hR6' sub6' ho6' hC6' hz6' hz7' hx6' a1' a2' a3' a4' a5' hd6' F' N'; (have G6' := G2'.mono (fun p hp => sub6' p (.tail _ (.tail _ (.tail _ (.tail _ (.tail _ (.tail _ (.tail _ (.tail _ hp)))))))))); (have hP6' := Paired.mono (fun _ _ h => PairAt.mono h (fun p hp => sub6' p (.tail _ (.tail _ (.tail _ (.tail _ (.tail _ (.tail _ (.tail _ (.tail _ hp)))))))))) hP2'); (try k_fold))); (case' cdone => (intro mu' h' tk' oc7' v7' o7' kv7' R7' sub7' ho7' hC7' hz7' b1' b2' b3' b4' b5' b6' b7' hd7' F' N'; (have G7' := G2'.mono (fun p hp => sub7' p (.tail _ (.tail _ (.tail _ hp))))); (have hP3' := Paired.mono (fun _ _ h => PairAt.mono h (fun p hp => sub7' p (.tail _ (.tail _ (.tail _ hp))))) hP2'); (try k_fold))))
  k_with "my Src2" => k_dflt (refine ⟨_, _, _, _, _, (fun i j => decide (hm j = hm i') && gtK kA kB i j), PairsEx _, rfl, rfl, by k_asm, by k_asm, by assumption, .zero, ?psrc, ?pturn, ?pdone⟩; (case' psrc => (intro j' tj' I1' oI1' C1' oC1' D1' ys' l' m1' news' h' tk' E' hj' hJ' hC' hx' F' N'; (have subJ' := hJ'.1); (try k_fold))); (case' pturn => (intro x1' j' ti' tj' J1' oJ1' I1' oI1' C1' oC1' D1' ys' l' m1' news' h' tk' E' hj' hij' hJ' hC' hx0' hx1' F' N' off'; (have subJ' := hJ'.1); (have hx5' := Nat.lt_trans hij' hj'); (have GN' := G'.mono (fun p hp => subJ' p (.tail _ (.tail _ (.tail _ (.tail _ (.tail _ (.tail _ hp)))))))); (try k_fold))); (case' pdone => (intro D1' ys' news' h' tk' hJ' F' N' off'; (obtain ⟨R2', sub2', s1', s2', s3', s4', s5', s6', s7', ⟨j1', j2', j3', j4', j5', j6'⟩, hP', N2'⟩ := pairs_shape hJ' N' off' ‹_› ‹_› ‹_› ‹_› ‹_› ‹_›); clear N'; (have hP2' : PySem.Paired (PairAt R2') (pairsH kA kB hm (hm i')) ys' := hP'); clear hP'; (have hyl' := PySem.Paired.length hP2'); (have G2' := G'.mono sub2'); (try k_fold))))
  k_with "my ne" => k_extra "due ne"
  k_with "my SrcLP" => first
    | ((with_reducible show LCp.SrcLP _ _ _ _ _ _ _ (PySem.Expr.Call _ _ _ _) _ _ _ _ _ _ _); k_extra "src P"; refine' restP_each (Paired.mono (fun _ _ h => h.mono (by lcg_sub)) hP2') (fun ij y => ∃ t, y = Value.int (turnF kA kB ij.1 ij.2) t) ?uturn ?ufin; (case' uturn => (intro ij' ta' tb' I3' oI3' C3' oC3' D3' m3' zs' h' tk' E' hm3' hC' hx' hy' F' N' off' ne'; (obtain ⟨ha3', hb3', _⟩ := pairs_lt hm3'); (have hc3' := Nat.lt_trans ha3' hb3'); (try k_fold))); (case' ufin => (intro zs3' hz3'; (have hT3' : IntsAre zs3' (turnsOf kA kB (pairsH kA kB hm (hm i'))) := paired_ints hz3'); (try k_fold))))
    | ((with_reducible show LCp.SrcLP _ _ _ _ _ _ _ (PySem.Expr.BinOp _ _ _ _) _ _ _ _ _ _ _); k_extra "src P"; refine' restP_each (Paired.mono (fun _ _ h => h.mono (by lcg_sub)) hP3') (fun ij y => ∃ t, y = Value.int (vs ij.1 - vs ij.2) t) ?vturn ?vfin; (case' vturn => (intro ij' ta' tb' I3' oI3' C3' oC3' D3' m3' zs' h' tk' E' hm3' hC' hx' hy' F' N' off' ne'; (obtain ⟨ha3', hb3', _⟩ := pairs_lt hm3'); (have hc3' := Nat.lt_trans ha3' hb3'); (have hv1' := hvs _ hc3'); (have hv2' := hvs _ hb3'); (try k_fold))); (case' vfin => (intro zs4' hz4'; (have hT4' : IntsAre zs4' (gapsOf vs (pairsH kA kB hm (hm i'))) := paired_ints hz4'); (try k_fold))))
    | ((with_reducible show LCp.SrcLP _ _ _ _ _ _ _ (PySem.Expr.Name _ _) _ _ _ _ _ _ _); k_extra "src P"; refine' restP_each (Paired.mono (fun _ _ h => h.mono (by lcg_sub)) hP3') (fun ij y => ∃ t, y = Value.int (ij.2 : Int) t) ?sturn ?sfin; (case' sturn => (intro ij' ta' tb' I3' oI3' C3' oC3' D3' m3' zs' h' tk' E' hm3' hC' hx' hy' F' N' off' ne'; (try k_fold))); (case' sfin => (intro zs5' hz5'; (have hT5' : IntsAre zs5' (jsOf (pairsH kA kB hm (hm i'))) := paired_ints hz5'); (try k_fold))))
  k_with "my call" => (k_here; (with_reducible show wpAny _ _ (call (Value.ref 253) _) _ _ _); k_dflt (refine' c_turn ?B ?F ?X ?N ?T ?hk ?h1 ?h2 ?hK ?hi ?hj ?ret; (case' B => k_asm); (case' F => k_asm); (case' X => k_asm); (case' N => k_asm); (case' T => k_asm); (case' hk => exact rfl); (case' h1 => exact Nat.le_of_ble_eq_true rfl); (case' h2 => exact Nat.le_of_ble_eq_true rfl); (case' hK => exact KeysAt.mono (DueG.keys ‹_›) (by lcg_sub)); (case' hi => assumption); (case' hj => assumption); (case' ret => (k_whole; intro t' h' tk' F' N'; (try k_sweep)))))
  k_with "my CompEnd" => k_extra "P ends"
  k_with "my name" => first | k_extra "cell name" | k_extra "cell here"
  k_with "my gt" => k_extra "key gt"
  k_with "my CompSrcT" => k_dflt (refine LCt.CompSrcT.range (n := (pairsH kA kB hm (hm i')).length) (by rfl) (by k_asm) (by k_asm) ‹_› (small10 hlL') size_nat (by rw [PySem.sizeLine_eq]; omega) ?_; intro g'; refine' pick_each (fun k => decide (hm ((pairsH kA kB hm (hm i')).getD k (0, 0)).1 = hm u')) (fun k y => ∃ t, y = Value.int (turnF kA kB ((pairsH kA kB hm (hm i')).getD k (0, 0)).1 ((pairsH kA kB hm (hm i')).getD k (0, 0)).2) t) ?tturn ?tfin; (case' tturn => (intro z' v' I' oI' C' oC' D' m' ys4' h' tk' E' hz' hv' hC' hx' F' N' off' ne'; (obtain ⟨t9', hv9'⟩ := hv'; subst hv9'); (try simp only [Int.zero_add] at hx'); (have hq4' := pairs_getD hz'); (try simp only [LCg.Off3, and_true] at off'); (try k_fold))); (case' tfin => (intro zs6' hzp6'; (have hM6' := mine_ints hzp6'); (try k_fold))))
  k_with "my len" => first | k_extra "set len" | k_extra "due len"
  k_with "my sum" => k_extra "due sum"
  k_with "my set" => k_extra "dict set"
  k_with "my newTuple" => k_extra "new tuple"
  k_with "my item" => k_extra "due item"
  k_with "my strs" => k_extra "due item"
  k_with "my row part" => k_extra "due item"
  k_with "my set call" => k_dflt (refine' set_made (ns := jsOf (pairsH kA kB hm (hm i'))) ?qF ?qN ?qh ?ql ?qi ?qb ?_; (case' qF => k_asm); (case' qN => k_asm); (case' qh => exact rfl); (case' ql => exact News.isList (by k_asm) (.head _)); (case' qi => exact hT5'); (case' qb => (unfold jsOf; rw [List.length_map]; omega)); intro D9' h' tk' o9' F' N' hso' l1; (have hm9' := met_len hlL'); (try k_lt l1))
  k_extra "my_enter"
  rename News _ _ _ _ => NN
  rename_i oU0 oT0 oP0 oH0 oHs oW0 oKy dU0 dT0 dP0 dH0 dHs dW0 dKy
  replace dU0 : oU0.data = .cell none := dU0
  replace dT0 : oT0.data = .cell none := dT0
  replace dP0 : oP0.data = .cell none := dP0
  replace dH0 : oH0.data = .cell none := dH0
  replace dHs : oHs.data = .cell (some (.ref Lh)) := dHs
  replace dW0 : oW0.data = .cell (some (.ref Lv)) := dW0
  replace dKy : oKy.data = .cell (some (.ref K)) := dKy
  k_steps
  all_goals first
    | exact ret _ _ _ _ _ _ (fun p hp => sub' p (.tail _ (.tail _ (.tail _ hp)))) ‹_› ‹_› ‹_› ‹_› ‹_› ‹_›
    | exact ⟨rfl, _, rfl⟩
    | exact ⟨_, _, _, _, _, _, rfl, rfl, by assumption, by assumption, by assumption⟩
    | exact due_next (by k_asm) (by k_asm) sub_due (fun y h1 h2 h3 => by simp only [if_neg h1, if_neg h2, if_neg h3]) (fun p hp => .tail _ (.tail _ (sub7' _ (.tail _ (.tail _ (.tail _ (sub2' _ (sub' p hp)))))))) ‹_› ‹_› ‹_› ‹_›
        (due_setB hB' (fun p hp => sub7' _ (.tail _ (.tail _ (.tail _ (sub2' p hp))))) hC7' ho7' hz7' ‹_› (paired_empty hP2' ‹_›)) (Nat.le_trans stored_length (Nat.succ_le_succ hz1')) (by k_all) (by k_all) (by k_all) (by k_all) (by k_all) (by k_all) i2' i3' i4' i5' (by show @Ne Nat _ _; omega) (by show @Ne Nat _ _; omega) (by show @Ne Nat _ _; omega) (by show @Ne Nat _ _; omega)
    | exact due_next (by k_asm) (by k_asm) sub_due0 (fun y h1 h2 h3 => by simp only [if_neg h1, if_neg h2, if_neg h3]) (fun p hp => sub2' _ (sub' p hp)) ‹_› ‹_› ‹_› ho'
        (due_skipB hB' sub2' (paired_empty hP2' ‹_›)) (Nat.le_succ_of_le hz1') s3' s4' s5' s6' s1' s2' i2' i3' i4' i5' (by show @Ne Nat _ _; omega) (by show @Ne Nat _ _; omega) (by show @Ne Nat _ _; omega) (by show @Ne Nat _ _; omega)
    | exact cal_set (by k_asm) (by k_asm) sub_cal (fun y h1 => by simp only [if_neg h1]) hR6' ‹_› hC6' hz6' hx6' a2' a3' a5' (by show @Ne Nat _ _; omega) (ints_empty hM6' ‹_›) rfl rfl (by show @Ne Nat _ _; omega) (by show @Ne Nat _ _; omega) (by show @Ne Nat _ _; omega) (ne_all (lt_last5 (by with_reducible assumption)) (Nat.le_refl _))
    | exact cal_next (by k_asm) (by k_asm) (by lcg_sub) (fun y h1 => by simp only [if_neg h1]) hR6' ho6' hC6' hz6' hx6' a2' a3' a5' (by show @Ne Nat _ _; omega) (ints_empty hM6' ‹_›)
    | exact pick_yes (by k_asm) (by k_asm) (by lcg_sub) (by first | assumption | (simp only [LCg.Off3, and_true]; assumption)) trivial (beq_yes ‹_›) ⟨_, rfl⟩
    | exact pick_no (by k_asm) (by k_asm) (by lcg_sub) (by first | assumption | (simp only [LCg.Off3, and_true]; assumption)) trivial (beq_no ‹_›)
    | exact pair_yes (by k_asm) (by k_asm) (by lcg_sub) (by show @Ne Nat _ _; omega) (by show @Ne Nat _ _; omega) (by show @Ne Nat _ _; omega) (by show @Ne Nat _ _; omega) (ne_all (lt_last4' (by with_reducible assumption)) (Nat.le_refl _)) off' (both_yes ‹_› ‹_›) hJ'
    | exact pair_no (by k_asm) (by k_asm) (by lcg_sub) off' (by first | exact both_no1 ‹_› | exact both_no2 ‹_›) hJ'
end
theorem off_facts0_0 : True := by
  w_top off
  k_with "om" => (first | (with_reducible first | ((show @Ne Nat _ _); (try dsimp only); first | exact ‹_› | exact Ne.symm ‹_› | exact Nat.ne_of_lt (by k_extra "suc") | exact Nat.ne_of_gt (by k_extra "suc") | ((fail_if_success (fail_if_success refine cj2 ‹_› ?_)); exact Nat.ne_of_gt (by k_extra "pk")) | ((fail_if_success (fail_if_success refine cj1 ‹_› ?_)); exact Nat.ne_of_lt (by k_extra "pk")) | ((fail_if_success (fail_if_success refine cj3 ‹_› ?_)); k_extra "pk") | ((fail_if_success (fail_if_success refine cj4 ‹_› ?_)); k_extra "pk") | ((fail_if_success (fail_if_success refine cj5 ‹_› ?_)); exact Ne.symm (by k_extra "pk")) | ((fail_if_success (fail_if_success refine cj6 ‹_› ?_)); exact Ne.symm (by k_extra "pk")) | exact Nat.ne_of_gt ‹_› | exact Nat.ne_of_lt ‹_›) | ((show _ ∨ _); first | exact lt5_cases ‹_› | exact i5_cases ‹_› ‹_› | exact i3_cases ‹_› ‹_›) | ((show @LT.lt Nat _ _ _); first | exact ‹_› | exact sub_step ‹_› | exact sub_step1 ‹_› | k_extra "suc" | ((fail_if_success (fail_if_success refine cj7 ‹_› ?_)); k_extra "pk")) | ((show @LE.le Nat _ _ _); (try dsimp only); first | exact (by decide) | exact Nat.le_of_lt ‹_› | exact Nat.le_of_lt (by k_extra "suc") | (refine Nat.le_trans ‹_› ?_; decide) | (refine Nat.le_trans (Nat.le_of_eq (Eq.symm ‹_›)) (Nat.le_trans ‹_› ?_); decide) | exact le_s1 (by k_extra "pk") | exact len2a ‹_› ‹_› | exact len2b ‹_› ‹_›) | ((show @LE.le Int _ _ _); exact neg5) | ((show @LT.lt Int _ _ _); exact Int.ofNat_lt.mpr ‹_›)) | lia)
  trivial
noncomputable def wordI (dress : Int) (k a b : Nat) : Str := (tab dress).getD a Str.empty ++ Str.ofString (toString (k : Int)) ++ ends.getD b Str.empty
noncomputable def homeI (k a b : Nat) : Str := [Str.ofString ".x.y", Str.ofString ".local", wordI 0 k a b, wordI 0 k a b, wordI 0 k a b].getD b Str.empty
theorem word_I {dress d : Int} {k : Nat} : word dress (k : Int) d = wordI dress k ((d.fdiv 5).fmod 5).toNat (d.fmod 5).toNat := rfl
theorem lt5 {d : Int} : (d.fmod 5).toNat < 5 := by
  have h0 := Int.fmod_nonneg_of_pos d (show (0 : Int) < 5 by decide)
  have h1 := Int.fmod_lt_of_pos d (show (0 : Int) < 5 by decide)
  omega
theorem all125 {p : Nat → Nat → Nat → Bool} (h : ((List.range 5).all fun k => (List.range 5).all fun a => (List.range 5).all fun b => p k a b) = true) {k a b : Nat} (hk : k < 5) (ha : a < 5) (hb : b < 5) : p k a b = true :=
  List.all_eq_true.mp (List.all_eq_true.mp (List.all_eq_true.mp h k (List.mem_range.mpr hk)) a (List.mem_range.mpr ha)) b (List.mem_range.mpr hb)
noncomputable def white1 (k : Nat) : Str := white (k : Int)
noncomputable def tokB (l : List Str) (x : Str) (r : List Str) : Bool := decide (tok l = some (x, r))
set_option maxRecDepth 100000 in
theorem bare_all : ((List.range 5).all fun k => (List.range 5).all fun a => (List.range 5).all fun b => tokB (signs (wordI 1 k a b) ++ [white1 k]) (wordI 0 k a b) [] && (nl (signs (wordI 1 k a b)) == 0)) = true := all5 (by decide +kernel) (by decide +kernel) (by decide +kernel) (by decide +kernel) (by decide +kernel)
set_option maxRecDepth 100000 in
theorem quoted_all : ((List.range 5).all fun k => (List.range 5).all fun a => (List.range 5).all fun b => tokB (signs (Str.ofString "\"" ++ wordI 2 k a b ++ Str.ofString "\"")) (wordI 0 k a b) [] && (nl (signs (Str.ofString "\"" ++ wordI 2 k a b ++ Str.ofString "\"")) == 0)) = true := all5 (by decide +kernel) (by decide +kernel) (by decide +kernel) (by decide +kernel) (by decide +kernel)
noncomputable def digitOf (x : Str) : Nat := match x.cps.toList.find? (fun c => Nat.ble 48 c && Nat.ble c 57) with
  | some c => c - 48
  | none => 9
set_option maxRecDepth 100000 in
theorem word_all : ((List.range 5).all fun k => (List.range 5).all fun a => (List.range 5).all fun b => Nat.beq (digitOf (wordI 0 k a b)) k && (Nat.ble (wordI 0 k a b).length 30 && (Nat.ble (homeI k a b).length 30 && decide (wordI 0 k a b ≠ Str.ofString "")))) = true := all5 (by decide +kernel) (by decide +kernel) (by decide +kernel) (by decide +kernel) (by decide +kernel)
set_option maxRecDepth 100000 in
theorem hit_all : ((List.range 5).all fun k => (List.range 5).all fun a => (List.range 5).all fun b => Nat.ble (reHit (wordI 0 k a b)) 1 && (hdn (wordI 0 k a b) == !(b == 2 || b == 4))) = true := all5 (by decide +kernel) (by decide +kernel) (by decide +kernel) (by decide +kernel) (by decide +kernel)
set_option maxRecDepth 100000 in
theorem reach_all : ((List.range 5).all fun k => (List.range 5).all fun a => (List.range 5).all fun b => decide (reachF (wordI 0 k a b) = homeI k a b)) = true := all5 (by decide +kernel) (by decide +kernel) (by decide +kernel) (by decide +kernel) (by decide +kernel)
theorem inB_ext {R : List Str} : ∀ {l : List Str} {acc x : Str} {r : List Str}, inB l acc = some (x, r) → inB (l ++ R) acc = some (x, r ++ R)
  | [], _, _, _, h => by unfold inB at h; cases h
  | [c], acc, x, r, h => by
    rw [List.cons_append, inB_cons]
    rw [inB_cons] at h
    by_cases hw : isW c = true
    · rw [if_pos hw] at h ⊢; cases h; rfl
    · rw [if_neg hw] at h ⊢
      by_cases hb : (c == Str.ofString "\\") = true
      · rw [if_pos hb] at h; cases h
      · rw [if_neg hb] at h; unfold inB at h; cases h
  | c :: c' :: l, acc, x, r, h => by
    rw [List.cons_append, inB_cons]
    rw [inB_cons] at h
    by_cases hw : isW c = true
    · rw [if_pos hw] at h ⊢; cases h; rfl
    · rw [if_neg hw] at h ⊢
      by_cases hb : (c == Str.ofString "\\") = true
      · rw [if_pos hb] at h ⊢; exact inB_ext h
      · rw [if_neg hb] at h ⊢; exact inB_ext h
theorem inQ_ext {R : List Str} : ∀ {l : List Str} {acc x : Str} {r : List Str}, inQ l acc = some (x, r) → inQ (l ++ R) acc = some (x, r ++ R)
  | [], _, _, _, h => by unfold inQ at h; cases h
  | [c], acc, x, r, h => by
    rw [List.cons_append, inQ_cons]
    rw [inQ_cons] at h
    by_cases hw : (c == Str.ofString "\"") = true
    · rw [if_pos hw] at h ⊢; cases h; rfl
    · rw [if_neg hw] at h ⊢
      by_cases hb : (c == Str.ofString "\\") = true
      · rw [if_pos hb] at h; cases h
      · rw [if_neg hb] at h; unfold inQ at h; cases h
  | c :: c' :: l, acc, x, r, h => by
    rw [List.cons_append, inQ_cons]
    rw [inQ_cons] at h
    by_cases hw : (c == Str.ofString "\"") = true
    · rw [if_pos hw] at h ⊢; cases h; rfl
    · rw [if_neg hw] at h ⊢
      by_cases hb : (c == Str.ofString "\\") = true
      · rw [if_pos hb] at h ⊢; exact inQ_ext h
      · rw [if_neg hb] at h ⊢; exact inQ_ext h
theorem tok_ext {R : List Str} {x : Str} (hx : x ≠ Str.ofString "") : ∀ {l : List Str} {r : List Str}, tok l = some (x, r) → tok (l ++ R) = some (x, r ++ R)
  | [], _, h => by unfold tok at h; cases h; exact absurd rfl hx
  | [c], r, h => by
    rw [List.cons_append, tok_cons]
    rw [tok_cons] at h
    by_cases hw : isW c = true
    · rw [if_pos hw] at h; unfold tok at h; cases h; exact absurd rfl hx
    · rw [if_neg hw] at h ⊢
      by_cases hq : (c == Str.ofString "\"") = true
      · rw [if_pos hq] at h; unfold inQ at h; cases h
      · rw [if_neg hq] at h ⊢
        by_cases hb : (c == Str.ofString "\\") = true
        · rw [if_pos hb] at h; cases h
        · rw [if_neg hb] at h; unfold inB at h; cases h
  | c :: c' :: l, r, h => by
    rw [List.cons_append, tok_cons]
    rw [tok_cons] at h
    by_cases hw : isW c = true
    · rw [if_pos hw] at h ⊢; exact tok_ext hx h
    · rw [if_neg hw] at h ⊢
      by_cases hq : (c == Str.ofString "\"") = true
      · rw [if_pos hq] at h ⊢; exact inQ_ext h
      · rw [if_neg hq] at h ⊢
        by_cases hb : (c == Str.ofString "\\") = true
        · rw [if_pos hb] at h ⊢; exact inB_ext h
        · rw [if_neg hb] at h ⊢; exact inB_ext h
theorem signs_app {x y : Str} : signs (x ++ y) = signs x ++ signs y := by
  show (x.cps ++ y.cps).toList.map _ = _
  rw [Array.toList_append, List.map_append]; rfl
theorem signs_join : ∀ l : List Str, signs (Str.join (Str.ofString "") l) = l.flatMap signs
  | [] => rfl
  | [x] => by rw [List.flatMap_cons, List.flatMap_nil, List.append_nil]; rfl
  | x :: y :: r => by
    show signs (x ++ Str.ofString "" ++ Str.join (Str.ofString "") (y :: r)) = _
    rw [signs_app, signs_app, signs_join (y :: r), show signs (Str.ofString "") = [] from rfl, List.append_nil]; rfl
theorem signs_len {x : Str} : (signs x).length = x.length := by
  unfold signs
  rw [List.length_map, Array.length_toList]; rfl
theorem signs_one {x c : Str} (h : c ∈ signs x) : c.length = 1 := by
  obtain ⟨n, _, rfl⟩ := List.mem_map.mp h
  rfl
theorem nl_app {a b : List Str} : nl (a ++ b) = nl a + nl b := by
  induction a with
  | nil => rw [List.nil_append]; show nl b = 0 + nl b; omega
  | cons c r ih => rw [List.cons_append, nl_cons, nl_cons, ih]; omega
noncomputable def restW (ds : List Int) : Nat → List Str
  | 0 => signs (piece ds 4) ++ [white1 4]
  | n + 1 => signs (piece ds (3 - n)) ++ [white1 (3 - n)] ++ restW ds n
noncomputable def quotedAt (ds : List Int) (i : Nat) : Bool := decide (((ds.getD i 0).fdiv 75).fmod 2 = 1)
noncomputable def tailW (ds : List Int) (i : Nat) : List Str := if quotedAt ds i then [white1 i] else []
noncomputable def rOf (ds : List Int) : Nat → List Str
  | 0 => restW ds 4
  | 1 => tailW ds 0 ++ restW ds 3
  | 2 => tailW ds 1 ++ restW ds 2
  | 3 => tailW ds 2 ++ restW ds 1
  | 4 => tailW ds 3 ++ restW ds 0
  | 5 => tailW ds 4
  | _ => []
theorem white_is (k : Nat) (hk : k < 5) : signs (white (k : Int)) = [white1 k] := by
  have : k = 0 ∨ k = 1 ∨ k = 2 ∨ k = 3 ∨ k = 4 := by omega
  rcases this with rfl | rfl | rfl | rfl | rfl <;> decide +kernel
theorem white_w (k : Nat) (hk : k < 5) : isW (white1 k) = true := by
  have : k = 0 ∨ k = 1 ∨ k = 2 ∨ k = 3 ∨ k = 4 := by omega
  rcases this with rfl | rfl | rfl | rfl | rfl <;> decide +kernel
theorem r0_ok (ds : List Int) : rOf ds 0 = signs (text ds) := by
  rw [text_join, signs_join]
  show restW ds 4 = ([] ++ [piece ds 0, white ((0 : Nat) : Int)] ++ [piece ds 1, white ((1 : Nat) : Int)] ++ [piece ds 2, white ((2 : Nat) : Int)] ++ [piece ds 3, white ((3 : Nat) : Int)] ++ [piece ds 4, white ((4 : Nat) : Int)]).flatMap signs
  simp only [List.nil_append, List.cons_append, List.flatMap_cons, List.flatMap_nil, List.append_nil, white_is _ (show 0 < 5 by decide), white_is _ (show 1 < 5 by decide), white_is _ (show 2 < 5 by decide), white_is _ (show 3 < 5 by decide), white_is _ (show 4 < 5 by decide)]
  simp only [restW, List.append_assoc, List.cons_append, List.nil_append, Nat.sub_self, Nat.sub_zero, Nat.reduceSub]
theorem piece_tok {ds : List Int} {i : Nat} (hi : i < 5) (R : List Str) : tok (signs (piece ds i) ++ [white1 i] ++ R) = some (word 0 (i : Int) (ds.getD i 0), tailW ds i ++ R) := by
  have ne := (all125 word_all hi (lt5 (d := (ds.getD i 0).fdiv 5)) (lt5 (d := ds.getD i 0)))
  simp only [Bool.and_eq_true, decide_eq_true_eq] at ne
  unfold tailW quotedAt
  by_cases hq : ((ds.getD i 0).fdiv 75).fmod 2 = 1
  · rw [if_pos (decide_eq_true hq), ← piece_quoted hq, word_I, word_I, List.append_assoc]
    have h := all125 quoted_all hi (lt5 (d := (ds.getD i 0).fdiv 5)) (lt5 (d := ds.getD i 0))
    simp only [Bool.and_eq_true] at h
    exact tok_ext ne.2.2.2 (of_decide_eq_true h.1)
  · rw [if_neg (by rw [decide_eq_true_eq]; exact hq), ← piece_bare hq, word_I, word_I]
    have h := all125 bare_all hi (lt5 (d := (ds.getD i 0).fdiv 5)) (lt5 (d := ds.getD i 0))
    simp only [Bool.and_eq_true] at h
    exact tok_ext ne.2.2.2 (of_decide_eq_true h.1)
theorem piece_nl {ds : List Int} {i : Nat} (hi : i < 5) : nl (signs (piece ds i)) = 0 := by
  by_cases hq : ((ds.getD i 0).fdiv 75).fmod 2 = 1
  · rw [← piece_quoted hq, word_I]
    have h := all125 quoted_all hi (lt5 (d := (ds.getD i 0).fdiv 5)) (lt5 (d := ds.getD i 0))
    simp only [Bool.and_eq_true] at h
    exact eq_of_beq h.2
  · rw [← piece_bare hq, word_I]
    have h := all125 bare_all hi (lt5 (d := (ds.getD i 0).fdiv 5)) (lt5 (d := ds.getD i 0))
    simp only [Bool.and_eq_true] at h
    exact eq_of_beq h.2
theorem tok_tail {ds : List Int} {i : Nat} (hi : i < 5) (R : List Str) : tok (tailW ds i ++ R) = tok R := by
  unfold tailW
  split
  · rw [List.cons_append, List.nil_append, tok_cons, if_pos (white_w i hi)]
  · rfl
theorem r_tok {ds : List Int} : ∀ i, i < 6 → tok (rOf ds i) = some (if i < 5 then word 0 (i : Int) (ds.getD i 0) else Str.ofString "", rOf ds (i + 1))
  | 0, _ => by rw [if_pos (by decide)]; exact piece_tok (by decide) _
  | 1, _ => by rw [if_pos (by decide)]; exact (tok_tail (by decide) _).trans (piece_tok (by decide) _)
  | 2, _ => by rw [if_pos (by decide)]; exact (tok_tail (by decide) _).trans (piece_tok (by decide) _)
  | 3, _ => by rw [if_pos (by decide)]; exact (tok_tail (by decide) _).trans (piece_tok (by decide) _)
  | 4, _ => by
    rw [if_pos (by decide)]
    have h := (tok_tail (ds := ds) (i := 3) (by decide) _).trans (piece_tok (ds := ds) (i := 4) (by decide) [])
    rw [List.append_nil, List.append_nil] at h
    exact h
  | 5, _ => by
    rw [if_neg (by decide)]
    have h := tok_tail (ds := ds) (i := 4) (by decide) []
    rw [List.append_nil] at h
    show tok (tailW ds 4) = _
    rw [h]; rfl
  | n + 6, h => absurd h (by omega)
theorem restW_len {ds : List Int} : ∀ n, n < 5 → (restW ds n).length ≤ 33 * (n + 1) ∧ ∀ c ∈ restW ds n, c.length = 1
  | 0, _ => by
    have h1 : (piece ds 4).length ≤ 32 := piece_short (by decide)
    refine ⟨?_, fun c hc => ?_⟩
    · show (signs (piece ds 4) ++ [white1 4]).length ≤ _
      rw [List.length_append, signs_len]; simp; omega
    · rcases List.mem_append.mp hc with h | h
      · exact signs_one h
      · rw [List.mem_singleton.mp h]; rfl
  | n + 1, hn => by
    have h1 : (piece ds (3 - n)).length ≤ 32 := piece_short (by omega)
    obtain ⟨h2, h3⟩ := restW_len (ds := ds) n (by omega)
    refine ⟨?_, fun c hc => ?_⟩
    · show (signs (piece ds (3 - n)) ++ [white1 (3 - n)] ++ restW ds n).length ≤ _
      rw [List.length_append, List.length_append, signs_len]; simp; omega
    · rcases List.mem_append.mp hc with h | h
      · rcases List.mem_append.mp h with h | h
        · exact signs_one h
        · rw [List.mem_singleton.mp h]; rfl
      · exact h3 c h
theorem tailW_len {ds : List Int} {i : Nat} : (tailW ds i).length ≤ 1 ∧ ∀ c ∈ tailW ds i, c.length = 1 := by
  unfold tailW
  split
  · exact ⟨Nat.le_refl _, fun c hc => by rw [List.mem_singleton.mp hc]; rfl⟩
  · exact ⟨Nat.zero_le _, fun c hc => nomatch hc⟩
theorem two_len {a b : List Str} {x y : Nat} (ha : a.length ≤ x ∧ ∀ c ∈ a, c.length = 1) (hb : b.length ≤ y ∧ ∀ c ∈ b, c.length = 1) (h : x + y ≤ 300) : (a ++ b).length ≤ 300 ∧ ∀ c ∈ a ++ b, c.length = 1 := by
  refine ⟨?_, fun c hc => ?_⟩
  · rw [List.length_append]; omega
  · rcases List.mem_append.mp hc with h | h
    · exact ha.2 c h
    · exact hb.2 c h
theorem r_len {ds : List Int} : ∀ i, (rOf ds i).length ≤ 300 ∧ ∀ c ∈ rOf ds i, c.length = 1
  | 0 => two_len (x := 0) (a := []) ⟨Nat.le_refl _, fun c hc => nomatch hc⟩ (restW_len 4 (by decide)) (by decide)
  | 1 => two_len tailW_len (restW_len 3 (by decide)) (by decide)
  | 2 => two_len tailW_len (restW_len 2 (by decide)) (by decide)
  | 3 => two_len tailW_len (restW_len 1 (by decide)) (by decide)
  | 4 => two_len tailW_len (restW_len 0 (by decide)) (by decide)
  | 5 => ⟨Nat.le_trans tailW_len.1 (by decide), tailW_len.2⟩
  | _ + 6 => ⟨Nat.zero_le _, fun c hc => nomatch hc⟩
theorem r_nl {ds : List Int} : nl (rOf ds 0) = 2 := by
  show nl (restW ds 4) = 2
  simp only [restW, nl_app, piece_nl (show 0 < 5 by decide), piece_nl (show 1 < 5 by decide), piece_nl (show 2 < 5 by decide), piece_nl (show 3 < 5 by decide), piece_nl (show 4 < 5 by decide), Nat.sub_self, Nat.sub_zero, Nat.reduceSub]
  decide +kernel
noncomputable def evsH (hm : Nat → Str) (evs : List Ev) (h : Str) : List Ev := evs.filter fun e => decide (hm e.2.1 = h)
noncomputable def evsU (hm : Nat → Str) (evs : List Ev) (u : Str) : List Ev := evs.filter fun e => decide (hm e.1 = u)
noncomputable def oneI (e : Ev) : Int := if (e.2.2 : Int) = 1 then 1 else 0
noncomputable def turnI (e : Ev) : Int := (e.2.2 : Int)
noncomputable def gapI (vs : Nat → Int) (e : Ev) : Int := vs e.1 - vs e.2.1
noncomputable def calE (hm : Nat → Str) (l : List Ev) : List (Str × Int × Int) := l.foldl (fun c e => addC c (hm e.1) 1 (e.2.2 : Int)) []
noncomputable def entE (hm : Nat → Str) (vs : Nat → Int) (l : List Ev) : Entry := ((l.map oneI).sum, (l.length : Int), (l.map turnI).sum, (l.map (gapI vs)).sum, calE hm l)
structure BT (hm : Nat → Str) (vs : Nat → Int) (evs : List Ev) (bs : List (Str × Entry)) : Prop where
  vals : ∀ x ∈ bs, x.2 = entE hm vs (evsH hm evs x.1)
  keys : ∀ h, bs.any (fun x => x.1 = h) = evs.any (fun e => hm e.2.1 = h)
structure CT (hm : Nat → Str) (l : List Ev) (cal : List (Str × Int × Int)) : Prop where
  vals : ∀ x ∈ cal, x.2 = (((evsU hm l x.1).length : Int), ((evsU hm l x.1).map turnI).sum)
  keys : ∀ u, cal.any (fun x => x.1 = u) = l.any (fun e => hm e.1 = u)
theorem filter_none {α : Type} {p : α → Bool} {l : List α} (h : l.any p = false) : l.filter p = [] := by
  rw [List.filter_eq_nil_iff]
  intro a ha e
  rw [List.any_eq_false] at h
  exact h a ha e
theorem map_any_key {α : Type} {l : List (Str × α)} {k u : Str} {f : Str × α → α} : (l.map fun e => if e.1 = k then (e.1, f e) else e).any (fun e => e.1 = u) = l.any fun e => e.1 = u := by
  rw [List.any_map]
  congr 1
  funext e
  simp only [Function.comp]
  split <;> rfl
theorem entE_snoc {hm : Nat → Str} {vs : Nat → Int} {l : List Ev} {e : Ev} : entE hm vs (l ++ [e]) = (oneI e + (entE hm vs l).1, 1 + (entE hm vs l).2.1, turnI e + (entE hm vs l).2.2.1, gapI vs e + (entE hm vs l).2.2.2.1, addC (entE hm vs l).2.2.2.2 (hm e.1) 1 (e.2.2 : Int)) := by
  unfold entE calE
  simp only [List.map_append, List.map_cons, List.map_nil, List.sum_append, List.sum_cons, List.sum_nil, List.length_append, List.length_cons, List.length_nil, List.foldl_append, List.foldl_cons, List.foldl_nil]
  refine Prod.ext (by dsimp only; omega) (Prod.ext (by dsimp only; omega) (Prod.ext (by dsimp only; omega) (Prod.ext (by dsimp only; omega) rfl)))
theorem BT.next {hm : Nat → Str} {vs : Nat → Int} {evs : List Ev} {bs : List (Str × Entry)} (h : BT hm vs evs bs) (e : Ev) : BT hm vs (evs ++ [e]) (tell hm vs bs e) := by
  have same : ∀ k, k ≠ hm e.2.1 → evsH hm (evs ++ [e]) k = evsH hm evs k := fun k hk => by
    unfold evsH
    rw [List.filter_append, List.filter_cons, if_neg (by rw [decide_eq_true_eq]; exact fun x => hk x.symm), List.filter_nil, List.append_nil]
  have more : evsH hm (evs ++ [e]) (hm e.2.1) = evsH hm evs (hm e.2.1) ++ [e] := by
    unfold evsH
    rw [List.filter_append, List.filter_cons, if_pos (by rw [decide_eq_true_eq]), List.filter_nil]
  unfold tell bump
  by_cases hb : bs.any (fun x => x.1 = hm e.2.1) = true
  · rw [if_pos hb]
    refine ⟨fun x hx => ?_, fun k => ?_⟩
    · obtain ⟨y, hy, rfl⟩ := List.mem_map.mp hx
      by_cases hk : y.1 = hm e.2.1
      · rw [if_pos hk]
        dsimp only
        rw [hk, more, entE_snoc, ← hk, ← h.vals y hy]
        rfl
      · rw [if_neg hk, same _ hk]; exact h.vals y hy
    · rw [map_any_key, h.keys k, List.any_append]
      by_cases hk : hm e.2.1 = k
      · have : evs.any (fun e => hm e.2.1 = k) = true := by rw [← h.keys k, ← hk]; exact hb
        rw [this]; rfl
      · simp [hk]
  · rw [if_neg hb]
    have hb' : bs.any (fun x => x.1 = hm e.2.1) = false := Bool.eq_false_iff.mpr hb
    have hn : evsH hm evs (hm e.2.1) = [] := filter_none (by rw [← h.keys]; exact hb')
    refine ⟨fun x hx => ?_, fun k => ?_⟩
    · rcases List.mem_append.mp hx with hx | hx
      · have hk : x.1 ≠ hm e.2.1 := fun e1 => hb (List.any_eq_true.mpr ⟨x, hx, by rw [decide_eq_true_eq]; exact e1⟩)
        rw [same _ hk]; exact h.vals x hx
      · rw [List.mem_singleton.mp hx]
        dsimp only
        rw [more, entE_snoc, hn]; rfl
    · rw [List.any_append, List.any_append, h.keys k]; simp
theorem BT.all {hm : Nat → Str} {vs : Nat → Int} : ∀ (rest done : List Ev) (bs : List (Str × Entry)), BT hm vs done bs → BT hm vs (done ++ rest) (rest.foldl (tell hm vs) bs)
  | [], done, bs, h => by rw [List.append_nil]; exact h
  | e :: r, done, bs, h => by
    rw [List.foldl_cons, show done ++ e :: r = (done ++ [e]) ++ r by rw [List.append_assoc]; rfl]
    exact BT.all r _ _ (h.next e)
theorem BT.told {hm : Nat → Str} {vs : Nat → Int} (evs : List Ev) : BT hm vs evs (evs.foldl (tell hm vs) []) :=
  BT.all evs [] [] ⟨fun x hx => (nomatch hx), fun _ => rfl⟩
theorem CT.next {hm : Nat → Str} {l : List Ev} {cal : List (Str × Int × Int)} (h : CT hm l cal) (e : Ev) : CT hm (l ++ [e]) (addC cal (hm e.1) 1 (e.2.2 : Int)) := by
  have same : ∀ k, k ≠ hm e.1 → evsU hm (l ++ [e]) k = evsU hm l k := fun k hk => by
    unfold evsU
    rw [List.filter_append, List.filter_cons, if_neg (by rw [decide_eq_true_eq]; exact fun x => hk x.symm), List.filter_nil, List.append_nil]
  have more : evsU hm (l ++ [e]) (hm e.1) = evsU hm l (hm e.1) ++ [e] := by
    unfold evsU
    rw [List.filter_append, List.filter_cons, if_pos (by rw [decide_eq_true_eq]), List.filter_nil]
  have val : ∀ m : List Ev, (((m ++ [e]).length : Int), ((m ++ [e]).map turnI).sum) = (1 + (m.length : Int), (e.2.2 : Int) + (m.map turnI).sum) := fun m => by
    simp only [List.map_append, List.map_cons, List.map_nil, List.sum_append, List.sum_cons, List.sum_nil, List.length_append, List.length_cons, List.length_nil, turnI]
    refine Prod.ext (by dsimp only; omega) (by dsimp only; omega)
  unfold addC
  by_cases hb : cal.any (fun x => x.1 = hm e.1) = true
  · rw [if_pos hb]
    refine ⟨fun x hx => ?_, fun k => ?_⟩
    · obtain ⟨y, hy, rfl⟩ := List.mem_map.mp hx
      by_cases hk : y.1 = hm e.1
      · rw [if_pos hk]
        dsimp only
        rw [hk, more, val, ← hk]
        have := h.vals y hy
        rw [this]
      · rw [if_neg hk, same _ hk]; exact h.vals y hy
    · rw [map_any_key, h.keys k, List.any_append]
      by_cases hk : hm e.1 = k
      · have : l.any (fun e => hm e.1 = k) = true := by rw [← h.keys k, ← hk]; exact hb
        rw [this]; rfl
      · simp [hk]
  · rw [if_neg hb]
    have hb' : cal.any (fun x => x.1 = hm e.1) = false := Bool.eq_false_iff.mpr hb
    have hn : evsU hm l (hm e.1) = [] := filter_none (by rw [← h.keys]; exact hb')
    refine ⟨fun x hx => ?_, fun k => ?_⟩
    · rcases List.mem_append.mp hx with hx | hx
      · have hk : x.1 ≠ hm e.1 := fun e1 => hb (List.any_eq_true.mpr ⟨x, hx, by rw [decide_eq_true_eq]; exact e1⟩)
        rw [same _ hk]; exact h.vals x hx
      · rw [List.mem_singleton.mp hx]
        dsimp only
        rw [more, hn, val]; simp
    · rw [List.any_append, List.any_append, h.keys k]; simp
theorem CT.told {hm : Nat → Str} (l : List Ev) : CT hm l (calE hm l) := by
  have key : ∀ (rest done : List Ev) (c : List (Str × Int × Int)), CT hm done c → CT hm (done ++ rest) (rest.foldl (fun c e => addC c (hm e.1) 1 (e.2.2 : Int)) c) := by
    intro rest
    induction rest with
    | nil => intro done c h; rw [List.append_nil]; exact h
    | cons e r ih =>
      intro done c h
      rw [List.foldl_cons, show done ++ e :: r = (done ++ [e]) ++ r by rw [List.append_assoc]; rfl]
      exact ih _ _ (h.next e)
  exact key l [] [] ⟨fun x hx => (nomatch hx), fun _ => rfl⟩
theorem dueN_told {kA kB : Nat → Int} {hm : Nat → Str} {vs : Nat → Int} : ∀ n, Told hm (fun h => !(pairsH kA kB hm h).isEmpty) (entryD kA kB hm vs) n (dueN kA kB hm vs n)
  | 0 => Told.zero
  | n + 1 => by
    unfold dueN
    by_cases h : (pairsH kA kB hm (hm n)).isEmpty = true
    · rw [if_pos h]; exact (dueN_told n).skip (by rw [h]; rfl)
    · rw [if_neg h]; exact (dueN_told n).next (by simpa using h)
theorem calN_told {kA kB : Nat → Int} {hm : Nat → Str} {l : List (Nat × Nat)} : ∀ n, Told hm (fun u => !(mineOf kA kB hm l u).isEmpty) (fun u => (((mineOf kA kB hm l u).length : Int), (mineOf kA kB hm l u).sum)) n (calN kA kB hm l n)
  | 0 => Told.zero
  | n + 1 => by
    unfold calN
    by_cases h : (mineOf kA kB hm l (hm n)).isEmpty = true
    · rw [if_pos h]; exact (calN_told n).skip (by rw [h]; rfl)
    · rw [if_neg h]; exact (calN_told n).next (by simpa using h)
theorem Perm.sumI {a b : List Int} (h : a.Perm b) : a.sum = b.sum := by
  induction h with
  | nil => rfl
  | cons x _ ih => rw [List.sum_cons, List.sum_cons, ih]
  | swap x y l => simp only [List.sum_cons]; omega
  | trans _ _ h1 h2 => exact h1.trans h2
noncomputable def evOf (gt : Nat → Nat → Bool) (p : Nat × Nat) : Ev := (p.1, p.2, meet gt p.1 p.2)
theorem meet_turn {kA kB : Nat → Int} {i j : Nat} : turnF kA kB i j = (meet (gtK kA kB) i j : Int) := by
  unfold turnF meet
  rw [Int.natCast_add, Int.natCast_one]
  congr 3
  refine List.filter_congr fun z _ => ?_
  unfold selT
  congr 1
  have e : eqK kA kB z i = (!gtK kA kB z i && !gtK kA kB i z) := by
    unfold eqK gtK
    by_cases h1 : kA z = kA i
    · by_cases h2 : kB z = kB i
      · rw [h1, h2]; simp
      · rw [if_pos h1, if_neg h2, if_pos h1.symm, if_neg (fun x => h2 x.symm), decide_eq_false (by intro x; exact h2 (by injection x with _ x; injection x))]
        symm
        rw [Bool.and_eq_false_iff, Bool.not_eq_false', Bool.not_eq_false', decide_eq_true_eq, decide_eq_true_eq]
        omega
    · rw [if_neg h1, if_neg (fun x => h1 x.symm), decide_eq_false (by intro x; exact h1 (by injection x))]
      symm
      rw [Bool.and_eq_false_iff, Bool.not_eq_false', Bool.not_eq_false', decide_eq_true_eq, decide_eq_true_eq]
      omega
  rw [e]
  congr 1
  rw [decide_eq_decide]
  omega
theorem invs_pairs {gt : Nat → Nat → Bool} : invs gt = pairsOf gt 5 := by
  unfold invs pairsOf
  congr 1
  funext j
  rw [← List.filterMap_eq_map, List.filterMap_filter]
  rfl
theorem pairsH_filter {kA kB : Nat → Int} {hm : Nat → Str} {h : Str} : pairsH kA kB hm h = (invs (gtK kA kB)).filter fun p => decide (hm p.2 = h) := by
  rw [invs_pairs]
  unfold pairsH pairsOf
  rw [List.filter_flatMap]
  congr 1
  funext j
  rw [List.filter_map, List.filter_filter]
  congr 1
noncomputable def OkE (σ : Nat × List Nat × List Ev) : Prop := σ.1 < 5 ∧ (∀ j ∈ σ.2.1, j < 5) ∧ ∀ e ∈ σ.2.2, e.1 < 5 ∧ e.2.1 < 5
theorem stepE_okE {gt : Nat → Nat → Bool} {turn : Nat} {σ : Nat × List Nat × List Ev} (h : OkE σ) : OkE (stepE gt turn σ) := by
  obtain ⟨i, line, evs⟩ := σ
  obtain ⟨h1, h2, h3⟩ := h
  dsimp only at h1 h2 h3
  match line, h2 with
  | [], h2 => exact ⟨h1, h2, h3⟩
  | j :: r, h2 =>
    have hj := h2 j (.head _)
    have hr : ∀ k ∈ r, k < 5 := fun k hk => h2 k (.tail _ hk)
    have app : ∀ x, x < 5 → ∀ k ∈ r ++ [x], k < 5 := fun x hx k hk => by
      rcases List.mem_append.mp hk with hk | hk
      · exact hr k hk
      · rw [List.mem_singleton.mp hk]; exact hx
    unfold stepE
    dsimp only
    split
    · refine ⟨h1, app j hj, fun e he => ?_⟩
      rcases List.mem_append.mp he with he | he
      · exact h3 e he
      · rw [List.mem_singleton.mp he]; exact ⟨h1, hj⟩
    · exact ⟨hj, app i h1, h3⟩
theorem stepsE_okE {gt : Nat → Nat → Bool} {turn : Nat} {σ : Nat × List Nat × List Ev} (h : OkE σ) : ∀ k, OkE (stepsE gt turn σ k)
  | 0 => h
  | k + 1 => stepE_okE (stepsE_okE h k)
theorem runE_evs {gt : Nat → Nat → Bool} : ∀ k, (∀ j ∈ (runE gt k).1, j < 5) ∧ ∀ e ∈ (runE gt k).2, e.1 < 5 ∧ e.2.1 < 5
  | 0 => ⟨by intro j hj; simp only [runE, List.mem_cons, List.not_mem_nil, or_false] at hj; omega, fun e he => nomatch he⟩
  | k + 1 => by
    have b := runE_evs (gt := gt) k
    unfold runE turnE
    generalize runE gt k = τ at b
    obtain ⟨line, bs⟩ := τ
    obtain ⟨b1, b2⟩ := b
    match line, b1 with
    | [], b1 => exact ⟨b1, b2⟩
    | i :: r, b1 =>
      obtain ⟨c1, c2, c3⟩ := stepsE_okE (gt := gt) (turn := 1 + k) (σ := (i, r, bs)) ⟨b1 i (.head _), fun j hj => b1 j (.tail _ hj), b2⟩ 4
      refine ⟨fun j hj => ?_, c3⟩
      rcases List.mem_append.mp hj with hj | hj
      · exact c2 j hj
      · rw [List.mem_singleton.mp hj]; exact c1
theorem chk_of {f : Nat → Nat} (h : ∀ i, i < 5 → f i < 5) : chk (pick (f 0) (f 1) (f 2) (f 3) (f 4)) = true := by
  have h1 := List.all_eq_true.mp chk_all (f 0) (List.mem_range.mpr (h 0 (by decide)))
  have h2 := List.all_eq_true.mp h1 (f 1) (List.mem_range.mpr (h 1 (by decide)))
  have h3 := List.all_eq_true.mp h2 (f 2) (List.mem_range.mpr (h 2 (by decide)))
  have h4 := List.all_eq_true.mp h3 (f 3) (List.mem_range.mpr (h 3 (by decide)))
  unfold chk5 at h4
  simp only [Bool.and_eq_true] at h4
  have h5 := h 4 (by decide)
  have : f 4 = 0 ∨ f 4 = 1 ∨ f 4 = 2 ∨ f 4 = 3 ∨ f 4 = 4 := by omega
  rcases this with e | e | e | e | e <;> rw [e]
  · exact h4.1
  · exact h4.2.1
  · exact h4.2.2.1
  · exact h4.2.2.2.1
  · exact h4.2.2.2.2
noncomputable def unpackE (n : Nat) : Ev := (n % 8, n / 8 % 8, n / 64)
theorem unpack_pack {e : Ev} (h1 : e.1 < 5) (h2 : e.2.1 < 5) : unpackE (packE e) = e := by
  obtain ⟨i, j, t⟩ := e
  dsimp only at h1 h2
  unfold unpackE packE
  dsimp only
  refine Prod.ext (by dsimp only; omega) (Prod.ext (by dsimp only; omega) (by dsimp only; omega))
theorem invs_lt {gt : Nat → Nat → Bool} {p : Nat × Nat} (h : p ∈ invs gt) : p.1 < p.2 ∧ p.2 < 5 ∧ gt p.1 p.2 = true := by
  rw [invs_pairs] at h
  exact pairs_lt h
theorem meet_congr {g1 g2 : Nat → Nat → Bool} (h : ∀ i j, i < 5 → j < 5 → g1 i j = g2 i j) {i j : Nat} (hi : i < 5) (hj : j < 5) : meet g1 i j = meet g2 i j := by
  unfold meet
  congr 2
  refine List.filter_congr fun z hz => ?_
  have hz5 : z < 5 := by have := List.mem_range.mp hz; omega
  rw [h z i hz5 hi, h i z hi hz5]
theorem invs_congr {g1 g2 : Nat → Nat → Bool} (h : ∀ i j, i < 5 → j < 5 → g1 i j = g2 i j) : invs g1 = invs g2 := by
  have e : ∀ g : Nat → Nat → Bool, invs g = (List.range 5).flatMap fun j => (List.range j).filterMap fun i => if g i j then some (i, j) else none := fun _ => rfl
  rw [e, e, List.flatMap_def, List.flatMap_def]
  congr 1
  refine List.map_congr_left fun j hj => ?_
  have hj5 := List.mem_range.mp hj
  have key : ∀ l : List Nat, (∀ i ∈ l, i < 5) → (l.filterMap fun i => if g1 i j then some (i, j) else none) = l.filterMap fun i => if g2 i j then some (i, j) else none := by
    intro l
    induction l with
    | nil => intro _; rfl
    | cons i r ih => intro hl; rw [List.filterMap_cons, List.filterMap_cons, h i j (hl i (.head _)) hj5, ih fun k hk => hl k (.tail _ hk)]
  exact key _ fun i hi => by have := List.mem_range.mp hi; omega
noncomputable def firsts (gt : Nat → Nat → Bool) : List Nat := (List.range 5).filter fun j => (List.range j).any fun i => gt i j
theorem firsts_congr {g1 g2 : Nat → Nat → Bool} (h : ∀ i j, i < 5 → j < 5 → g1 i j = g2 i j) : firsts g1 = firsts g2 := by
  unfold firsts
  refine List.filter_congr fun j hj => ?_
  have hj5 := List.mem_range.mp hj
  rw [Bool.eq_iff_iff, List.any_eq_true, List.any_eq_true]
  constructor
  · rintro ⟨i, hi, e⟩
    have := List.mem_range.mp hi
    exact ⟨i, hi, by rw [← h i j (by omega) hj5]; exact e⟩
  · rintro ⟨i, hi, e⟩
    have := List.mem_range.mp hi
    exact ⟨i, hi, by rw [h i j (by omega) hj5]; exact e⟩
theorem run_factsG {g : Nat → Nat → Bool} (h1 : ((runE g 4).2.reverse.map packE).Perm ((invs g).map fun p => packE (p.1, p.2, meet g p.1 p.2))) : (runE g 4).2.Perm ((invs g).map (evOf g)) := by
  have hb := (runE_evs (gt := g) 4).2
  have h4 := h1.map unpackE
  rw [List.map_map, List.map_map] at h4
  have e1 : (runE g 4).2.reverse.map (unpackE ∘ packE) = (runE g 4).2.reverse := by
    conv => rhs; rw [← List.map_id (runE g 4).2.reverse]
    refine List.map_congr_left fun e he => ?_
    obtain ⟨x, y⟩ := hb e (List.mem_reverse.mp he)
    exact unpack_pack x y
  have e2 : (invs g).map (unpackE ∘ fun p => packE (p.1, p.2, meet g p.1 p.2)) = (invs g).map (evOf g) := List.map_congr_left fun p hp => by
    obtain ⟨x, y, _⟩ := invs_lt hp
    exact unpack_pack (e := (p.1, p.2, meet g p.1 p.2)) (by show p.1 < 5; omega) y
  rw [e1, e2] at h4
  exact (List.reverse_perm _).symm.trans h4
theorem chk_facts {r : Nat → Nat} {g : Nat → Nat → Bool} (hg : g = fun i j => Nat.blt (r j) (r i)) (hc : chk r = true) : (runE g 4).2.Perm ((invs g).map (evOf g)) ∧ (((runE g 4).2.filter fun e => e.2.2 == 1).map fun e => e.2.1).Perm (firsts g) ∧ (runE g 4).1 = stable g := by
  unfold chk at hc
  rw [runC_eq, ← hg] at hc
  unfold chkG at hc
  simp only [Bool.and_eq_true, List.isPerm_iff, beq_iff_eq] at hc
  obtain ⟨h1, h2, h3⟩ := hc
  exact ⟨run_factsG h1, (((List.reverse_perm (runE g 4).2).symm.filter _).map _).trans h2, h3⟩
theorem run_facts {lt gt : Nat → Nat → Bool} (W : Weak lt) (hl : ∀ i j, lt i j = gt j i) : (runE gt 4).2.Perm ((invs gt).map (evOf gt)) ∧ (((runE gt 4).2.filter fun e => e.2.2 == 1).map fun e => e.2.1).Perm (firsts gt) ∧ (runE gt 4).1 = stable gt := by
  have hc := chk_of (f := rk lt) fun i hi => rk_lt5 W.irr hi
  obtain ⟨g, hg0⟩ : ∃ g : Nat → Nat → Bool, g = fun i j => Nat.blt (pick (rk lt 0) (rk lt 1) (rk lt 2) (rk lt 3) (rk lt 4) j) (pick (rk lt 0) (rk lt 1) (rk lt 2) (rk lt 3) (rk lt 4) i) := ⟨_, rfl⟩
  have hf := chk_facts hg0 hc
  have hg : ∀ i j, i < 5 → j < 5 → gt i j = g i j := fun i j hi hj => by
    rw [hg0]
    show gt i j = Nat.blt (pick _ _ _ _ _ j) (pick _ _ _ _ _ i)
    rw [pick_of (f := rk lt) hi, pick_of (f := rk lt) hj, ← W.rank hj hi, hl]
  have em : (invs g).map (evOf gt) = (invs g).map (evOf g) := List.map_congr_left fun p hp => by
    obtain ⟨h1, h2, _⟩ := invs_lt hp
    unfold evOf
    rw [meet_congr hg (by omega) h2]
  rw [runE_congr hg, invs_congr hg, firsts_congr hg, stable_congr hg, em]
  exact hf
theorem firstMet_nodup (val : Nat → Int) : ∀ n, (firstMet val n).Nodup
  | 0 => List.nodup_nil
  | n + 1 => by
    rw [firstMet_succ]
    unfold step_dedup
    split
    · exact firstMet_nodup val n
    · rename_i h
      rw [List.nodup_append]
      refine ⟨firstMet_nodup val n, List.nodup_cons.mpr ⟨List.not_mem_nil, List.nodup_nil⟩, fun a ha b hb e => ?_⟩
      rw [List.mem_singleton.mp hb] at e
      exact h (List.any_eq_true.mpr ⟨a, ha, by rw [e]; exact beq_self_eq_true _⟩)
theorem metOf_mem {l : List (Nat × Nat)} {k : Int} : k ∈ metOf l ↔ k ∈ jsOf l := by
  have h := firstMet_any (fun i => (jsOf l).getD i 0) (jsOf l).length k
  rw [← list_range (l := jsOf l) (d := 0)] at h
  have e : ∀ m : List Int, (m.any (· == k) = true) ↔ k ∈ m := fun m => by
    rw [List.any_eq_true]
    constructor
    · rintro ⟨x, hx, e⟩; rw [← eq_of_beq e]; exact hx
    · intro hk; exact ⟨k, hk, beq_self_eq_true _⟩
  unfold metOf
  rw [← e, ← e, h]
structure EntryEq (a b : Entry) : Prop where
  cc : a.1 = b.1
  nc : a.2.1 = b.2.1
  tt : a.2.2.1 = b.2.2.1
  ct : a.2.2.2.1 = b.2.2.2.1
  to : ∀ x ∈ a.2.2.2.2, x ∈ b.2.2.2.2
  fro : ∀ x ∈ b.2.2.2.2, x ∈ a.2.2.2.2
theorem any_key_iff {α : Type} {l : List (Str × α)} {u : Str} : l.any (fun x => x.1 = u) = true ↔ ∃ x ∈ l, x.1 = u := by
  rw [List.any_eq_true]
  constructor
  · rintro ⟨x, hx, e⟩; exact ⟨x, hx, of_decide_eq_true e⟩
  · rintro ⟨x, hx, e⟩; exact ⟨x, hx, decide_eq_true e⟩
theorem ones_sum : ∀ l : List Ev, (l.map oneI).sum = ((l.filter fun e => e.2.2 == 1).length : Int)
  | [] => rfl
  | e :: r => by
    rw [List.map_cons, List.sum_cons, ones_sum r, List.filter_cons]
    unfold oneI
    by_cases h : e.2.2 = 1
    · rw [if_pos (by omega), if_pos (by rw [h]; rfl), List.length_cons]; omega
    · rw [if_neg (by omega), if_neg (by simpa using h)]; omega
theorem mem_invs {gt : Nat → Nat → Bool} {i j : Nat} (h1 : i < j) (h2 : j < 5) (h3 : gt i j = true) : (i, j) ∈ invs gt := by
  unfold invs
  exact List.mem_flatMap.mpr ⟨j, List.mem_range.mpr h2, List.mem_filterMap.mpr ⟨i, List.mem_range.mpr h1, by rw [if_pos h3]⟩⟩
section
variable {kA kB : Nat → Int} {hm : Nat → Str} {vs : Nat → Int}
theorem evs_perm (W : Weak fun i j => gtK kA kB j i) (h : Str) : (evsH hm (runE (gtK kA kB) 4).2 h).Perm ((pairsH kA kB hm h).map (evOf (gtK kA kB))) := by
  have e := (run_facts W fun _ _ => rfl).1.filter fun e => decide (hm e.2.1 = h)
  rw [List.filter_map] at e
  rw [pairsH_filter]
  exact e
theorem firsts_met (W : Weak fun i j => gtK kA kB j i) (h : Str) : ((evsH hm (runE (gtK kA kB) 4).2 h).map oneI).sum = ((metOf (pairsH kA kB hm h)).length : Int) := by
  rw [ones_sum]
  have e1 : ((evsH hm (runE (gtK kA kB) 4).2 h).filter fun e => e.2.2 == 1).length = ((firsts (gtK kA kB)).filter fun j => decide (hm j = h)).length := by
    have e := ((run_facts W fun _ _ => rfl).2.1.filter fun j => decide (hm j = h)).length_eq
    rw [List.filter_map, List.length_map, List.filter_filter] at e
    rw [← e]
    unfold evsH
    rw [List.filter_filter]
    congr 1
    refine List.filter_congr fun x _ => ?_
    exact Bool.and_comm _ _
  rw [e1]
  have n1 : (((firsts (gtK kA kB)).filter fun j => decide (hm j = h)).map fun j : Nat => (j : Int)).Nodup := by
    unfold List.Nodup
    rw [List.pairwise_map]
    have n0 : ((firsts (gtK kA kB)).filter fun j => decide (hm j = h)).Nodup := (List.Pairwise.filter _ (List.Pairwise.filter _ List.nodup_range))
    exact n0.imp fun hne e => hne (by omega)
  have p := (List.perm_ext_iff_of_nodup n1 (firstMet_nodup (fun i => (jsOf (pairsH kA kB hm h)).getD i 0) (jsOf (pairsH kA kB hm h)).length)).mpr fun k => by
    show _ ↔ k ∈ metOf (pairsH kA kB hm h)
    rw [metOf_mem]
    unfold jsOf
    rw [pairsH_filter]
    constructor
    · intro hk
      obtain ⟨j, hj, rfl⟩ := List.mem_map.mp hk
      obtain ⟨hf, hh⟩ := List.mem_filter.mp hj
      obtain ⟨hr, ha⟩ := List.mem_filter.mp hf
      obtain ⟨i, hi, hg⟩ := List.any_eq_true.mp ha
      exact List.mem_map.mpr ⟨(i, j), List.mem_filter.mpr ⟨mem_invs (List.mem_range.mp hi) (List.mem_range.mp hr) hg, hh⟩, rfl⟩
    · intro hk
      obtain ⟨p, hp, rfl⟩ := List.mem_map.mp hk
      obtain ⟨hi, hh⟩ := List.mem_filter.mp hp
      obtain ⟨a1, a2, a3⟩ := invs_lt hi
      exact List.mem_map.mpr ⟨p.2, List.mem_filter.mpr ⟨List.mem_filter.mpr ⟨List.mem_range.mpr a2, List.any_eq_true.mpr ⟨p.1, List.mem_range.mpr a1, a3⟩⟩, hh⟩, rfl⟩
  have e2 := p.length_eq
  rw [List.length_map] at e2
  rw [e2]; rfl
theorem turnI_evOf {p : Nat × Nat} : turnI (evOf (gtK kA kB) p) = turnF kA kB p.1 p.2 := meet_turn.symm
theorem mine_perm (W : Weak fun i j => gtK kA kB j i) (h u : Str) : ((evsU hm (evsH hm (runE (gtK kA kB) 4).2 h) u).map turnI).Perm (mineOf kA kB hm (pairsH kA kB hm h) u) := by
  have e := ((evs_perm (hm := hm) W h).filter fun e => decide (hm e.1 = u)).map turnI
  rw [List.filter_map, List.map_map] at e
  have e2 : mineOf kA kB hm (pairsH kA kB hm h) u = ((pairsH kA kB hm h).filter ((fun e : Ev => decide (hm e.1 = u)) ∘ evOf (gtK kA kB))).map (turnI ∘ evOf (gtK kA kB)) := by
    unfold mineOf
    exact List.map_congr_left fun p _ => turnI_evOf.symm
  rw [e2]
  exact e
theorem entry_eq (W : Weak fun i j => gtK kA kB j i) (h : Str) : EntryEq (entE hm vs (evsH hm (runE (gtK kA kB) 4).2 h)) (entryD kA kB hm vs h) := by
  have p := evs_perm (hm := hm) W h
  have C := CT.told (hm := hm) (evsH hm (runE (gtK kA kB) 4).2 h)
  have D := calN_told (kA := kA) (kB := kB) (hm := hm) (l := pairsH kA kB hm h) 5
  have val : ∀ u, (((evsU hm (evsH hm (runE (gtK kA kB) 4).2 h) u).length : Int), ((evsU hm (evsH hm (runE (gtK kA kB) 4).2 h) u).map turnI).sum) = (((mineOf kA kB hm (pairsH kA kB hm h) u).length : Int), (mineOf kA kB hm (pairsH kA kB hm h) u).sum) := fun u => by
    have q := mine_perm (hm := hm) W h u
    have ql := q.length_eq
    rw [List.length_map] at ql
    rw [ql, Perm.sumI q]
  refine ⟨firsts_met W h, ?_, ?_, ?_, fun x hx => ?_, fun x hx => ?_⟩
  · show ((evsH hm (runE (gtK kA kB) 4).2 h).length : Int) = ((pairsH kA kB hm h).length : Int)
    rw [p.length_eq, List.length_map]
  · show ((evsH hm (runE (gtK kA kB) 4).2 h).map turnI).sum = (turnsOf kA kB (pairsH kA kB hm h)).sum
    rw [Perm.sumI (p.map turnI), List.map_map]
    unfold turnsOf
    congr 1
    exact List.map_congr_left fun ij _ => turnI_evOf
  · show ((evsH hm (runE (gtK kA kB) 4).2 h).map (gapI vs)).sum = (gapsOf vs (pairsH kA kB hm h)).sum
    rw [Perm.sumI (p.map (gapI vs)), List.map_map]
    rfl
  · have hx' : x ∈ calE hm (evsH hm (runE (gtK kA kB) 4).2 h) := hx
    have hk : (calE hm (evsH hm (runE (gtK kA kB) 4).2 h)).any (fun y => y.1 = x.1) = true := any_key_iff.mpr ⟨x, hx', rfl⟩
    rw [C.keys, List.any_eq_true] at hk
    obtain ⟨e, he, hu⟩ := hk
    have hu' := of_decide_eq_true hu
    have e5 := (runE_evs (gt := gtK kA kB) 4).2 e (List.mem_filter.mp he).1
    have ne : (mineOf kA kB hm (pairsH kA kB hm h) (hm e.1)).isEmpty = false := by
      have ql := (mine_perm (hm := hm) W h (hm e.1)).length_eq
      have : e ∈ evsU hm (evsH hm (runE (gtK kA kB) 4).2 h) (hm e.1) := List.mem_filter.mpr ⟨he, by rw [decide_eq_true_eq]⟩
      have : 0 < (evsU hm (evsH hm (runE (gtK kA kB) 4).2 h) (hm e.1)).length := List.length_pos_of_mem this
      rw [List.length_map] at ql
      rw [List.isEmpty_eq_false_iff]
      intro e0
      rw [e0, List.length_nil] at ql
      omega
    obtain ⟨y, hy, hyk⟩ := any_key_iff.mp (D.keys e.1 e5.1 (by rw [ne]; rfl))
    have e1 := C.vals x hx'
    rw [val x.1] at e1
    have e2 := (D.vals y hy).1
    have : x = y := Prod.ext (by rw [hyk, hu']) (by rw [e1, e2, hyk, hu'])
    rw [this]; exact hy
  · have hx' : x ∈ calN kA kB hm (pairsH kA kB hm h) 5 := hx
    obtain ⟨e2, ok⟩ := D.vals x hx'
    have ne : 0 < (evsU hm (evsH hm (runE (gtK kA kB) 4).2 h) x.1).length := by
      have ql := (mine_perm (hm := hm) W h x.1).length_eq
      rw [List.length_map] at ql
      have : mineOf kA kB hm (pairsH kA kB hm h) x.1 ≠ [] := by
        intro e0
        rw [e0] at ok; cases ok
      have := List.length_pos_iff.mpr this
      omega
    obtain ⟨e, he⟩ := List.exists_mem_of_length_pos ne
    obtain ⟨he1, he2⟩ := List.mem_filter.mp he
    have hk : (calE hm (evsH hm (runE (gtK kA kB) 4).2 h)).any (fun y => y.1 = x.1) = true := by
      rw [C.keys, List.any_eq_true]; exact ⟨e, he1, he2⟩
    obtain ⟨y, hy, hyk⟩ := any_key_iff.mp hk
    have e1 := C.vals y hy
    rw [val y.1] at e1
    have : x = y := Prod.ext hyk.symm (by rw [e1, e2, hyk])
    rw [this]; exact hy
structure BookEq (a b : List (Str × Entry)) : Prop where
  to : ∀ x ∈ a, ∃ y ∈ b, y.1 = x.1 ∧ EntryEq x.2 y.2
  fro : ∀ y ∈ b, ∃ x ∈ a, x.1 = y.1
theorem book_eq (W : Weak fun i j => gtK kA kB j i) : BookEq ((runE (gtK kA kB) 4).2.foldl (tell hm vs) []) (dueN kA kB hm vs 5) := by
  have B := BT.told (hm := hm) (vs := vs) (runE (gtK kA kB) 4).2
  have D := dueN_told (kA := kA) (kB := kB) (hm := hm) (vs := vs) 5
  refine ⟨fun x hx => ?_, fun y hy => ?_⟩
  · have hk : ((runE (gtK kA kB) 4).2.foldl (tell hm vs) []).any (fun y => y.1 = x.1) = true := any_key_iff.mpr ⟨x, hx, rfl⟩
    rw [B.keys, List.any_eq_true] at hk
    obtain ⟨e, he, hu⟩ := hk
    have hu' := of_decide_eq_true hu
    have e5 := (runE_evs (gt := gtK kA kB) 4).2 e he
    have ne : (pairsH kA kB hm (hm e.2.1)).isEmpty = false := by
      have ql := (evs_perm (hm := hm) W (hm e.2.1)).length_eq
      have : e ∈ evsH hm (runE (gtK kA kB) 4).2 (hm e.2.1) := List.mem_filter.mpr ⟨he, by rw [decide_eq_true_eq]⟩
      have := List.length_pos_of_mem this
      rw [List.length_map] at ql
      rw [List.isEmpty_eq_false_iff]
      intro e0
      rw [e0, List.length_nil] at ql
      omega
    obtain ⟨y, hy, hyk⟩ := any_key_iff.mp (D.keys e.2.1 e5.2 (by rw [ne]; rfl))
    refine ⟨y, hy, by rw [hyk, hu'], ?_⟩
    rw [B.vals x hx, (D.vals y hy).1, hyk, hu']
    exact entry_eq W _
  · obtain ⟨_, ok⟩ := D.vals y hy
    have : 0 < (evsH hm (runE (gtK kA kB) 4).2 y.1).length := by
      have ql := (evs_perm (hm := hm) W y.1).length_eq
      rw [List.length_map] at ql
      have : pairsH kA kB hm y.1 ≠ [] := by
        intro e0
        rw [e0] at ok; cases ok
      have := List.length_pos_iff.mpr this
      omega
    obtain ⟨e, he⟩ := List.exists_mem_of_length_pos this
    obtain ⟨he1, he2⟩ := List.mem_filter.mp he
    refine any_key_iff.mp ?_
    rw [B.keys, List.any_eq_true]; exact ⟨e, he1, he2⟩
theorem gtK_iff {i j : Nat} : gtK kA kB i j = true ↔ kA j < kA i ∨ (kA i = kA j ∧ kB j < kB i) := by
  unfold gtK
  split
  · split
    · simp; omega
    · simp; omega
  · simp; omega
theorem gtK_not {i j : Nat} : gtK kA kB i j = false ↔ ¬ (kA j < kA i ∨ (kA i = kA j ∧ kB j < kB i)) := by
  rw [← gtK_iff, Bool.not_eq_true]
theorem weakK : Weak fun i j => gtK kA kB j i where
  irr := fun i _ => gtK_not.mpr (by omega)
  tr := fun i j k _ _ _ h1 h2 => gtK_iff.mpr (by
    have h1 := gtK_iff.mp h1
    have h2 := gtK_iff.mp h2
    omega)
  neg := fun i j k _ _ _ h1 h2 => gtK_iff.mpr (by
    have h1 := gtK_not.mp h1
    have h2 := gtK_iff.mp h2
    omega)
end
theorem gt_rank1 {P1 P2 : Prop} [Decidable P1] [Decidable P2] {a b : Nat} {w X : Int} (h1 : P1 ↔ a < b) (h2 : P2 ↔ b < a) (e : w = 1 ∨ w = -1) : (0 < (if P1 then -w else if P2 then w else X)) ↔ ((b : Int) * w < (a : Int) * w ∨ ((a : Int) * w = (b : Int) * w ∧ 0 < X)) := by
  rcases e with rfl | rfl <;> (
    by_cases q1 : P1
    · rw [if_pos q1]; have := h1.mp q1; omega
    · have n1 := mt h1.mpr q1
      rw [if_neg q1]
      by_cases q2 : P2
      · rw [if_pos q2]; have := h2.mp q2; omega
      · have n2 := mt h2.mpr q2
        rw [if_neg q2]; omega)
theorem gt_ranks {P1 P2 P3 P4 : Prop} [Decidable P1] [Decidable P2] [Decidable P3] [Decidable P4] {a b c d : Nat} {w1 w2 : Int} (h1 : P1 ↔ a < b) (h2 : P2 ↔ b < a) (h3 : P3 ↔ c < d) (h4 : P4 ↔ d < c) (e1 : w1 = 1 ∨ w1 = -1) (e2 : w2 = 1 ∨ w2 = -1) :
    (0 < (if P1 then -w1 else if P2 then w1 else if P3 then -w2 else if P4 then w2 else 0)) ↔ ((b : Int) * w1 < (a : Int) * w1 ∨ ((a : Int) * w1 = (b : Int) * w1 ∧ (d : Int) * w2 < (c : Int) * w2)) :=
  (gt_rank1 h1 h2 e1).trans (or_congr Iff.rfl (and_congr Iff.rfl ((gt_rank1 h3 h4 e2).trans ⟨fun h => h.elim id fun h => absurd h.2 (by decide), .inl⟩)))
theorem colT_q {x : Str} : colT x = qtext x := by
  unfold colT qtext
  have e : Str.ofString "}" ++ Str.ofString "host" = Str.ofString "}host" := by decide +kernel
  simp only [PySem.Str.append_assoc, e]
theorem gt_keys {i1 i2 w1 w2 : Int} {hm : Nat → Str} {vs : Nat → Int} (hi : i1 = 0 ∧ i2 = 1 ∨ i1 = 1 ∧ i2 = 0) (e1 : w1 = 1 ∨ w1 = -1) (e2 : w2 = 1 ∨ w2 = -1) {i j : Nat} (h1 : i < 5) (h2 : j < 5) :
    gtR i1 w1 w2 hm vs i j = gtK (fun i => rankK i1 hm vs i * w1) (fun i => rankK i2 hm vs i * w2) i j := by
  have F : ∀ a b, a < 5 → b < 5 → (ltS (hm a) (hm b) ↔ rk (ltF fun k => colT (hm k)) a < rk (ltF fun k => colT (hm k)) b) := fun a b ha hb => by
    have r := (weakF fun k => colT (hm k)).rank ha hb
    have e : ltF (fun k => colT (hm k)) a b = decide (ltS (hm a) (hm b)) := by unfold ltF; simp only [colT_q]
    rw [← decide_eq_true_iff (p := ltS (hm a) (hm b)), ← e, r, Nat.blt_eq]
  have I : ∀ a b, a < 5 → b < 5 → (vs a < vs b ↔ rk (ltI vs) a < rk (ltI vs) b) := fun a b ha hb => by
    have r := (weakI vs).rank ha hb
    rw [← decide_eq_true_iff (p := vs a < vs b), ← Nat.blt_eq, ← r]; rfl
  rw [Bool.eq_iff_iff, gtK_iff]
  unfold gtR
  rw [decide_eq_true_eq]
  rcases hi with ⟨rfl, rfl⟩ | ⟨rfl, rfl⟩
  · exact gt_ranks (F i j h1 h2) (F j i h2 h1) (I i j h1 h2) (I j i h2 h1) e1 e2
  · exact gt_ranks (I i j h1 h2) (I j i h2 h1) (F i j h1 h2) (F j i h2 h1) e1 e2
section
variable {prog : Program} {A : Around} {E : Value → Shared → Prop} {s : Shared}
noncomputable def SameW (prog : Program) (w : World) (A : Around) (s : Shared) (y x : Value) : Prop := ∀ (E : Value → Shared → Prop) (Q : Bool → Shared → Prop), Q true s → wpAny (model prog w) A (eqBool y x) Q E s
theorem SameW.ints {a b : Int} {t u : Tok} (h : a = b) : SameW prog w A s (.int a t) (.int b u) := fun E Q hq => by
  have e := SeqAt.EqAt.int_int (A := A) (s := s) a t b u
  rw [h, beq_self_eq_true] at e
  rw [h]
  exact e prog w E Q hq
theorem SameW.refs {l b : Addr} (h : ∀ (E : Value → Shared → Prop) (Q : Value → Shared → Prop), Q (.bool true) s → wpAny (model prog w) A (richCompare .Eq (.ref l) (.ref b)) Q E s) : SameW prog w A s (.ref l) (.ref b) := fun E Q hq => by
  by_cases e : l = b
  · rw [e]; exact SeqAt.EqAt.same (.ref b) prog w E Q hq
  · unfold eqBool
    refine wpAny_holding (wpAny_ite_split (fun hab => absurd (by have := eq_of_beq hab; injection this) e) fun _ => ?_)
    exact wpAny_bind (h E _ (wpAny_truthy_bool hq))
theorem tuples_same {l b : Addr} {xs ys : List Value} (hl : s.heap.IsTuple l xs.toArray) (hb : s.heap.IsTuple b ys.toArray) (hu : A.units < cLine) (hn : xs.length = ys.length) (hz : ∀ p ∈ xs.zip ys, SameW prog w A.in1 s p.1 p.2) {Q : Value → Shared → Prop} (hq : Q (.bool true) s) :
    wpAny (model prog w) A (richCompare .Eq (.ref l) (.ref b)) Q E s := by
  obtain ⟨⟨cls, dd, data, sl⟩, ho, hc, n, hd⟩ := id hl
  obtain ⟨⟨cls2, dd2, data2, sl2⟩, ho2, hc2, n2, hd2⟩ := id hb
  simp only at hc hd hc2 hd2
  subst hc hd hc2 hd2
  have tl : s.TypeIs (.ref l) "tuple" := ⟨_, ho, rfl⟩
  have tb : s.TypeIs (.ref b) "tuple" := ⟨_, ho2, rfl⟩
  refine wpAny_richCompare_same_room (op := .Eq) tl tb PySem.F.slot_tuple_eq (wpAny_call_entry PySem.F.slot_tuple_eq tl PySem.F.entry_tuple_eq ?_ (PySem.F.args_tuple_eq_2 _ _)) hu
  obtain ⟨hp, g, d, tk, os⟩ := s
  have f2 := AutoSeq1.sub_tuple_tuple
  wp_walk using PySem.AutoSeq1.wpAny_loadPart' ho, PySem.AutoSeq1.wpAny_loadPart' ho2, wpAny_forIn_list _ (fun rest q s' => q.1 = none ∧ s' = ⟨hp, g, d, tk, os⟩ ∧ ∀ p ∈ rest, p ∈ xs.zip ys) _
  case turn =>
    rintro ⟨y, x⟩ rest q s' ⟨_, rfl, hm⟩
    refine wpAny_bind (hz _ (hm _ (.head _)) _ _ ?_)
    wp_walk
    exact ⟨rfl, rfl, fun p hp => hm p (.tail _ hp)⟩
  case fin =>
    rintro ⟨b1, b2⟩ s' ⟨hb', rfl, _⟩
    simp only at hb'
    subst hb'
    wp_walk
    refine ⟨_, rfl, ?_⟩
    simpa [Builtin.Tuple.tupleCompareSizes, hn] using hq
  case h => exact ⟨rfl, rfl, fun p hp => by simpa using hp⟩
end
section
variable {prog : Program} {K : Type} [DecidableEq K] {knd : KeyKind prog w K} {A : Around} {E : Value → Shared → Prop} {s : Shared}
theorem pairs_same {nm : String} {a b : Addr} {ka kb : List (K × Value)} {Q : Bool → Shared → Prop} (ha : (a == sysModules) = false) (hb : (b == sysModules) = false) (da : s.heap.DictOf knd a ka) (db : s.heap.DictOf knd b kb) (hn : ka.length = kb.length)
    (hit : ∀ k v, (k, v) ∈ ka → ∃ y, valueAt kb k = some y ∧ SameW prog w A s v y) (h : Q true s) : wpAny (model prog w) A (Builtin.Dict.samePairs nm a b) Q E s := by
  obtain ⟨oa, es, ep, hoa, _, hda, hka, hpa, _⟩ := da
  obtain ⟨ob, fs, ep', hob, _, hdb, hkb, hpb, _⟩ := db
  have la : es.size = ka.length := by rw [← Array.length_toList, hpa.length]
  have lb : fs.size = kb.length := by rw [← Array.length_toList, hpb.length]
  have look : ∀ k y, valueAt kb k = some y → ∃ j, ∃ hj : j < fs.size, (fs.findIdx? fun e => knd.is k e.key) = some j ∧ fs[j].val = y := fun k y hy => by
    have e : findBy knd.is fs k = some y := by
      rw [← hy, ← hpb.find k]
      cases fs
      simp [findBy]
    rw [findBy_of_findIdx?] at e
    cases hj : fs.findIdx? fun e => knd.is k e.key with
    | none => rw [hj] at e; cases e
    | some j =>
      obtain ⟨hlt, _, _⟩ := Array.findIdx?_eq_some_iff_getElem.mp hj
      rw [hj] at e
      exact ⟨j, hlt, rfl, by simpa [Array.getElem?_eq_getElem hlt] using e⟩
  unfold Builtin.Dict.samePairs Builtin.Dict.showsAll
  rw [if_neg (show ¬ (a == sysModules) = true by rw [ha]; exact Bool.false_ne_true), if_neg (show ¬ (b == sysModules) = true by rw [hb]; exact Bool.false_ne_true)]
  refine wpAny_bind (wpAny_pure (wpAny_bind (wpAny_pure (wpAny_bind (wpAny_dictEntries hoa hda ?_)))))
  dsimp only
  refine wpAny_bind (wpAny_dictEntries hob hdb ?_)
  rw [if_neg (by rw [la, lb, hn]; simp)]
  refine wpAny_bind (wpAny_dictEpoch hoa hda (wpAny_bind ?_))
  rw [Std.Legacy.Range.forIn_eq_forIn_range']
  refine wpAny_forIn_list _ (fun rest q s' => s' = s ∧ q = (none, ()) ∧ ∀ i ∈ rest, i < es.size) _ ?_ ?_ _ _ ⟨rfl, rfl, fun i hi => ?_⟩
  · rintro i rest q s' ⟨rfl, rfl, hm⟩
    have hi : i < es.size := hm i (.head _)
    have hi' : i < ka.length := by omega
    obtain ⟨hkey, hval⟩ := hpa.get? (i := i) (e := es[i]) (k := ka[i].1) (v := ka[i].2) (by rw [Array.getElem?_toList]; exact Array.getElem?_eq_getElem hi) (List.getElem?_eq_getElem hi')
    obtain ⟨k', hk', hh⟩ := hka es[i] (Array.getElem_mem hi)
    rw [knd.inj _ _ _ hk' hkey] at hh
    obtain ⟨y, hy, hsame⟩ := hit ka[i].1 ka[i].2 (List.getElem_mem hi')
    obtain ⟨j, hj, hf, hv⟩ := look _ _ hy
    refine wpAny_bind (wpAny_dictEntries hoa hda ?_)
    rw [Array.getElem?_eq_getElem hi]
    show wpAny _ _ (holding [es[i].key, es[i].val] _ >>= _) _ _ _
    rw [hh]
    refine wpAny_bind (wpAny_holding (wpAny_bind (wpAny_dictFind_of hkey hob hdb hkb ?_)))
    rw [hf]
    refine wpAny_bind (wpAny_dictEntries hob hdb ?_)
    rw [Array.getElem?_eq_getElem hj]
    rw [← hval, ← hv] at hsame
    refine wpAny_holding (hsame _ _ ?_)
    show wpAny _ _ (if (!true) = true then _ else _) _ _ _
    rw [if_neg (by decide)]
    refine wpAny_bind (wpAny_dictEpoch hoa hda ?_)
    rw [if_neg (by simp)]
    exact wpAny_pure ⟨rfl, rfl, fun z hz => hm z (.tail _ hz)⟩
  · rintro q s' ⟨rfl, rfl, _⟩
    exact wpAny_pure h
  · simp only [Std.Legacy.Range.size, Nat.sub_zero, Nat.add_sub_cancel, Nat.div_one, List.mem_range'_1] at hi
    omega
theorem dicts_same {a b : Addr} {ka kb : List (K × Value)} {Q : Value → Shared → Prop} (ha : (a == sysModules) = false) (hb : (b == sysModules) = false) (da : s.heap.DictOf knd a ka) (db : s.heap.DictOf knd b kb) (hu : A.units < cLine) (hn : ka.length = kb.length)
    (hit : ∀ k v, (k, v) ∈ ka → ∃ y, valueAt kb k = some y ∧ SameW prog w A.in1 s v y) (h : Q (.bool true) s) : wpAny (model prog w) A (richCompare .Eq (.ref a) (.ref b)) Q E s := by
  refine wpAny_richCompare_same_room (op := .Eq) da.typeIs db.typeIs PySem.F.slot_dict_eq (wpAny_call_entry PySem.F.slot_dict_eq da.typeIs PySem.F.entry_dict_eq ?_ (PySem.F.args_dict_eq_2 _ _)) hu
  show wpAny _ _ (Builtin.Dict.dictSlotArgs "__eq__" ⟨[.ref a, .ref b], []⟩ >>= _) _ _ s
  unfold Builtin.Dict.dictSlotArgs
  refine wpAny_bind (wpAny_bind (wpAny_notOrdered_dict da.typeIs (wpAny_pure (wpAny_bind (wpAny_isInstance (T := "dict") db.typeIs PySem.F.sub_dict_dict ?_)))))
  simp only [Bool.not_true, Bool.false_eq_true, if_false]
  refine wpAny_bind (wpAny_pure (wpAny_bind (wpAny_pure (wpAny_bind (pairs_same ha hb da db hn hit (wpAny_pure ⟨_, rfl, ?_, ?_⟩))))))
  · exact fun x => nomatch x
  · exact h
theorem dicts_ne {a b : Addr} {ka kb : List (K × Value)} {Q : Value → Shared → Prop} (ha : (a == sysModules) = false) (hb : (b == sysModules) = false) (da : s.heap.DictOf knd a ka) (db : s.heap.DictOf knd b kb) (hu : A.units < cLine) (hn : ka.length = kb.length)
    (hit : ∀ k v, (k, v) ∈ ka → ∃ y, valueAt kb k = some y ∧ SameW prog w A.in1 s v y) (h : Q (.bool false) s) : wpAny (model prog w) A (compareOp .NotEq (.ref a) (.ref b)) Q E s := by
  refine wpAny_richCompare_same_room (op := .NotEq) da.typeIs db.typeIs PySem.F.slot_dict_ne (wpAny_call_entry PySem.F.slot_dict_ne da.typeIs PySem.F.entry_dict_ne ?_ (PySem.F.args_dict_ne_2 _ _)) hu
  show wpAny _ _ (Builtin.Dict.dictSlotArgs "__ne__" ⟨[.ref a, .ref b], []⟩ >>= _) _ _ s
  unfold Builtin.Dict.dictSlotArgs
  refine wpAny_bind (wpAny_bind (wpAny_notOrdered_dict da.typeIs (wpAny_pure (wpAny_bind (wpAny_isInstance (T := "dict") db.typeIs PySem.F.sub_dict_dict ?_)))))
  simp only [Bool.not_true, Bool.false_eq_true, if_false]
  refine wpAny_bind (wpAny_pure (wpAny_bind (wpAny_pure (wpAny_bind (pairs_same ha hb da db hn hit (wpAny_pure ⟨_, rfl, ?_, ?_⟩))))))
  · exact fun x => nomatch x
  · exact h
end
noncomputable def dsL (ds : Nat → Int) : List Int := [ds 0, ds 1, ds 2, ds 3, ds 4]
noncomputable def wsF (ds : Nat → Int) (k : Nat) : Str := word 0 (k : Int) (ds k)
noncomputable def vsF (ds : Nat → Int) (k : Nat) : Int := ((ds k).fdiv 25).fmod 3 - 1
noncomputable def hmL (ds : Nat → Int) (k : Nat) : List Str := [Str.ofString ".x.y", Str.ofString ".local", wsF ds k, wsF ds k, wsF ds k]
noncomputable def hmF (ds : Nat → Int) (k : Nat) : Str := (hmL ds k).getD ((ds k).fmod 5).toNat Str.empty
noncomputable def fn5 {α : Type} (a b c d e : α) : Nat → α
  | 0 => a | 1 => b | 2 => c | 3 => d | _ => e
section
variable {mg mb : Str → Option Value} {mean : ExcName → Option Value} {loose : List Str} {dp un : Nat} {gd : Option (List Code)} {cn : Str} {cs : Scope} {a : Addr} {ccd : Value} {cl : List (Str × Addr)} {outer : List Env} {A₀ : Around} {base h₀ : Heap} {L : Addr} {m : Str → Option Value} {s : Shared} {Q E : Value → Shared → Prop}
theorem c_drawsF {l : Addr} {vs : List Value} {ns : List Int} {news : List (Addr × Obj)} (B : Below A₀ base outer h₀) (F : Fr h₀ L s.heap m) (X : (hd.heap_1 w.params).In h₀) (N : News h₀ L s.heap news) (T : Top topProg loose mean mg mb h₀) (hk : cs.kind = .function) (h1 : dp ≤ 330) (h2 : un ≤ 200)
    (hl : base.IsList l vs.toArray) (hi : IntsAre vs ns) (h63 : ns.length ≤ 63)
    (ret : ∀ D (ds : Nat → Int) (t : Nat → Tok) n h' tk', (∀ i, i < 5 → 0 ≤ ds i ∧ ds i < 2000000000) → Fr h₀ L h' m → News h₀ L h' ((D, PySem.W.listOf (List.toArray [.int (ds 0) (t 0), .int (ds 1) (t 1), .int (ds 2) (t 2), .int (ds 3) (t 3), .int (ds 4) (t 4)]) n) :: news) → LCg.Off1 D news → Q (.ref D) { s with heap := h', toks := tk' }) :
    wpAny (model PySem.Challenge.rw_xo0026_01.row.prog w) (ktrTop dp un gd cn cs L a ccd cl outer) (call (.ref 217) [.ref l]) Q E s :=
  c_draws B F X N T hk h1 h2 hl hi h63 fun D d0 d1 d2 d3 d4 t0 t1 t2 t3 t4 n h' tk' F' N' b0 b1 b2 b3 b4 o => ret D (fn5 d0 d1 d2 d3 d4) (fn5 t0 t1 t2 t3 t4) n h' tk' (at5 b0 b1 b2 b3 b4) F' N' o
theorem c_wordsF {l : Addr} {news : List (Addr × Obj)} {ds : Nat → Int} {t : Nat → Tok} {tk : Tok} {n : Nat} (B : Below A₀ base outer h₀) (F : Fr h₀ L s.heap m) (X : (hd.heap_1 w.params).In h₀) (N : News h₀ L s.heap news) (T : Top topProg loose mean mg mb h₀) (hk : cs.kind = .function) (h1 : dp ≤ 330) (h2 : un ≤ 200)
    (hm : (l, PySem.W.listOf (List.toArray [.int (ds 0) (t 0), .int (ds 1) (t 1), .int (ds 2) (t 2), .int (ds 3) (t 3), .int (ds 4) (t 4)]) n) ∈ news)
    (ret : ∀ D (t : Nat → Tok) n h' tk', Fr h₀ L h' m → News h₀ L h' ((D, PySem.W.listOf (List.toArray [.str (wsF ds 0) (t 0), .str (wsF ds 1) (t 1), .str (wsF ds 2) (t 2), .str (wsF ds 3) (t 3), .str (wsF ds 4) (t 4)]) n) :: news) → LCg.Off1 D news → Q (.ref D) { s with heap := h', toks := tk' }) :
    wpAny (model PySem.Challenge.rw_xo0026_01.row.prog w) (ktrTop dp un gd cn cs L a ccd cl outer) (call (.ref 222) [.ref l, .int 0 tk]) Q E s :=
  c_words B F X N T hk h1 h2 hm (by decide) (by decide) fun D t0 t1 t2 t3 t4 n h' tk' F' N' o => ret D (fn5 t0 t1 t2 t3 t4) n h' tk' F' N' o
theorem c_lexerF {l : Addr} {news : List (Addr × Obj)} {ds : Nat → Int} {t : Nat → Tok} {n : Nat} (B : Below A₀ base outer h₀) (F : Fr h₀ L s.heap m) (X : (hd.heap_1 w.params).In h₀) (N : News h₀ L s.heap ((224, tabObj #[]) :: news)) (T : Top topProg loose mean mg mb h₀) (hk : cs.kind = .function) (h1 : dp ≤ 325) (h2 : un ≤ 150)
    (C9 : CodeHd base 228 224) (h9 : ∀ p ∈ news, p.1 ≠ 224)
    (hm : (l, PySem.W.listOf (List.toArray [.int (ds 0) (t 0), .int (ds 1) (t 1), .int (ds 2) (t 2), .int (ds 3) (t 3), .int (ds 4) (t 4)]) n) ∈ news)
    (ret : ∀ x dx pb left st n1 n2 a1 a2 a3 a4 a5 a6 ex ys h' tk', Fr h₀ L h' m →
      News h₀ L h' ((dx, dictOf (lexD w a1 a2 a3 a4 a5 a6 1 (.ref st) (.ref pb)) 4) :: (left, PySem.W.listOf (List.toArray ys) n2) :: (pb, PySem.W.listOf (List.toArray []) n1) :: (ex ++ news)) →
      StrsAre ys (signs (text (dsL ds))) → Lex w x dx st left ex → (∃ ps, (224, tabObj ps) ∈ ex) → (∀ p ∈ ex, ∀ q ∈ news, q.1 ≠ p.1) → (∀ p ∈ ex ++ news, p.1 ≠ pb) → (∀ p ∈ ex ++ news, p.1 ≠ dx) → (∀ p ∈ ex ++ news, p.1 ≠ left) → @Ne Nat pb dx → @Ne Nat pb left → @Ne Nat dx left → Q (.ref x) { s with heap := h', toks := tk' }) :
    wpAny (model PySem.Challenge.rw_xo0026_01.row.prog w) (ktrTop dp un gd cn cs L a ccd cl outer) (call (.ref 229) [.ref l]) Q E s :=
  c_lexer B F X N T hk h1 h2 C9 h9 hm fun x dx pb left st dst f fd c oc cell co n1 n2 n3 a1 a2 a3 a4 a5 a6 b1 b2 b3 b4 b5 b6 b7 pbv ex ys h' tk' F' N' hy g1 g2 g3 g4 g5 g6 K z1 z2 o1 o2 o3 o4 o5 o6 => ret x dx pb left st n1 n2 a1 a2 a3 a4 a5 a6 ex ys h' tk' F'
    (fun p hp => N' p (by revert p; k_extra "subl")) hy ⟨dst, f, fd, c, oc, cell, co, n3, b1, b2, b3, b4, b5, b6, b7, pbv, K, g1, g2, g3, g4, g5, g6⟩ z1 z2 o1 o2 o3 o4 o5 o6
end
noncomputable def EndB (cw : ClaimW) (cl : Str → Option Addr) (mean : ExcName → Option Value) (args : List WData) (s₁ : Shared) (tabs : List (Addr × Addr)) (r : Result) (s' : Shared) : Prop :=
  GoodW cw cl mean args { s₁ with heap := ghostOf s₁.heap tabs } r { s' with gens := #[] } ∧ GrownAll tabs s'.heap ∧ AllBare s'.gens
theorem kn_postB {M : Model} {A : Around} {cd : Code} {s s₁ : Shared} {cw : ClaimW} {cl : Str → Option Addr} {mean : ExcName → Option Value} {args : List WData} {tabs : List (Addr × Addr)} (hT : TabsAt tabs s₁.heap) (hr : ∀ a x, cw.raises a x = false)
    (h : codeAny M A cd (EndB cw cl mean args s₁ tabs) s) : codeAny M A cd (GoodWG cw cl mean args s₁) s :=
  codeAny_mono h fun r s' ⟨⟨hc, hk, hos, _⟩, hgr, hg⟩ => by
    have keep : ∀ b o, b ∉ tabs.map (·.2) → s₁.heap.get? b = some o → s'.heap.get? b = some o := fun b o hb e => hk b o (ghost_ne e hb)
    have grown : ∀ b o, b ∈ tabs.map (·.2) → s₁.heap.get? b = some o → isCodeTable s₁.heap b ∧ o = tabObj #[] ∧ ∃ ps, s'.heap.get? b = some (tabObj ps) := fun b o hb e => by
      obtain ⟨q, hq, rfl⟩ := List.mem_map.mp hb
      have e2 := (hT q hq).2
      rw [e] at e2
      exact ⟨((hT q hq).1.tab (hT q hq).2).isCodeTable, Option.some.inj e2, hgr.get q hq⟩
    refine ⟨?_, ⟨fun b o e => ?_, fun b o e => ?_⟩, hos, hg⟩
    · rcases hc with ⟨v, d, as, r1, r2, r3, r4, r5⟩ | ⟨e, ob, x, _, _, _, r4, _⟩
      · refine .inl ⟨v, d, as, r1, r2, r3, r4, fun q => ⟨(r5 q).1, fun a ha => ?_⟩⟩
        cases q1 : s₁.heap.get? a with
        | none => rfl
        | some o =>
          by_cases hb : a ∈ tabs.map (·.2)
          · obtain ⟨_, _, ps, hP⟩ := grown a o hb q1
            exact absurd ha (readsW_apart hP rfl r3)
          · have e3 := (r5 q).2 a ha
            rw [show (ghostOf s₁.heap tabs).get? a = some o from ghost_ne q1 hb] at e3
            cases e3
      · rw [hr] at r4; cases r4
    · by_cases hb : b ∈ tabs.map (·.2)
      · obtain ⟨ht, rfl, ps, hP⟩ := grown b o hb e
        exact .inr (.inl ⟨ht, rfl, #[], ps, rfl, by rw [Array.empty_append]; exact hP⟩)
      · exact .inl (keep b o hb e)
    · by_cases hb : b ∈ tabs.map (·.2)
      · obtain ⟨_, _, ps, hP⟩ := grown b o hb e
        exact ⟨_, hP⟩
      · exact ⟨o, keep b o hb e⟩
noncomputable def tkW (ds : Nat → Int) (i : Nat) : Str := if i < 5 then wsF ds i else Str.ofString ""
structure Toks (ds : Nat → Int) (r : Nat → List Str) : Prop where
  r0 : r 0 = signs (text (dsL ds))
  tk : ∀ i, i < 6 → tok (r i) = some (tkW ds i, r (i + 1))
  r6 : r 6 = []
  nl0 : nl (r 0) = 2
  len : ∀ i, i ≤ 6 → (r i).length ≤ 300
  one : ∀ i, i ≤ 6 → ∀ c ∈ r i, c.length = 1
section
variable {prog : Program} {A : Around} {h₀ : Heap} {L : Addr} {m : Str → Option Value} {env : Env} {elt : PySem.Expr} {x : Str} {scope : Scope} {cl : List (Str × Addr)} {s : Shared} {S : List (Addr × Obj) → Prop} {P : Nat → Value → Prop} {Fin : List Value → List (Addr × Obj) → Prop} {news : List (Addr × Obj)} {n : Nat}
theorem rest_J (J : Nat → List Value → List (Addr × Obj) → Prop) (h0 : J 0 [] news)
    (turn : ∀ i v I oI C oC D m₂ ys news' h tk (E' : Value → Shared → Prop), i < n → J i ys news' → P i v → LCg.NsObj oC m₂ → m₂ x = some v → Fr h₀ L h m → News h₀ L h ((I, oI) :: (C, oC) :: (D, LCg.lst ys) :: news') → LCg.Off3 I C D news' → ((@Ne Nat I C) ∧ (@Ne Nat I D) ∧ (@Ne Nat C D)) →
      wpAny (model prog w) A (eval elt (compEnvC scope cl C env)) (LCg.CompEnd h₀ L m { s with heap := h, toks := tk } I oI C oC D (LCg.lst ys) S (fun y news'' => J (i + 1) (ys ++ [y]) news'')) E' { s with heap := h, toks := tk })
    (fin : ∀ ys news', J n ys news' → Fin ys news') : LCg.CompRest prog w A h₀ L m env elt x scope cl s S P Fin n 0 [] news := by
  have key : ∀ (j i : Nat) (ys : List Value) (news' : List (Addr × Obj)), i + j = n → J i ys news' → LCg.CompRest prog w A h₀ L m env elt x scope cl s S P Fin j i ys news' := by
    intro j
    induction j with
    | zero => intro i ys news' hi hJ; rw [Nat.add_zero] at hi; exact LCg.CompRest.zero (fin ys news' (by rw [← hi]; exact hJ))
    | succ j ih =>
      intro i ys news' hi hJ
      refine LCg.CompRest.succ ?_
      intro v I oI C oC D m₂ h tk E' hv hC hx F N off ne
      refine wpAny_mono (turn i v I oI C oC D m₂ ys news' h tk E' (by omega) hJ hv hC hx F N off ne) (fun y s₂ hq => ?_) fun _ _ e => e
      obtain ⟨h', tk', nw, e, F', N', off', hS, hG⟩ := hq
      exact ⟨h', tk', nw, e, F', N', off', hS, ih (i + 1) _ nw (by omega) hG⟩
  exact key n 0 [] news (by omega) h0
end
inductive TokJ (w : World) (ds : Nat → Int) (r : Nat → List Str) (dx st pb left : Addr) (n1 : Nat) (R0 : List (Addr × Obj)) (i : Nat) (ys : List Value) (news : List (Addr × Obj)) : Prop
  | mk (a1 : Tok) (a2 : Tok) (a3 : Tok) (a4 : Tok) (a5 : Tok) (a6 : Tok) (ln : Int) (n : Nat) (yl : List Value) (zz1 : news = (dx, dictOf (lexD w a1 a2 a3 a4 a5 a6 ln (.ref st) (.ref pb)) 4) :: (left, PySem.W.listOf (List.toArray yl) n) :: (pb, PySem.W.listOf (List.toArray []) n1) :: R0) (zz2 : StrsAre yl (r i)) (zz3 : ln + nl (r i) = 3) (zz4 : 0 ≤ ln) (zz5 : StrsAre ys ((List.range i).map (tkW ds))) : TokJ w ds r dx st pb left n1 R0 i ys news
inductive QueJ (w : World) (P : List Str) (dx st pb left : Addr) (R0 : List (Addr × Obj)) (i : Nat) (ys : List Value) (news : List (Addr × Obj)) : Prop
  | mk (a1 : Tok) (a2 : Tok) (a3 : Tok) (a4 : Tok) (a5 : Tok) (a6 : Tok) (ln : Int) (n : Nat) (n1 : Nat) (pv : List Value) (zz1 : news = (dx, dictOf (lexD w a1 a2 a3 a4 a5 a6 ln (.ref st) (.ref pb)) 4) :: (left, PySem.W.listOf (List.toArray []) n) :: (pb, PySem.W.listOf (List.toArray pv) n1) :: R0) (zz2 : StrsAre pv (P.drop i)) (zz3 : 0 ≤ ln) (zz4 : ln ≤ 900) (zz5 : StrsAre ys ((List.range i).map fun k => P.getD k (Str.ofString ""))) : QueJ w P dx st pb left R0 i ys news
section
variable {mg mb : Str → Option Value} {mean : ExcName → Option Value} {loose : List Str} {dp un : Nat} {gd : Option (List Code)} {cn : Str} {cs : Scope} {a : Addr} {ccd : Value} {cl : List (Str × Addr)} {outer : List Env} {A₀ : Around} {base h₀ : Heap} {L : Addr} {m : Str → Option Value} {s : Shared} {Q E : Value → Shared → Prop}
theorem c_tokJ {x dx pb st left I C D : Addr} {oI oC : Obj} {n1 i : Nat} {R0 news : List (Addr × Obj)} {ys : List Value} {ds : Nat → Int} {r : Nat → List Str} (H : Lex w x dx st left R0) (K : Toks ds r) (hi : i < 6)
    (B : Below A₀ base outer h₀) (F : Fr h₀ L s.heap m) (X : (hd.heap_1 w.params).In h₀) (N : News h₀ L s.heap ((I, oI) :: (C, oC) :: (D, LCg.lst ys) :: news)) (T : Top topProg loose mean mg mb h₀) (hk : cs.kind = .function) (h1 : dp ≤ 325) (h2 : un ≤ 150)
    (hdl : @Ne Nat dx left) (hpd : @Ne Nat pb dx) (hpl : @Ne Nat pb left) (offl : ∀ p ∈ R0, p.1 ≠ left) (offd : ∀ p ∈ R0, p.1 ≠ dx) (off : LCg.Off3 I C D news) (hJ : TokJ w ds r dx st pb left n1 R0 i ys news)
    (ret : ∀ t news' h' tk', TokJ w ds r dx st pb left n1 R0 (i + 1) (ys ++ [.str (tkW ds i) t]) news' → LCg.Off3 I C D news' → Fr h₀ L h' m → News h₀ L h' ((I, oI) :: (C, oC) :: (D, LCg.lst ys) :: news') → Q (.str (tkW ds i) t) { s with heap := h', toks := tk' }) :
    wpAny (model PySem.Challenge.rw_xo0026_01.row.prog w) (ktrTop dp un gd cn cs L a ccd cl outer) (call (.ref 78) [.ref x]) Q E s := by
  obtain ⟨a1, a2, a3, a4, a5, a6, ln, n, yl, rfl, hy, hln, h0, hys⟩ := hJ
  obtain ⟨o1, o2, o3, o4⟩ := off
  have o4' := LCg.Off3.mem o4
  refine c_token (a1 := a1) (a2 := a2) (a3 := a3) (a4 := a4) (a5 := a5) (a6 := a6) (pb := pb) (n := n) (n1 := n1) (fix := (I, oI) :: (C, oC) :: (D, LCg.lst ys) :: R0) (ys := yl) (cs' := r i) (ln := ln) (K := 3) (tokF := tkW ds i) (restF := r (i + 1)) (H.mono fun p hp => .tail _ (.tail _ (.tail _ hp))) B F X (fun p hp => N p ?_) T hk h1 h2 hdl hpd hpl
    (List.forall_mem_cons.mpr ⟨Ne.symm o2.1, List.forall_mem_cons.mpr ⟨Ne.symm o2.2.1, List.forall_mem_cons.mpr ⟨Ne.symm o2.2.2, offl⟩⟩⟩) (List.forall_mem_cons.mpr ⟨Ne.symm o1.1, List.forall_mem_cons.mpr ⟨Ne.symm o1.2.1, List.forall_mem_cons.mpr ⟨Ne.symm o1.2.2, offd⟩⟩⟩)
    hy (K.len i (by omega)) (K.one i (by omega)) h0 hln (by decide) (K.tk i hi) fun t a1 a2 a3 a4 a5 a6 n ys' ln' h' tk' hy' hln' h0' F' N' => ?_
  · revert p; k_extra "subl"
  · refine ret t ((dx, dictOf (lexD w a1 a2 a3 a4 a5 a6 ln' (.ref st) (.ref pb)) 4) :: (left, PySem.W.listOf (List.toArray ys') n) :: (pb, PySem.W.listOf (List.toArray []) n1) :: R0) h' tk' ⟨a1, a2, a3, a4, a5, a6, ln', n, ys', rfl, hy', hln', h0', ?_⟩ ⟨o1, o2, o3, o4⟩ F' (fun p hp => N' p ?_)
    · rw [List.range_succ, List.map_append]
      exact hys.append' (.cons _ _ .nil)
    · revert p; k_extra "subl"
theorem c_queJ {x dx pb st left I C D : Addr} {oI oC : Obj} {i : Nat} {R0 news : List (Addr × Obj)} {ys : List Value} {P : List Str} (H : Lex w x dx st left R0) (hP : P.length = 5) (hi : i < 6)
    (B : Below A₀ base outer h₀) (F : Fr h₀ L s.heap m) (X : (hd.heap_1 w.params).In h₀) (N : News h₀ L s.heap ((I, oI) :: (C, oC) :: (D, LCg.lst ys) :: news)) (T : Top topProg loose mean mg mb h₀) (hk : cs.kind = .function) (h1 : dp ≤ 325) (h2 : un ≤ 150)
    (hdl : @Ne Nat dx left) (hpd : @Ne Nat pb dx) (hpl : @Ne Nat pb left) (offl : ∀ p ∈ R0, p.1 ≠ left) (offd : ∀ p ∈ R0, p.1 ≠ dx) (offp : ∀ p ∈ R0, p.1 ≠ pb) (off : LCg.Off3 I C D news) (hJ : QueJ w P dx st pb left R0 i ys news)
    (ret : ∀ t news' h' tk', QueJ w P dx st pb left R0 (i + 1) (ys ++ [.str (P.getD i (Str.ofString "")) t]) news' → LCg.Off3 I C D news' → Fr h₀ L h' m → News h₀ L h' ((I, oI) :: (C, oC) :: (D, LCg.lst ys) :: news') → Q (.str (P.getD i (Str.ofString "")) t) { s with heap := h', toks := tk' }) :
    wpAny (model PySem.Challenge.rw_xo0026_01.row.prog w) (ktrTop dp un gd cn cs L a ccd cl outer) (call (.ref 78) [.ref x]) Q E s := by
  obtain ⟨a1, a2, a3, a4, a5, a6, ln, n, n1, pv, rfl, hpv, h0, h9, hys⟩ := hJ
  obtain ⟨o1, o2, o3, o4⟩ := off
  have o4' := LCg.Off3.mem o4
  by_cases h5 : i < 5
  · obtain ⟨y, hd, hg⟩ : ∃ y, P.drop i = y :: P.drop (i + 1) ∧ P.getD i (Str.ofString "") = y := ⟨P[i]'(by omega), List.drop_eq_getElem_cons (by omega), by rw [List.getD_eq_getElem?_getD, List.getElem?_eq_getElem (by omega)]; rfl⟩
    rw [hd] at hpv
    obtain ⟨t, pv', rfl, hpv'⟩ := strs_cons hpv
    have hlen := hpv'.len_eq
    rw [List.length_drop] at hlen
    rw [hg] at ret
    refine c_pop (a1 := a1) (a2 := a2) (a3 := a3) (a4 := a4) (a5 := a5) (a6 := a6) (vs := pv') (v := .str y t) (n := n1) (x := x) (dx := dx) (pb := pb) (st := st) (news := (dx, dictOf (lexD w a1 a2 a3 a4 a5 a6 ln (.ref st) (.ref pb)) 4) :: (left, PySem.W.listOf (List.toArray []) n) :: (I, oI) :: (C, oC) :: (D, LCg.lst ys) :: R0) (ln := ln) B F X (fun p hp => N p ?_) T hk (by omega) (by omega) (.tail _ (.tail _ (.tail _ (.tail _ (.tail _ H.inst))))) (.head _)
      (List.forall_mem_cons.mpr ⟨Ne.symm hpd, List.forall_mem_cons.mpr ⟨Ne.symm hpl, List.forall_mem_cons.mpr ⟨Ne.symm o3.1, List.forall_mem_cons.mpr ⟨Ne.symm o3.2.1, List.forall_mem_cons.mpr ⟨Ne.symm o3.2.2, offp⟩⟩⟩⟩⟩) (by omega) fun n' h' tk' F' N' => ?_
    · revert p; k_extra "subl"
    · refine ret t ((dx, dictOf (lexD w a1 a2 a3 a4 a5 a6 ln (.ref st) (.ref pb)) 4) :: (left, PySem.W.listOf (List.toArray []) n) :: (pb, PySem.W.listOf (List.toArray pv') n') :: R0) h' tk' ⟨a1, a2, a3, a4, a5, a6, ln, n, n', pv', rfl, hpv', h0, h9, ?_⟩ ⟨o1, o2, o3, o4⟩ F' (fun p hp => N' p ?_)
      · rw [List.range_succ, List.map_append, List.map_cons, List.map_nil, hg]
        exact hys.append' (.cons _ _ .nil)
      · revert p; k_extra "subl"
  · have e5 : i = 5 := by omega
    subst e5
    have hd : P.drop 5 = [] := by rw [← hP, List.drop_length]
    have hg : P.getD 5 (Str.ofString "") = Str.ofString "" := by rw [List.getD_eq_getElem?_getD, List.getElem?_eq_none (by omega)]; rfl
    rw [hd] at hpv
    cases hpv
    rw [hg] at ret
    refine c_token (a1 := a1) (a2 := a2) (a3 := a3) (a4 := a4) (a5 := a5) (a6 := a6) (pb := pb) (n := n) (n1 := n1) (fix := (I, oI) :: (C, oC) :: (D, LCg.lst ys) :: R0) (ys := []) (cs' := []) (ln := ln) (K := ln) (tokF := Str.ofString "") (restF := []) (H.mono fun p hp => .tail _ (.tail _ (.tail _ hp))) B F X (fun p hp => N p ?_) T hk h1 h2 hdl hpd hpl
      (List.forall_mem_cons.mpr ⟨Ne.symm o2.1, List.forall_mem_cons.mpr ⟨Ne.symm o2.2.1, List.forall_mem_cons.mpr ⟨Ne.symm o2.2.2, offl⟩⟩⟩) (List.forall_mem_cons.mpr ⟨Ne.symm o1.1, List.forall_mem_cons.mpr ⟨Ne.symm o1.2.1, List.forall_mem_cons.mpr ⟨Ne.symm o1.2.2, offd⟩⟩⟩)
      .nil (by decide) (fun c hc => nomatch hc) h0 (by show ln + 0 = ln; omega) h9 rfl fun t a1 a2 a3 a4 a5 a6 n ys' ln' h' tk' hy' hln' h0' F' N' => ?_
    · revert p; k_extra "subl"
    · have e : ln' = ln := by have : ln' + 0 = ln := hln'; omega
      subst e
      cases hy'
      refine ret t ((dx, dictOf (lexD w a1 a2 a3 a4 a5 a6 ln' (.ref st) (.ref pb)) 4) :: (left, PySem.W.listOf (List.toArray []) n) :: (pb, PySem.W.listOf (List.toArray []) n1) :: R0) h' tk' ⟨a1, a2, a3, a4, a5, a6, ln', n, n1, [], rfl, ?_, h0', h9, ?_⟩ ⟨o1, o2, o3, o4⟩ F' (fun p hp => N' p ?_)
      · rw [show P.drop (5 + 1) = [] from List.drop_eq_nil_of_le (by omega)]; exact .nil
      · rw [List.range_succ, List.map_append, List.map_cons, List.map_nil, hg]
        exact hys.append' (.cons _ _ .nil)
      · revert p; k_extra "subl"
end
section
variable {prog : Program} {A : Around} {E : Value → Shared → Prop} {s : Shared}
theorem strs_eq {ys zs : List Value} {l : List Str} (h1 : StrsAre ys l) : StrsAre zs l → ∀ j (a : j < ys.length) (b : j < zs.length), SeqAt.EqAt A.in1 s ys[j] zs[j] true := by
  induction h1 generalizing zs with
  | nil => intro _ j a; exact absurd a (Nat.not_lt_zero _)
  | cons x t _ ih =>
    intro h2 j a b
    obtain ⟨u, zs', rfl, h2'⟩ := strs_cons h2
    match j with
    | 0 =>
      have := SeqAt.EqAt.str_str (A := A.in1) (s := s) x t x u
      rw [beq_self_eq_true] at this
      exact this
    | j + 1 => exact ih h2' j (by simpa using a) (by simpa using b)
theorem all_true (n : Nat) : (List.range n).all (fun _ => true) = true := List.all_eq_true.mpr fun _ _ => rfl
theorem ne_strs {a b : Addr} {ys zs : List Value} {l : List Str} {Q : Value → Shared → Prop} (ha : s.heap.IsList a ys.toArray) (hb : s.heap.IsList b zs.toArray) (h1 : StrsAre ys l) (h2 : StrsAre zs l) (hu : A.units + 64 < cLine) (h : Q (.bool false) s) :
    wpAny (model prog w) A (compareOp .NotEq (.ref a) (.ref b)) Q E s := by
  have e1 := h1.len_eq
  have e2 := h2.len_eq
  refine SeqAt.RcNeAt.lists (e := fun _ => true) ha hb (by rw [List.size_toArray, List.size_toArray]; omega) (by omega) (fun j j1 j2 => ?_) prog w E Q ?_
  · have := strs_eq (A := A) (s := s) h1 h2 j (by simpa using j1) (by simpa using j2)
    simpa using this
  · rw [all_true]; exact h
theorem eq_strs {a b : Addr} {ys zs : List Value} {l : List Str} {Q : Value → Shared → Prop} (ha : s.heap.IsList a ys.toArray) (hb : s.heap.IsList b zs.toArray) (h1 : StrsAre ys l) (h2 : StrsAre zs l) (hu : A.units + 64 < cLine) (h : Q (.bool true) s) :
    wpAny (model prog w) A (compareOp .Eq (.ref a) (.ref b)) Q E s := by
  have e1 := h1.len_eq
  have e2 := h2.len_eq
  refine SeqAt.eq_listAt (e := fun _ => true) ha hb (by rw [List.size_toArray, List.size_toArray]; omega) (by omega) (fun j j1 j2 => ?_) ?_
  · have := strs_eq (A := A) (s := s) h1 h2 j (by simpa using j1) (by simpa using j2)
    simpa using this
  · rw [all_true]; exact h
end
theorem getD_dsL {ds : Nat → Int} {i : Nat} (hi : i < 5) : (dsL ds).getD i 0 = ds i := by
  have : i = 0 ∨ i = 1 ∨ i = 2 ∨ i = 3 ∨ i = 4 := by omega
  rcases this with rfl | rfl | rfl | rfl | rfl <;> rfl
theorem toks_ok (ds : Nat → Int) : ∃ r, Toks ds r := ⟨rOf (dsL ds), {
  r0 := r0_ok (dsL ds)
  tk := fun i hi => by
    rw [r_tok i hi]
    unfold tkW
    by_cases h : i < 5
    · rw [if_pos h, if_pos h, getD_dsL h]; rfl
    · rw [if_neg h, if_neg h]
  r6 := rfl
  nl0 := r_nl
  len := fun i _ => (r_len i).1
  one := fun i _ => (r_len i).2 }⟩
theorem hmF_I {ds : Nat → Int} {k : Nat} : hmF ds k = homeI k (((ds k).fdiv 5).fmod 5).toNat ((ds k).fmod 5).toNat := rfl
theorem wsF_I {ds : Nat → Int} {k : Nat} : wsF ds k = wordI 0 k (((ds k).fdiv 5).fmod 5).toNat ((ds k).fmod 5).toNat := rfl
theorem hre_ok (ds : Nat → Int) : ∀ i, i < 5 → reHit (wsF ds i) ≤ 1 ∧ (wsF ds i).length ≤ 1000 ∧ reachF (wsF ds i) = hmF ds i ∧ (hmF ds i).length ≤ 1000 := fun i hi => by
  have h1 := all125 word_all hi (lt5 (d := (ds i).fdiv 5)) (lt5 (d := ds i))
  have h2 := all125 hit_all hi (lt5 (d := (ds i).fdiv 5)) (lt5 (d := ds i))
  have h3 := all125 reach_all hi (lt5 (d := (ds i).fdiv 5)) (lt5 (d := ds i))
  simp only [Bool.and_eq_true] at h1 h2
  rw [hmF_I, wsF_I]
  exact ⟨Nat.le_of_ble_eq_true h2.1, Nat.le_trans (Nat.le_of_ble_eq_true h1.2.1) (by decide), of_decide_eq_true h3, Nat.le_trans (Nat.le_of_ble_eq_true h1.2.2.1) (by decide)⟩
theorem hdn_ok (ds : Nat → Int) : ∀ i, i < 5 → hdn (wsF ds i) = !(((ds i).fmod 5) == 2 || ((ds i).fmod 5) == 4) := fun i hi => by
  have h2 := all125 hit_all hi (lt5 (d := (ds i).fdiv 5)) (lt5 (d := ds i))
  simp only [Bool.and_eq_true] at h2
  rw [wsF_I, eq_of_beq h2.2]
  have h0 := Int.fmod_nonneg_of_pos (ds i) (show (0 : Int) < 5 by decide)
  generalize (ds i).fmod 5 = x at h0
  obtain ⟨n, rfl⟩ : ∃ n : Nat, x = n := ⟨x.toNat, by omega⟩
  rw [Int.toNat_natCast, Bool.eq_iff_iff]
  simp only [Bool.not_eq_true', Bool.or_eq_false_iff, beq_eq_false_iff_ne, ne_eq]
  omega
theorem inj_ok (ds : Nat → Int) : ∀ a b, a < 5 → b < 5 → wsF ds a = wsF ds b → a = b := fun a b ha hb h => by
  have h1 := all125 word_all ha (lt5 (d := (ds a).fdiv 5)) (lt5 (d := ds a))
  have h2 := all125 word_all hb (lt5 (d := (ds b).fdiv 5)) (lt5 (d := ds b))
  simp only [Bool.and_eq_true] at h1 h2
  have e1 := Nat.beq_eq.mp h1.1
  have e2 := Nat.beq_eq.mp h2.1
  rw [← wsF_I] at e1 e2
  rw [← e1, ← e2, h]
theorem vs_ok (ds : Nat → Int) : ∀ i, i < 5 → -1 ≤ vsF ds i ∧ vsF ds i ≤ 1 := fun i _ => by
  have h0 := Int.fmod_nonneg_of_pos ((ds i).fdiv 25) (show (0 : Int) < 3 by decide)
  have h1 := Int.fmod_lt_of_pos ((ds i).fdiv 25) (show (0 : Int) < 3 by decide)
  show -1 ≤ ((ds i).fdiv 25).fmod 3 - 1 ∧ ((ds i).fdiv 25).fmod 3 - 1 ≤ 1
  omega
theorem lit5I {f : Nat → Int} {t0 t1 t2 t3 t4 : Tok} {i : Nat} {v : Value} (h : (List.toArray [Value.int (f 0) t0, .int (f 1) t1, .int (f 2) t2, .int (f 3) t3, .int (f 4) t4])[i]? = some v) : ∃ t, v = .int (f i) t := by
  match i with
  | 0 => cases h; exact ⟨_, rfl⟩
  | 1 => cases h; exact ⟨_, rfl⟩
  | 2 => cases h; exact ⟨_, rfl⟩
  | 3 => cases h; exact ⟨_, rfl⟩
  | 4 => cases h; exact ⟨_, rfl⟩
  | k + 5 => simp at h
theorem five_intsT {ys : List Value} {f : Nat → Int} (h : ys.length = 5) (g : ∀ (i : Nat) y, ys[i]? = some y → ∃ t, y = Value.int (f i) t) : ∃ t : Nat → Tok, ys = [.int (f 0) (t 0), .int (f 1) (t 1), .int (f 2) (t 2), .int (f 3) (t 3), .int (f 4) (t 4)] := by
  obtain ⟨t0, t1, t2, t3, t4, rfl⟩ := five_ints h g
  exact ⟨fn5 t0 t1 t2 t3 t4, rfl⟩
theorem five_texts {ys : List Value} {f : Nat → Str} (h : ys.length = 5) (g : ∀ (i : Nat) y, ys[i]? = some y → ∃ t, y = Value.str (f i) t) : StrsAre ys ((List.range 5).map f) := by
  obtain ⟨t0, t1, t2, t3, t4, rfl⟩ := five_strs h g
  exact .cons _ _ (.cons _ _ (.cons _ _ (.cons _ _ (.cons _ _ .nil))))
section
variable {prog : Program} {A : Around} {E : Value → Shared → Prop} {s : Shared}
theorem home_pick {value slice : PySem.Expr} {l : Addr} {ds : Nat → Int} {k : Nat} {t0 t1 t2 t3 t4 u : Tok} {Q : Value → Shared → Prop} (hl : s.heap.IsList l (List.toArray [.str (Str.ofString ".x.y") t0, .str (Str.ofString ".local") t1, .str (wsF ds k) t2, .str (wsF ds k) t3, .str (wsF ds k) t4]))
    (h : ∀ t, Q (.str (hmF ds k) t) s) (hs : subscripted slice false (.ref l) (.int ((ds k).fmod 5) u) = operate [.ref l, .int ((ds k).fmod 5) u] (getItem (.ref l) (.int ((ds k).fmod 5) u))) :
    wpAny (model prog w) A (subscriptTail value slice (.ref l) (.int ((ds k).fmod 5) u)) Q E s := by
  have h0 := Int.fmod_nonneg_of_pos (ds k) (show (0 : Int) < 5 by decide)
  have h1 := Int.fmod_lt_of_pos (ds k) (show (0 : Int) < 5 by decide)
  exact KTb.item_list (ws := hmL ds k) hl (.cons _ _ (.cons _ _ (.cons _ _ (.cons _ _ (.cons _ _ .nil))))) h0 (by show _ < (5 : Int); exact h1) (by omega) (fun t _ => h t) hs
end
noncomputable def restOf (as : List Addr) (R : List (Addr × Obj)) : List (Addr × Obj) := R.filter fun p => as.all fun a => decide (p.1 ≠ a)
theorem restOf_mem {as : List Addr} {R : List (Addr × Obj)} {p : Addr × Obj} (h : p ∈ R) (hn : ∀ a ∈ as, p.1 ≠ a) : p ∈ restOf as R := List.mem_filter.mpr ⟨h, List.all_eq_true.mpr fun a ha => decide_eq_true (hn a ha)⟩
theorem restOf_off {as : List Addr} {R : List (Addr × Obj)} {a : Addr} (ha : a ∈ as) : ∀ p ∈ restOf as R, p.1 ≠ a := fun _ hp => of_decide_eq_true (List.all_eq_true.mp (List.mem_filter.mp hp).2 a ha)
theorem restOf_sub {as : List Addr} {R : List (Addr × Obj)} : ∀ p ∈ restOf as R, p ∈ R := fun _ hp => (List.mem_filter.mp hp).1
theorem bring9th {h₀ h : Heap} {L : Addr} {e1 e2 e3 e4 e5 e6 e7 e8 e9 : Addr × Obj} {r : List (Addr × Obj)} (N : News h₀ L h (e1 :: e2 :: e3 :: e4 :: e5 :: e6 :: e7 :: e8 :: e9 :: r)) : News h₀ L h (e9 :: e1 :: e2 :: e3 :: e4 :: e5 :: e6 :: e7 :: e8 :: r) := fun p hp => N p (by revert p; k_extra "subl")
theorem off1_of {a : Addr} : ∀ {l : List (Addr × Obj)}, (∀ p ∈ l, p.1 ≠ a) → LCg.Off1 a l
  | [], _ => trivial
  | _ :: _, h => ⟨h _ (.head _), off1_of fun p hp => h p (.tail _ hp)⟩
theorem app_left {α : Type} {P : α → Prop} {a b : List α} (h : ∀ p ∈ a ++ b, P p) : ∀ p ∈ a, P p := fun p hp => h p (List.mem_append_left _ hp)
theorem app_right {α : Type} {P : α → Prop} {a b : List α} (h : ∀ p ∈ a ++ b, P p) : ∀ p ∈ b, P p := fun p hp => h p (List.mem_append_right _ hp)
theorem law_shape {h₀ h : Heap} {L : Addr} {a b c : Addr × Obj} {ex lit : List (Addr × Obj)} (N : News h₀ L h (a :: b :: c :: (ex ++ lit))) : News h₀ L h (a :: b :: c :: (lit ++ ex)) := fun p hp => N p (by
  revert p; k_extra "subl")
structure LawR (w : World) (R : List (Addr × Obj)) (Lz : Nat) (x dx st left pb H V W D : Addr) (oH oV oW oD oWd oDr : Obj) : Prop where
  lex : Lex w x dx st left R
  t224 : ∃ ps, (224, tabObj ps) ∈ R
  mH : (H, oH) ∈ R
  mV : (V, oV) ∈ R
  mW : (W, oW) ∈ R
  mD : (D, oD) ∈ R
  mWd : (Lz + 1 + 1, oWd) ∈ R
  mDr : (Lz + 1, oDr) ∈ R
  nLx : ∀ p ∈ R, p.1 ≠ (Lz + 1 + 1 + 1 : Nat)
  nKy : ∀ p ∈ R, p.1 ≠ (Lz + 1 + 1 + 1 + 1 : Nat)
  n260 : ∀ p ∈ R, p.1 ≠ 260
  n129 : ∀ p ∈ R, p.1 ≠ 129
  ndx : ∀ p ∈ R, p.1 ≠ dx
  nleft : ∀ p ∈ R, p.1 ≠ left
  npb : ∀ p ∈ R, p.1 ≠ pb
structure HeadsR (Lz : Nat) (dx left pb : Addr) : Prop where
  d1 : @Ne Nat dx (Lz + 1 + 1 + 1) ∧ @Ne Nat dx (Lz + 1 + 1 + 1 + 1) ∧ @Ne Nat dx 260 ∧ @Ne Nat dx 129
  l1 : @Ne Nat left (Lz + 1 + 1 + 1) ∧ @Ne Nat left (Lz + 1 + 1 + 1 + 1) ∧ @Ne Nat left 260 ∧ @Ne Nat left 129
  p1 : @Ne Nat pb (Lz + 1 + 1 + 1) ∧ @Ne Nat pb (Lz + 1 + 1 + 1 + 1) ∧ @Ne Nat pb 260 ∧ @Ne Nat pb 129
theorem law_ledger {h₀ h : Heap} {Lz : Nat} {x dx st left pb H V W D : Addr} {odx ol op oH oV oW oD oKy oLx oWd oDr o260 o129 : Obj} {ex : List (Addr × Obj)}
    (N : News h₀ Lz h ((dx, odx) :: (left, ol) :: (pb, op) :: (ex ++ [(H, oH), (V, oV), (W, oW), (D, oD), (Lz + 1 + 1 + 1 + 1, oKy), (Lz + 1 + 1 + 1, oLx), (Lz + 1 + 1, oWd), (Lz + 1, oDr), (260, o260), (129, o129)])))
    (ll : @LT.lt Nat _ 224 Lz ∧ @LT.lt Nat _ 260 Lz ∧ @LT.lt Nat _ 129 Lz)
    (oD1 : (@Ne Nat (Lz + 1 + 1 + 1 + 1) D) ∧ (@Ne Nat (Lz + 1 + 1 + 1) D) ∧ (@Ne Nat (Lz + 1 + 1) D) ∧ (@Ne Nat (Lz + 1) D) ∧ (@Ne Nat 224 D) ∧ (@Ne Nat 260 D) ∧ (@Ne Nat 129 D))
    (oW1 : (@Ne Nat D W) ∧ (@Ne Nat (Lz + 1 + 1 + 1 + 1) W) ∧ (@Ne Nat (Lz + 1 + 1 + 1) W) ∧ (@Ne Nat (Lz + 1 + 1) W) ∧ (@Ne Nat (Lz + 1) W) ∧ (@Ne Nat 224 W) ∧ (@Ne Nat 260 W) ∧ (@Ne Nat 129 W))
    (oV1 : (@Ne Nat W V) ∧ (@Ne Nat D V) ∧ (@Ne Nat (Lz + 1 + 1 + 1 + 1) V) ∧ (@Ne Nat (Lz + 1 + 1 + 1) V) ∧ (@Ne Nat (Lz + 1 + 1) V) ∧ (@Ne Nat (Lz + 1) V) ∧ (@Ne Nat 224 V) ∧ (@Ne Nat 260 V) ∧ (@Ne Nat 129 V))
    (oH1 : (@Ne Nat V H) ∧ (@Ne Nat W H) ∧ (@Ne Nat D H) ∧ (@Ne Nat (Lz + 1 + 1 + 1 + 1) H) ∧ (@Ne Nat (Lz + 1 + 1 + 1) H) ∧ (@Ne Nat (Lz + 1 + 1) H) ∧ (@Ne Nat (Lz + 1) H) ∧ (@Ne Nat 224 H) ∧ (@Ne Nat 260 H) ∧ (@Ne Nat 129 H))
    (e2 : ∀ p ∈ ex, ∀ q ∈ [(H, oH), (V, oV), (W, oW), (D, oD), (Lz + 1 + 1 + 1 + 1, oKy), (Lz + 1 + 1 + 1, oLx), (Lz + 1 + 1, oWd), (Lz + 1, oDr), (260, o260), (129, o129)], q.1 ≠ p.1)
    (e3 : ∀ p ∈ ex ++ [(H, oH), (V, oV), (W, oW), (D, oD), (Lz + 1 + 1 + 1 + 1, oKy), (Lz + 1 + 1 + 1, oLx), (Lz + 1 + 1, oWd), (Lz + 1, oDr), (260, o260), (129, o129)], p.1 ≠ pb)
    (e4 : ∀ p ∈ ex ++ [(H, oH), (V, oV), (W, oW), (D, oD), (Lz + 1 + 1 + 1 + 1, oKy), (Lz + 1 + 1 + 1, oLx), (Lz + 1 + 1, oWd), (Lz + 1, oDr), (260, o260), (129, o129)], p.1 ≠ dx)
    (e5 : ∀ p ∈ ex ++ [(H, oH), (V, oV), (W, oW), (D, oD), (Lz + 1 + 1 + 1 + 1, oKy), (Lz + 1 + 1 + 1, oLx), (Lz + 1 + 1, oWd), (Lz + 1, oDr), (260, o260), (129, o129)], p.1 ≠ left)
    (hLex : Lex w x dx st left ex) (h224 : ∃ ps, (224, tabObj ps) ∈ ex) :
    ∃ R, News h₀ Lz h ((dx, odx) :: (left, ol) :: (pb, op) :: (Lz + 1 + 1 + 1, oLx) :: (Lz + 1 + 1 + 1 + 1, oKy) :: (260, o260) :: (129, o129) :: R) ∧ LawR w R Lz x dx st left pb H V W D oH oV oW oD oWd oDr ∧ HeadsR Lz dx left pb := by
  have f3 := off1_of (app_right e3)
  have f4 := off1_of (app_right e4)
  have f5 := off1_of (app_right e5)
  simp only [LCg.Off1, and_true] at f3 f4 f5
  have ne : ∀ {x y : Nat}, x ≠ y → @Ne Addr x y := fun h => h
  have keep : ∀ {p : Addr × Obj}, p ∈ ex ++ [(H, oH), (V, oV), (W, oW), (D, oD), (Lz + 1 + 1 + 1 + 1, oKy), (Lz + 1 + 1 + 1, oLx), (Lz + 1 + 1, oWd), (Lz + 1, oDr), (260, o260), (129, o129)] → @Ne Nat p.1 (Lz + 1 + 1 + 1) → @Ne Nat p.1 (Lz + 1 + 1 + 1 + 1) → @Ne Nat p.1 260 → @Ne Nat p.1 129 →
      p ∈ restOf [(Lz + 1 + 1 + 1 : Nat), (Lz + 1 + 1 + 1 + 1 : Nat), 260, 129] (ex ++ [(H, oH), (V, oV), (W, oW), (D, oD), (Lz + 1 + 1 + 1 + 1, oKy), (Lz + 1 + 1 + 1, oLx), (Lz + 1 + 1, oWd), (Lz + 1, oDr), (260, o260), (129, o129)]) := fun hp n1 n2 n3 n4 => restOf_mem hp (by
    intro a ha
    simp only [List.mem_cons, List.not_mem_nil, or_false] at ha
    rcases ha with rfl | rfl | rfl | rfl
    · exact n1
    · exact n2
    · exact n3
    · exact n4)
  have kex : ∀ p ∈ ex, p ∈ restOf [(Lz + 1 + 1 + 1 : Nat), (Lz + 1 + 1 + 1 + 1 : Nat), 260, 129] (ex ++ [(H, oH), (V, oV), (W, oW), (D, oD), (Lz + 1 + 1 + 1 + 1, oKy), (Lz + 1 + 1 + 1, oLx), (Lz + 1 + 1, oWd), (Lz + 1, oDr), (260, o260), (129, o129)]) := fun p hp => by
    refine keep (List.mem_append_left _ hp) (fun e => e2 p hp (Lz + 1 + 1 + 1, oLx) (by repeat (first | exact List.Mem.head _ | refine List.Mem.tail _ ?_)) e.symm) (fun e => e2 p hp (Lz + 1 + 1 + 1 + 1, oKy) (by repeat (first | exact List.Mem.head _ | refine List.Mem.tail _ ?_)) e.symm) (fun e => e2 p hp (260, o260) (by repeat (first | exact List.Mem.head _ | refine List.Mem.tail _ ?_)) e.symm) (fun e => e2 p hp (129, o129) (by repeat (first | exact List.Mem.head _ | refine List.Mem.tail _ ?_)) e.symm)
  obtain ⟨ps, hps⟩ := h224
  obtain ⟨i1, i2, i3⟩ := ll
  refine ⟨restOf [(Lz + 1 + 1 + 1 : Nat), (Lz + 1 + 1 + 1 + 1 : Nat), 260, 129] (ex ++ [(H, oH), (V, oV), (W, oW), (D, oD), (Lz + 1 + 1 + 1 + 1, oKy), (Lz + 1 + 1 + 1, oLx), (Lz + 1 + 1, oWd), (Lz + 1, oDr), (260, o260), (129, o129)]), fun p hp => N p ?_, ⟨hLex.mono kex, ⟨ps, kex _ hps⟩,
    keep (List.mem_append_right _ (by repeat (first | exact List.Mem.head _ | refine List.Mem.tail _ ?_))) (Ne.symm oH1.2.2.2.2.1) (Ne.symm oH1.2.2.2.1) (Ne.symm oH1.2.2.2.2.2.2.2.2.1) (Ne.symm oH1.2.2.2.2.2.2.2.2.2),
    keep (List.mem_append_right _ (by repeat (first | exact List.Mem.head _ | refine List.Mem.tail _ ?_))) (Ne.symm oV1.2.2.2.1) (Ne.symm oV1.2.2.1) (Ne.symm oV1.2.2.2.2.2.2.2.1) (Ne.symm oV1.2.2.2.2.2.2.2.2),
    keep (List.mem_append_right _ (by repeat (first | exact List.Mem.head _ | refine List.Mem.tail _ ?_))) (Ne.symm oW1.2.2.1) (Ne.symm oW1.2.1) (Ne.symm oW1.2.2.2.2.2.2.1) (Ne.symm oW1.2.2.2.2.2.2.2),
    keep (List.mem_append_right _ (by repeat (first | exact List.Mem.head _ | refine List.Mem.tail _ ?_))) (Ne.symm oD1.2.1) (Ne.symm oD1.1) (Ne.symm oD1.2.2.2.2.2.1) (Ne.symm oD1.2.2.2.2.2.2),
    keep (List.mem_append_right _ (by repeat (first | exact List.Mem.head _ | refine List.Mem.tail _ ?_))) (by show Lz + 1 + 1 ≠ _; omega) (by show Lz + 1 + 1 ≠ _; omega) (by show Lz + 1 + 1 ≠ _; omega) (by show Lz + 1 + 1 ≠ _; omega),
    keep (List.mem_append_right _ (by repeat (first | exact List.Mem.head _ | refine List.Mem.tail _ ?_))) (by show Lz + 1 ≠ _; omega) (by show Lz + 1 ≠ _; omega) (by show Lz + 1 ≠ _; omega) (by show Lz + 1 ≠ _; omega),
    restOf_off (by repeat (first | exact List.Mem.head _ | refine List.Mem.tail _ ?_)), restOf_off (by repeat (first | exact List.Mem.head _ | refine List.Mem.tail _ ?_)), restOf_off (by repeat (first | exact List.Mem.head _ | refine List.Mem.tail _ ?_)), restOf_off (by repeat (first | exact List.Mem.head _ | refine List.Mem.tail _ ?_)), fun p hp => e4 p (restOf_sub p hp), fun p hp => e5 p (restOf_sub p hp), fun p hp => e3 p (restOf_sub p hp)⟩,
    ⟨⟨Ne.symm f4.2.2.2.2.2.1, Ne.symm f4.2.2.2.2.1, Ne.symm f4.2.2.2.2.2.2.2.2.1, Ne.symm f4.2.2.2.2.2.2.2.2.2⟩, ⟨Ne.symm f5.2.2.2.2.2.1, Ne.symm f5.2.2.2.2.1, Ne.symm f5.2.2.2.2.2.2.2.2.1, Ne.symm f5.2.2.2.2.2.2.2.2.2⟩, ⟨Ne.symm f3.2.2.2.2.2.1, Ne.symm f3.2.2.2.2.1, Ne.symm f3.2.2.2.2.2.2.2.2.1, Ne.symm f3.2.2.2.2.2.2.2.2.2⟩⟩⟩
  simp only [List.mem_cons, List.mem_append] at hp ⊢
  rcases hp with h | h | h | h | h | h | h | h
  · simp [h]
  · simp [h]
  · simp [h]
  · simp [h]
  · simp [h]
  · simp [h]
  · simp [h]
  · have := restOf_sub p h
    simp only [List.mem_append, List.mem_cons] at this
    exact .inr (.inr (.inr this))
theorem lit_224 {Lz : Nat} {H V W D : Addr} {oH oV oW oD oKy oLx oWd oDr o260 o129 : Obj} (ll : @LT.lt Nat _ 224 Lz ∧ @LT.lt Nat _ 260 Lz ∧ @LT.lt Nat _ 129 Lz)
    (oD1 : (@Ne Nat (Lz + 1 + 1 + 1 + 1) D) ∧ (@Ne Nat (Lz + 1 + 1 + 1) D) ∧ (@Ne Nat (Lz + 1 + 1) D) ∧ (@Ne Nat (Lz + 1) D) ∧ (@Ne Nat 224 D) ∧ (@Ne Nat 260 D) ∧ (@Ne Nat 129 D))
    (oW1 : (@Ne Nat D W) ∧ (@Ne Nat (Lz + 1 + 1 + 1 + 1) W) ∧ (@Ne Nat (Lz + 1 + 1 + 1) W) ∧ (@Ne Nat (Lz + 1 + 1) W) ∧ (@Ne Nat (Lz + 1) W) ∧ (@Ne Nat 224 W) ∧ (@Ne Nat 260 W) ∧ (@Ne Nat 129 W))
    (oV1 : (@Ne Nat W V) ∧ (@Ne Nat D V) ∧ (@Ne Nat (Lz + 1 + 1 + 1 + 1) V) ∧ (@Ne Nat (Lz + 1 + 1 + 1) V) ∧ (@Ne Nat (Lz + 1 + 1) V) ∧ (@Ne Nat (Lz + 1) V) ∧ (@Ne Nat 224 V) ∧ (@Ne Nat 260 V) ∧ (@Ne Nat 129 V))
    (oH1 : (@Ne Nat V H) ∧ (@Ne Nat W H) ∧ (@Ne Nat D H) ∧ (@Ne Nat (Lz + 1 + 1 + 1 + 1) H) ∧ (@Ne Nat (Lz + 1 + 1 + 1) H) ∧ (@Ne Nat (Lz + 1 + 1) H) ∧ (@Ne Nat (Lz + 1) H) ∧ (@Ne Nat 224 H) ∧ (@Ne Nat 260 H) ∧ (@Ne Nat 129 H)) :
    ∀ p ∈ [(H, oH), (V, oV), (W, oW), (D, oD), ((Lz + 1 + 1 + 1 + 1 : Nat), oKy), ((Lz + 1 + 1 + 1 : Nat), oLx), ((Lz + 1 + 1 : Nat), oWd), ((Lz + 1 : Nat), oDr), (260, o260), (129, o129)], p.1 ≠ 224 := by
  obtain ⟨i1, i2, i3⟩ := ll
  have ne : ∀ {x y : Nat}, x ≠ y → @Ne Addr x y := fun h => h
  exact List.forall_mem_cons.mpr ⟨Ne.symm oH1.2.2.2.2.2.2.2.1, List.forall_mem_cons.mpr ⟨Ne.symm oV1.2.2.2.2.2.2.1, List.forall_mem_cons.mpr ⟨Ne.symm oW1.2.2.2.2.2.1, List.forall_mem_cons.mpr ⟨Ne.symm oD1.2.2.2.2.1, List.forall_mem_cons.mpr ⟨ne (by omega), List.forall_mem_cons.mpr ⟨ne (by omega), List.forall_mem_cons.mpr ⟨ne (by omega), List.forall_mem_cons.mpr ⟨ne (by omega), List.forall_mem_cons.mpr ⟨ne (by omega), List.forall_mem_cons.mpr ⟨ne (by omega), List.forall_mem_nil _⟩⟩⟩⟩⟩⟩⟩⟩⟩⟩
theorem TokJ.zero {ds : Nat → Int} {r : Nat → List Str} {dx st pb left : Addr} {n n1 : Nat} {R0 : List (Addr × Obj)} {a1 a2 a3 a4 a5 a6 : Tok} {ys : List Value} (K : Toks ds r) (hy : StrsAre ys (signs (text (dsL ds)))) :
    TokJ w ds r dx st pb left n1 R0 0 [] ((dx, dictOf (lexD w a1 a2 a3 a4 a5 a6 1 (.ref st) (.ref pb)) 4) :: (left, PySem.W.listOf (List.toArray ys) n) :: (pb, PySem.W.listOf (List.toArray []) n1) :: R0) :=
  ⟨a1, a2, a3, a4, a5, a6, 1, n, ys, rfl, by rw [K.r0]; exact hy, by rw [K.nl0]; rfl, by decide, .nil⟩
theorem six_tok {ds : Nat → Int} {t0 t1 t2 t3 t4 t5 : Tok} : StrsAre [.str (wsF ds 0) t0, .str (wsF ds 1) t1, .str (wsF ds 2) t2, .str (wsF ds 3) t3, .str (wsF ds 4) t4, .str (Str.ofString "") t5] ((List.range 6).map (tkW ds)) :=
  .cons _ _ (.cons _ _ (.cons _ _ (.cons _ _ (.cons _ _ (.cons _ _ .nil)))))
noncomputable def boolT (b : Bool) : Str := if b then Str.ofString "True" else Str.ofString "False"
theorem isT {b : Bool} {u : Tok} : ∃ t, Value.str (if b = true then Str.ofString "True" else Str.ofString "False") u = Value.str (boolT b) t := ⟨u, rfl⟩
theorem notin_T {b : Bool} {d : Int} {u : Tok} (h : b = !(d == 2 || d == 4)) : ∃ t, Value.str (if (![2, 4].any fun x => x == d) = true then Str.ofString "True" else Str.ofString "False") u = Value.str (boolT b) t := by
  refine ⟨u, ?_⟩
  have e : (![2, 4].any fun x => x == d) = b := by
    rw [h, List.any_cons, List.any_cons, List.any_nil, Bool.or_false]
    congr 1
    rw [Bool.eq_iff_iff]
    simp only [Bool.or_eq_true, beq_iff_eq]
    omega
  rw [e]; rfl
theorem newsPick {h₀ h : Heap} {L : Addr} {all r : List (Addr × Obj)} {e : Addr × Obj} (N : News h₀ L h all) (he : e ∈ all) (hr : News h₀ L h r) : News h₀ L h (e :: r) := fun p hp => by
  rcases List.mem_cons.mp hp with rfl | hp
  · exact N _ he
  · exact hr p hp
theorem newsPart {h₀ h : Heap} {L : Addr} {all r : List (Addr × Obj)} (N : News h₀ L h all) (hr : ∀ p ∈ r, p ∈ all) : News h₀ L h r := fun p hp => N p (hr p hp)
theorem newsFn {h₀ h : Heap} {L : Addr} {all : List (Addr × Obj)} {p q : Addr × Obj} (N : News h₀ L h all) (hp : p ∈ all) (hq : q ∈ all) (e : p.1 = q.1) : p.2 = q.2 := by
  have h1 := (N p hp).1
  rw [e, (N q hq).1] at h1
  exact (Option.some.inj h1).symm
theorem keep_cell {h₀ h : Heap} {L c : Addr} {oc : Obj} {v : Option Value} {R : List (Addr × Obj)} (N : News h₀ L h R) (hc : (c, oc) ∈ R) (dc : oc.data = .cell v) {p : Addr × Obj} (hp : p ∈ R) (hd : ∀ u, p.2.data ≠ .cell u) : p ∈ restOf [c] R :=
  restOf_mem hp fun a ha e => by
    rw [List.mem_singleton.mp ha] at e
    have := newsFn N hp hc e
    exact hd v (by rw [this, dc])
theorem keep_tab {h₀ h : Heap} {L c : Addr} {ps : Array Value} {R : List (Addr × Obj)} (N : News h₀ L h R) (hc : (c, tabObj ps) ∈ R) {p : Addr × Obj} (hp : p ∈ R) (hd : ∀ u, p.2.data ≠ .fields u) : p ∈ restOf [c] R :=
  restOf_mem hp fun a ha e => by
    rw [List.mem_singleton.mp ha] at e
    have := newsFn N hp hc e
    exact hd ps (by rw [this])
theorem pull1 {h₀ h : Heap} {L c : Addr} {oc : Obj} {R : List (Addr × Obj)} (N : News h₀ L h R) (hc : (c, oc) ∈ R) : News h₀ L h ((c, oc) :: restOf [c] R) := newsPick N hc (newsPart N restOf_sub)
theorem Cal.keep {R R' : List (Addr × Obj)} {kvs : List (Str × Value)} {cs : List (Str × Int × Int)} (h : Cal R kvs cs) (k : ∀ p ∈ R, (∀ u, p.2.data ≠ .cell u) → p ∈ R') : Cal R' kvs cs := by
  induction h with
  | nil => exact .nil
  | cons h _ ih => exact .cons (k _ h fun u e => nomatch e) ih
theorem dict_cell {prog : Program} {K : Type} [DecidableEq K] {knd : KeyKind prog w K} {o : Obj} {kvs : List (K × Value)} (h : o.IsDictOf knd kvs) : ∀ u, o.data ≠ .cell u := by
  obtain ⟨es, ep, _, hd, _⟩ := h
  intro u e
  rw [hd] at e; cases e
theorem Book.keep {R R' : List (Addr × Obj)} {b : Nat} {kvs : List (Str × Value)} {bs : List (Str × Entry)} (h : Book w R b kvs bs) (k : ∀ p ∈ R, (∀ u, p.2.data ≠ .cell u) → p ∈ R') : Book w R' b kvs bs := by
  induction h with
  | nil => exact .nil
  | cons hR hD dD cD lo hz _ ih => exact .cons (k _ hR fun u e => nomatch e) (k _ hD (dict_cell dD)) dD (cD.keep k) lo hz ih
theorem KeysAt.keep {R R' : List (Addr × Obj)} {K : Addr} {kA kB : Nat → Int} (h : KeysAt R K kA kB) (k : ∀ p ∈ R, (∃ vs n, p.2 = PySem.W.listOf vs n) → p ∈ R') : KeysAt R' K kA kB := by
  obtain ⟨Kf, n, h1, h2⟩ := h
  refine ⟨Kf, n, k _ h1 ⟨_, _, rfl⟩, fun i hi => ?_⟩
  obtain ⟨t, u, n', h3⟩ := h2 i hi
  exact ⟨t, u, n', k _ h3 ⟨_, _, rfl⟩⟩
theorem keys_pull {h₀ h : Heap} {L K dx left pb bk : Addr} {Lz : Nat} {kA kB : Nat → Int} {R R1 R3 : List (Addr × Obj)} {oKy oLx odx ol op ob3 o129 : Obj} {kb3 : List (Str × Value)} {bs : List (Str × Entry)}
    (N : News h₀ L h R) (hK : KeysAt R K kA kB) (sub : ∀ p ∈ (pb, op) :: (bk, ob3) :: (129, o129) :: R3, p ∈ R) (sub1 : ∀ p ∈ R1, p ∈ R3) (mKy : ((Lz + 1 + 1 + 1 + 1 : Nat), oKy) ∈ R3) (mLx : ((Lz + 1 + 1 + 1 : Nat), oLx) ∈ R3) (mdx : (dx, odx) ∈ R3) (mleft : (left, ol) ∈ R3) (m260 : (260, tabObj #[]) ∈ R3)
    (hB : Book w R3 16 kb3 bs) (hob : ob3.IsDictOf (PySem.strKind PySem.Challenge.rw_xo0026_01.row.prog w) kb3) (dKy : oKy.data = .cell none) (nKy1 : ∀ p ∈ R1, p.1 ≠ (Lz + 1 + 1 + 1 + 1 : Nat)) (H : HeadsR Lz dx left pb) (ll : @LT.lt Nat _ 224 Lz ∧ @LT.lt Nat _ 260 Lz ∧ @LT.lt Nat _ 129 Lz) :
    ∃ R', News h₀ L h (((Lz + 1 + 1 + 1 + 1 : Nat), oKy) :: R') ∧ (∀ p ∈ R', p.1 ≠ (Lz + 1 + 1 + 1 + 1 : Nat)) ∧ KeysAt R' K kA kB ∧ Book w R' 16 kb3 bs ∧ (∀ p ∈ R1, p ∈ R') ∧ (dx, odx) ∈ R' ∧ (left, ol) ∈ R' ∧ (pb, op) ∈ R' ∧ (bk, ob3) ∈ R' ∧ (260, tabObj #[]) ∈ R' ∧ (129, o129) ∈ R' ∧ ((Lz + 1 + 1 + 1 : Nat), oLx) ∈ R' := by
  have s3 : ∀ p ∈ R3, p ∈ R := fun p hp => sub p (.tail _ (.tail _ (.tail _ hp)))
  have hc := s3 _ mKy
  have k : ∀ p ∈ R, (∀ u, p.2.data ≠ .cell u) → p ∈ restOf [(Lz + 1 + 1 + 1 + 1 : Nat)] R := fun p hp hd => keep_cell N hc dKy hp hd
  have one : ∀ {p : Addr × Obj}, p ∈ R → @Ne Nat p.1 (Lz + 1 + 1 + 1 + 1) → p ∈ restOf [(Lz + 1 + 1 + 1 + 1 : Nat)] R := fun hp hn => restOf_mem hp fun a ha => by rw [List.mem_singleton.mp ha]; exact hn
  refine ⟨restOf [(Lz + 1 + 1 + 1 + 1 : Nat)] R, pull1 N hc, restOf_off (by simp), hK.keep (fun p hp hl => k p hp (fun u e => by obtain ⟨vs, n, e2⟩ := hl; rw [e2] at e; cases e)),
    (hB.mono s3 (Nat.le_refl _)).keep k, fun p hp => one (s3 p (sub1 p hp)) (nKy1 p hp), one (s3 _ mdx) H.d1.2.1, one (s3 _ mleft) H.l1.2.1, one (sub _ (.head _)) H.p1.2.1, k _ (sub _ (.tail _ (.head _))) (dict_cell hob), one (s3 _ m260) ?_, one (sub _ (.tail _ (.tail _ (.head _)))) ?_, one (s3 _ mLx) ?_⟩
  · show @Ne Nat 260 _; omega
  · show @Ne Nat 129 _; omega
  · show @Ne Nat (Lz + 1 + 1 + 1) _; omega
theorem tab_pull {h₀ h : Heap} {L K Ky : Addr} {kA kB : Nat → Int} {R : List (Addr × Obj)} (N : News h₀ L h R) (hK : KeysAt R K kA kB) (h260 : (260, tabObj #[]) ∈ R) :
    ∃ R', News h₀ L h ((260, tabObj #[]) :: R') ∧ (∀ p ∈ R', p.1 ≠ 260) ∧ KeysAt R' K kA kB ∧ (∀ p ∈ R, p.1 ≠ 260 → p ∈ R') := by
  refine ⟨restOf [260] R, pull1 N h260, restOf_off (by simp), hK.keep fun p hp hl => keep_tab N h260 hp (fun u e => by obtain ⟨vs, n, e2⟩ := hl; rw [e2] at e; cases e), fun p hp hn => restOf_mem hp fun a ha => by rw [List.mem_singleton.mp ha]; exact hn⟩
theorem Book.look {R : List (Addr × Obj)} {b : Nat} {kvs : List (Str × Value)} {bs : List (Str × Entry)} (h : Book w R b kvs bs) {y : Str × Entry} : (kvs.map (·.1)).Nodup → y ∈ bs → ∃ T D o' kt g1 g2 g3 g4, valueAt kvs y.1 = some (.ref T) ∧
    (T, tupO [.int y.2.1 g1, .int y.2.2.1 g2, .int y.2.2.2.1 g3, .int y.2.2.2.2.1 g4, .ref D]) ∈ R ∧ (D, o') ∈ R ∧ o'.IsDictOf (PySem.strKind PySem.Challenge.rw_xo0026_01.row.prog w) kt ∧ Cal R kt y.2.2.2.2.2 ∧ (D == sysModules) = false := by
  induction h with
  | nil => intro _ hy; cases hy
  | @cons k T D o' kt cc nc tt ct cal g1 g2 g3 g4 kvs bs hR hD dD cD lo hz r ih =>
    intro hn hy
    have hn' := List.nodup_cons.mp (by simpa only [List.map_cons] using hn)
    rcases List.mem_cons.mp hy with rfl | hy
    · exact ⟨T, D, o', kt, g1, g2, g3, g4, by simp [valueAt], hR, hD, dD, cD, lo⟩
    · obtain ⟨T', D', o2, kt', a1, a2, a3, a4, e, q⟩ := ih hn'.2 hy
      refine ⟨T', D', o2, kt', a1, a2, a3, a4, ?_, q⟩
      have ne : k ≠ y.1 := fun e2 => hn'.1 (by rw [r.keys, e2]; exact List.mem_map_of_mem hy)
      have : valueAt ((k, Value.ref T) :: kvs) y.1 = valueAt kvs y.1 := by simp [valueAt, ne]
      rw [this]; exact e
theorem Book.entry {R : List (Addr × Obj)} {b : Nat} {kvs : List (Str × Value)} {bs : List (Str × Entry)} (h : Book w R b kvs bs) {k : Str} {v : Value} : (k, v) ∈ kvs → ∃ y ∈ bs, y.1 = k ∧ ∃ T D o' kt g1 g2 g3 g4, v = .ref T ∧
    (T, tupO [.int y.2.1 g1, .int y.2.2.1 g2, .int y.2.2.2.1 g3, .int y.2.2.2.2.1 g4, .ref D]) ∈ R ∧ (D, o') ∈ R ∧ o'.IsDictOf (PySem.strKind PySem.Challenge.rw_xo0026_01.row.prog w) kt ∧ Cal R kt y.2.2.2.2.2 ∧ (D == sysModules) = false := by
  induction h with
  | nil => intro hk; cases hk
  | @cons k2 T D o' kt cc nc tt ct cal g1 g2 g3 g4 kvs bs hR hD dD cD lo hz r ih =>
    intro hk
    rcases List.mem_cons.mp hk with e | hk
    · cases e
      exact ⟨_, .head _, rfl, T, D, o', kt, g1, g2, g3, g4, rfl, hR, hD, dD, cD, lo⟩
    · obtain ⟨y, hy, q⟩ := ih hk
      exact ⟨y, .tail _ hy, q⟩
theorem Cal.look {R : List (Addr × Obj)} {kvs : List (Str × Value)} {cs : List (Str × Int × Int)} (h : Cal R kvs cs) {y : Str × Int × Int} : (kvs.map (·.1)).Nodup → y ∈ cs → ∃ P t u, valueAt kvs y.1 = some (.ref P) ∧ (P, tupO [.int y.2.1 t, .int y.2.2 u]) ∈ R := by
  induction h with
  | nil => intro _ hy; cases hy
  | @cons k P c t tc tt kvs cs hP r ih =>
    intro hn hy
    have hn' := List.nodup_cons.mp (by simpa only [List.map_cons] using hn)
    rcases List.mem_cons.mp hy with rfl | hy
    · exact ⟨P, tc, tt, by simp [valueAt], hP⟩
    · obtain ⟨P', t', u', e, q⟩ := ih hn'.2 hy
      refine ⟨P', t', u', ?_, q⟩
      have ne : k ≠ y.1 := fun e2 => hn'.1 (by rw [r.keys, e2]; exact List.mem_map_of_mem hy)
      have : valueAt ((k, Value.ref P) :: kvs) y.1 = valueAt kvs y.1 := by simp [valueAt, ne]
      rw [this]; exact e
theorem Cal.entry {R : List (Addr × Obj)} {kvs : List (Str × Value)} {cs : List (Str × Int × Int)} (h : Cal R kvs cs) {k : Str} {v : Value} : (k, v) ∈ kvs → ∃ y ∈ cs, y.1 = k ∧ ∃ P t u, v = .ref P ∧ (P, tupO [.int y.2.1 t, .int y.2.2 u]) ∈ R := by
  induction h with
  | nil => intro hk; cases hk
  | @cons k2 P c t tc tt kvs cs hP r ih =>
    intro hk
    rcases List.mem_cons.mp hk with e | hk
    · cases e
      exact ⟨_, .head _, rfl, P, tc, tt, rfl, hP⟩
    · obtain ⟨y, hy, q⟩ := ih hk
      exact ⟨y, .tail _ hy, q⟩
theorem same_len {a b : List Str} (ha : a.Nodup) (hb : b.Nodup) (h : ∀ x, x ∈ a ↔ x ∈ b) : a.length = b.length := ((List.perm_ext_iff_of_nodup ha hb).mpr h).length_eq
section
variable {A : Around} {E : Value → Shared → Prop} {s : Shared} {h₀ : Heap} {L : Addr} {news : List (Addr × Obj)}
theorem tup_is {l : Addr} {vs : List Value} (N : News h₀ L s.heap news) (hp : (l, tupO vs) ∈ news) : s.heap.IsTuple l vs.toArray := ⟨_, (N _ hp).1, rfl, 0, rfl⟩
theorem cals_same {D1 D2 : Addr} {o1 o2 : Obj} {k1 k2 : List (Str × Value)} {c1 c2 : List (Str × Int × Int)} (N : News h₀ L s.heap news) (h1 : (D1, o1) ∈ news) (h2 : (D2, o2) ∈ news) (d1 : o1.IsDictOf (PySem.strKind PySem.Challenge.rw_xo0026_01.row.prog w) k1) (d2 : o2.IsDictOf (PySem.strKind PySem.Challenge.rw_xo0026_01.row.prog w) k2)
    (C1 : Cal news k1 c1) (C2 : Cal news k2 c2) (l1 : (D1 == sysModules) = false) (l2 : (D2 == sysModules) = false) (to : ∀ x ∈ c1, x ∈ c2) (fro : ∀ x ∈ c2, x ∈ c1) (hu : A.units + 8 < cLine) : SameW PySem.Challenge.rw_xo0026_01.row.prog w A s (.ref D1) (.ref D2) := by
  refine SameW.refs fun E Q hq => ?_
  have n1 := dict_nodup d1
  have n2 := dict_nodup d2
  refine dicts_same l1 l2 (Heap.dictOf_iff.mpr ⟨o1, (N _ h1).1, d1⟩) (Heap.dictOf_iff.mpr ⟨o2, (N _ h2).1, d2⟩) (by omega) ?_ (fun k v hk => ?_) hq
  · have e := same_len n1 n2 fun x => by
      rw [C1.keys, C2.keys]
      constructor
      · intro hx
        obtain ⟨y, hy, rfl⟩ := List.mem_map.mp hx
        exact List.mem_map_of_mem (to y hy)
      · intro hx
        obtain ⟨y, hy, rfl⟩ := List.mem_map.mp hx
        exact List.mem_map_of_mem (fro y hy)
    rwa [List.length_map, List.length_map] at e
  · obtain ⟨y, hy, rfl, P, t, u, rfl, hP⟩ := C1.entry hk
    obtain ⟨P', t', u', e, hP'⟩ := C2.look n2 (to y hy)
    refine ⟨_, e, SameW.refs fun E Q hq => tuples_same (tup_is N hP) (tup_is N hP') (by show A.units + 1 < cLine; omega) rfl (fun p hp => ?_) hq⟩
    simp only [List.zip_cons_cons, List.zip_nil_left, List.mem_cons, List.not_mem_nil, or_false] at hp
    rcases hp with rfl | rfl
    · exact SameW.ints rfl
    · exact SameW.ints rfl
theorem book_ne {D1 D2 : Addr} {o1 o2 : Obj} {k1 k2 : List (Str × Value)} {a b : List (Str × Entry)} {b1 b2 : Nat} {Q : Value → Shared → Prop} (N : News h₀ L s.heap news) (h1 : (D1, o1) ∈ news) (h2 : (D2, o2) ∈ news) (d1 : o1.IsDictOf (PySem.strKind PySem.Challenge.rw_xo0026_01.row.prog w) k1) (d2 : o2.IsDictOf (PySem.strKind PySem.Challenge.rw_xo0026_01.row.prog w) k2)
    (B1 : Book w news b1 k1 a) (B2 : Book w news b2 k2 b) (l1 : (D1 == sysModules) = false) (l2 : (D2 == sysModules) = false) (e : BookEq a b) (hu : A.units + 64 < cLine) (h : Q (.bool false) s) :
    wpAny (model PySem.Challenge.rw_xo0026_01.row.prog w) A (compareOp .NotEq (.ref D1) (.ref D2)) Q E s := by
  have n1 := dict_nodup d1
  have n2 := dict_nodup d2
  refine dicts_ne l1 l2 (Heap.dictOf_iff.mpr ⟨o1, (N _ h1).1, d1⟩) (Heap.dictOf_iff.mpr ⟨o2, (N _ h2).1, d2⟩) (by omega) ?_ (fun k v hk => ?_) h
  · have e := same_len n1 n2 fun x => by
      rw [B1.keys, B2.keys]
      constructor
      · intro hx
        obtain ⟨y, hy, rfl⟩ := List.mem_map.mp hx
        obtain ⟨z, hz, ez, _⟩ := e.to y hy
        rw [← ez]; exact List.mem_map_of_mem hz
      · intro hx
        obtain ⟨y, hy, rfl⟩ := List.mem_map.mp hx
        obtain ⟨z, hz, ez⟩ := e.fro y hy
        rw [← ez]; exact List.mem_map_of_mem hz
    rwa [List.length_map, List.length_map] at e
  · obtain ⟨y, hy, rfl, T, D, o', kt, g1, g2, g3, g4, rfl, hT, hD, dD, cD, lo⟩ := B1.entry hk
    obtain ⟨z, hz, ez, q⟩ := e.to y hy
    obtain ⟨T', D', o2', kt', f1, f2, f3, f4, e', hT', hD', dD', cD', lo'⟩ := B2.look n2 hz
    rw [ez] at e'
    refine ⟨_, e', SameW.refs fun E Q hq => tuples_same (tup_is N hT) (tup_is N hT') (by show A.units + 1 < cLine; omega) rfl (fun p hp => ?_) hq⟩
    simp only [List.zip_cons_cons, List.zip_nil_left, List.mem_cons, List.not_mem_nil, or_false] at hp
    rcases hp with rfl | rfl | rfl | rfl | rfl
    · exact SameW.ints q.cc
    · exact SameW.ints q.nc
    · exact SameW.ints q.tt
    · exact SameW.ints q.ct
    · exact cals_same N hD hD' dD dD' cD cD' lo lo' q.to q.fro (by show A.units + 1 + 1 + 8 < cLine; omega)
end
theorem ahead_cases (t : Int) : ahead t = 0 ∧ 1 - ahead t = 1 ∨ ahead t = 1 ∧ 1 - ahead t = 0 := by
  have h0 := Int.fmod_nonneg_of_pos t (show (0 : Int) < 2 by decide)
  have h1 := Int.fmod_lt_of_pos t (show (0 : Int) < 2 by decide)
  unfold ahead
  omega
theorem way1_cases (t : Int) : way1 t = 1 ∨ way1 t = -1 := by
  have h0 := Int.fmod_nonneg_of_pos (t.fdiv 2) (show (0 : Int) < 2 by decide)
  have h1 := Int.fmod_lt_of_pos (t.fdiv 2) (show (0 : Int) < 2 by decide)
  unfold way1
  omega
theorem way2_cases (t : Int) : way2 t = 1 ∨ way2 t = -1 := by
  have h0 := Int.fmod_nonneg_of_pos (t.fdiv 4) (show (0 : Int) < 2 by decide)
  have h1 := Int.fmod_lt_of_pos (t.fdiv 4) (show (0 : Int) < 2 by decide)
  unfold way2
  omega
theorem way_in {w : Int} (h : w = 1 ∨ w = -1) : -1 ≤ w ∧ w ≤ 1 := by omega
noncomputable def kAF (t : Int) (ds : Nat → Int) (i : Nat) : Int := rankK (ahead t) (hmF ds) (vsF ds) i * way1 t
noncomputable def kBF (t : Int) (ds : Nat → Int) (i : Nat) : Int := rankK (1 - ahead t) (hmF ds) (vsF ds) i * way2 t
theorem run_keys (t : Int) (ds : Nat → Int) : ∀ i j, i < 5 → j < 5 → gtR (ahead t) (way1 t) (way2 t) (hmF ds) (vsF ds) i j = gtK (kAF t ds) (kBF t ds) i j := fun _ _ hi hj => gt_keys (ahead_cases t) (way1_cases t) (way2_cases t) hi hj
theorem book_run (t : Int) (ds : Nat → Int) : BookEq (runR (gtR (ahead t) (way1 t) (way2 t) (hmF ds) (vsF ds)) (hmF ds) (vsF ds) 4).2 (dueN (kAF t ds) (kBF t ds) (hmF ds) (vsF ds) 5) := by
  rw [runR_tell, runE_congr (run_keys t ds)]
  exact book_eq weakK
theorem line_run (t : Int) (ds : Nat → Int) : (runR (gtR (ahead t) (way1 t) (way2 t) (hmF ds) (vsF ds)) (hmF ds) (vsF ds) 4).1 = stable (gtK (kAF t ds) (kBF t ds)) := by
  rw [runR_tell, runE_congr (run_keys t ds)]
  exact (run_facts weakK fun _ _ => rfl).2.2
section
variable {prog : Program} {A : Around} {E : Value → Shared → Prop} {s : Shared}
theorem collect_rng {r : Addr} {a b c : Int} {t u v : Tok} {n : Nat} {Q : List Value → Shared → Prop} (hh : A.handled = none) (hr : IsRange s.heap r a b c t u v) (hsmall : Builtin.Range.small a b c = true) (hn : Builtin.Range.rangeSize a b c = n) (hlen : n ≤ 2 ^ 24)
    (h : ∀ h' tk (acc : Array Value), (∀ b o, s.heap.get? b = some o → h'.get? b = some o) → ItemsOf (fun i v => ∃ t, v = .int (a + i * c) t) acc n → Q acc.toList { s with heap := h', toks := tk }) : wpAny (model prog w) A (collect (.ref r)) Q E s := by
  unfold collect
  refine wpAny_bind (wpAny_runValue (codeAny_builtin entry_proto_collect' ?_))
  rw [Around.under_plainId PySem.F.plain_proto_collect _]
  show wpAny _ A.in1 (newList [] >>= fun l => again (.builtin "list.__iadd__" ⟨[l, .ref r], []⟩)) _ _ s
  refine wpAny_bind (wpAny_newObj_type (wpAny_pure ⟨plainId_quiet PySem.F.plain_list_iadd _, codeAny_builtin entry_list_iadd' ?_⟩))
  rw [Around.under_plainId PySem.F.plain_list_iadd _]
  have hS : (s.heap.push { cls := .type "list", data := .seq ([] : List Value).toArray }).get? s.heap.objs.size = some { cls := .type "list", data := .seq #[] } := Heap.get?_push_size _ rfl
  show wpAny _ A.in1 (Builtin.List.listExtendWith (.ref s.heap.objs.size) (.ref r) (.ref s.heap.objs.size)) _ _ _
  have key := wpAny_extend_range (prog := prog) (w := w) (A := A) (s := { s with heap := s.heap.push { cls := .type "list", data := .seq ([] : List Value).toArray } })
    (R := fun (q : Result) (s' : Shared) => ∃ (h' : Heap) (tk : Nat) (acc' : Array Value) (c' : Nat), q = .ok (.ret (.ref s.heap.objs.size)) ∧ s' = { s with heap := h', toks := tk } ∧
      (∀ b o, s.heap.get? b = some o → h'.get? b = some o) ∧ h'.get? s.heap.objs.size = some { cls := .type "list", dict := none, data := .seq acc' c', slots := #[] } ∧ ItemsOf (fun i v => ∃ t, v = .int (a + i * c) t) acc' n)
    hh (Heap.get?_push_of_some _ hr) hsmall hn hlen s.heap.objs.size (.ref s.heap.objs.size) 0 hS
    (fun h' tk acc' c' hk hS' hacc => ⟨h', tk, acc', c', rfl, rfl, fun b o e => hk b o (Nat.ne_of_lt (Heap.lt_size e)) (Heap.get?_push_of_some _ e), hS', hacc⟩)
  refine wpAny_mono key (fun fin s' x => ?_) fun e s' x => ?_
  · match fin, x with
    | .done f, x =>
      obtain ⟨h', tk, acc', c', e, rfl, hk, hS', hacc⟩ := x
      cases e
      show wpAny _ A (load s.heap.objs.size >>= _) _ _ _
      exact wpAny_bind (wpAny_load hS' (wpAny_pure (h h' tk acc' hk hacc)))
    | .again c₁, x =>
      refine ⟨x.1, codeAny_mono x.2 fun q s₂ y => ?_⟩
      obtain ⟨h', tk, acc', c', rfl, rfl, hk, hS', hacc⟩ := y
      show wpAny _ A (load s.heap.objs.size >>= _) _ _ _
      exact wpAny_bind (wpAny_load hS' (wpAny_pure (h h' tk acc' hk hacc)))
  · obtain ⟨_, _, _, _, e', _⟩ := x
    cases e'
theorem five_items {acc : Array Value} (h : ItemsOf (fun i v => ∃ t, v = Value.int (0 + (i : Int) * 1) t) acc 5) : ∃ t0 t1 t2 t3 t4, acc.toList = [.int 0 t0, .int 1 t1, .int 2 t2, .int 3 t3, .int 4 t4] := by
  obtain ⟨hz, hi⟩ := h
  have g : ∀ (i : Nat) (hi' : i < 5), ∃ t, acc[i]? = some (Value.int (0 + (i : Int) * 1) t) := fun i hi' => by
    have hlt : i < acc.size := by omega
    obtain ⟨t, e⟩ := hi i acc[i] (Array.getElem?_eq_getElem hlt)
    exact ⟨t, by rw [Array.getElem?_eq_getElem hlt, e]⟩
  obtain ⟨t0, e0⟩ := g 0 (by decide)
  obtain ⟨t1, e1⟩ := g 1 (by decide)
  obtain ⟨t2, e2⟩ := g 2 (by decide)
  obtain ⟨t3, e3⟩ := g 3 (by decide)
  obtain ⟨t4, e4⟩ := g 4 (by decide)
  refine ⟨t0, t1, t2, t3, t4, ?_⟩
  obtain ⟨l⟩ := acc
  obtain ⟨a, b, c, d, e, el⟩ := len5 (ys := l) hz
  subst el
  have f0 : a = .int 0 t0 := Option.some.inj e0
  have f1 : b = .int 1 t1 := Option.some.inj e1
  have f2 : c = .int 2 t2 := Option.some.inj e2
  have f3 : d = .int 3 t3 := Option.some.inj e3
  have f4 : e = .int 4 t4 := Option.some.inj e4
  rw [f0, f1, f2, f3, f4]
theorem sorted_rangeK {h₀ : Heap} {L r : Addr} {m : Str → Option Value} {news : List (Addr × Obj)} {f : Value} {kw : List (Str × Value)} {t u v : Tok} {Q : Value → Shared → Prop} (hh : A.handled = none) (F : Fr h₀ L s.heap m) (N : News h₀ L s.heap news) (hr : IsRange s.heap r 0 5 1 t u v)
    (ha1 : argsOk "sorted" ⟨[.ref r], kw⟩) (ha2 : ∀ x, argsOk "list.sort" ⟨[.ref x], kw⟩) (ht : ∀ x, Builtin.«list.sort» ⟨[.ref x], kw⟩ = ksk_tree x f false)
    (h : ∀ t0 t1 t2 t3 t4 D kS e1 h' tk, Fr h₀ L h' m → News h₀ L h' ((kS, seqObj "list" #[] 0) :: (D, seqObj "list" #[] e1) :: news) → @LT.lt Nat _ D kS → (∀ q ∈ news, @LT.lt Nat _ q.1 D) →
      KatKeys prog w A.in1.in1 h₀ L m kS f (fun ks e s' => wpAny (model prog w) A.in1.in1 (keyKind' (List.toArray ks)) (fun κ s'' => (kas_sort 5).kasWp (kas_ask prog w A.in1.in1 κ ks) (fun p s3 => KatFin h₀ L m kS D ks e e1 (p.toList.map fun i => [Value.int 0 t0, .int 1 t1, .int 2 t2, .int 3 t3, .int 4 t4].getD i Value.none) (fun s4 => Q (.ref D) s4) s3) s'') (fun _ _ => False) s') [.int 0 t0, .int 1 t1, .int 2 t2, .int 3 t3, .int 4 t4] [] 0 { s with heap := h', toks := tk }) :
    wpAny (model prog w) A (call (.builtin "sorted") [.ref r] kw) Q E s := by
  refine call_function_entry_kw kind_sorted plain_sorted entry_sorted ha1 ?_
  unfold Builtin.«sorted»
  refine wpAny_bind (m := checkCount "sorted" 1 1 _) (wpAny_pure ?_)
  refine wpAny_bind (collect_rng (A := A.in1) hh hr (by decide) (n := 5) (by decide) (by decide) fun h1 tk acc hk hacc => ?_)
  obtain ⟨t0, t1, t2, t3, t4, e⟩ := five_items hacc
  rw [e]
  refine wpAny_bind (wpAny_newList ?_ (Nat.le_of_ble_eq_true rfl))
  have hL : L < h1.objs.size := (F.kept hk).ns.lt
  have hoL : (h1.push (seqObj "list" ([Value.int 0 t0, .int 1 t1, .int 2 t2, .int 3 t3, .int 4 t4] : List Value).toArray 0)).get? h1.objs.size = some (seqObj "list" ([Value.int 0 t0, .int 1 t1, .int 2 t2, .int 3 t3, .int 4 t4] : List Value).toArray 0) := Heap.get?_push_size _ rfl
  have keep : ∀ b o, s.heap.get? b = some o → (h1.push (seqObj "list" ([Value.int 0 t0, .int 1 t1, .int 2 t2, .int 3 t3, .int 4 t4] : List Value).toArray 0)).get? b = some o := fun b o q => Heap.get?_push_of_some _ (hk b o q)
  refine wpAny_bind (wpAny_holding (wpAny_call_entry_kw slot_list_sort ⟨_, hoL, rfl⟩ entry_list_sort ?body (ha2 _)))
  case body =>
    show wpAny (model prog w) A.in1.in1 (Builtin.«list.sort» ⟨[.ref h1.objs.size], kw⟩) _ _ _
    rw [ht]
    refine kat_keyed (s := { s with heap := h1.push (seqObj "list" ([Value.int 0 t0, .int 1 t1, .int 2 t2, .int 3 t3, .int 4 t4] : List Value).toArray 0), toks := tk })
      (F.kept keep) (N.grown keep) hoL (Nat.ne_of_gt hL) (Heap.get?_none_of_le (Nat.le_trans F.above (Nat.le_of_lt hL)))
      (fun p hp => Nat.ne_of_lt (Heap.lt_size (hk _ _ (N p hp).1))) (Nat.le_of_ble_eq_true rfl) (Nat.le_of_ble_eq_true rfl) fun kS e1 h' F' N' l0 l1 => ?_
    refine kat_keys_mono (h t0 t1 t2 t3 t4 _ kS e1 h' tk F' N' l0 fun q hq => Heap.lt_size (hk _ _ (N q hq).1)) fun ks e s' hl' hd => ?_
    refine wpAny_mono hd (fun κ s'' hk' => ?_) fun _ _ x => x
    show (kas_sort 5).kasWp (kas_ask prog w A.in1.in1 κ ks) _ s''
    have hl2 : ks.length = [Value.int 0 t0, .int 1 t1, .int 2 t2, .int 3 t3, .int 4 t4].length := by simpa using hl'
    rw [kat_ask_eq (vs := [Value.int 0 t0, .int 1 t1, .int 2 t2, .int 3 t3, .int 4 t4]) hl2] at hk' ⊢
    exact kas_wp_mono hk' fun p s3 hk'' => hk''.mono fun s4 hq => ⟨_, rfl, wpAny_pure ⟨_, rfl, hq⟩⟩
theorem lt_keys {a b : Addr} {x0 x1 y0 y1 : Int} {t0 t1 u0 u1 : Tok} {Q : Bool → Shared → Prop} (hl : s.heap.IsList a #[.int x0 t0, .int x1 t1]) (hb : s.heap.IsList b #[.int y0 u0, .int y1 u1]) (hu : A.units < cLine)
    (h : Q (if x0 = y0 then (if x1 = y1 then false else decide (x1 < y1)) else decide (x0 < y0)) s) : wpAny (model prog w) A (keyLt' oneType' (.ref a) (.ref b)) Q E s := by
  obtain ⟨⟨cls, dd, data, sl⟩, ho, hc, n, hd⟩ := id hl
  obtain ⟨⟨cls2, dd2, data2, sl2⟩, ho2, hc2, n2, hd2⟩ := id hb
  simp only at hc hd hc2 hd2
  subst hc hd hc2 hd2
  rw [keyLt'_oneType, oneLt'_eq]
  simp only [if_true]
  refine wpAny_bind (wpAny_cRoomFor hu ?_)
  refine wpAny_bind (wpAny_callSpecialIfBound?_slot ⟨_, ho, rfl⟩ F.slot_list_lt (call_meets F.slot_list_lt ⟨_, ho, rfl⟩ F.entry_list_lt (F.args_list_lt_2 _ _) (list_ltAt a b n n2 dd dd2 sl sl2 x0 x1 y0 y1 t0 t1 u0 u1) ⟨ho, ho2, ?_⟩))
  exact wpAny_truthy_bool h
end
section
variable {prog : Program} {A : Around} {s : Shared} {h₀ : Heap} {L : Addr} {m : Str → Option Value} {news : List (Addr × Obj)}
theorem KeyAt.list {a : Addr} {x y : Int} (N : News h₀ L s.heap news) (h : KeyAt news a x y) : ∃ t u, s.heap.IsList a #[.int x t, .int y u] := by
  obtain ⟨t, u, n, hm⟩ := h
  exact ⟨t, u, News.isList N hm⟩
theorem kd5 {k : Nat → Addr} {i : Nat} (hi : i < 5) : ([Value.ref (k 0), .ref (k 1), .ref (k 2), .ref (k 3), .ref (k 4)] : List Value).getD i Value.none = .ref (k i) := getD5 (f := fun i => Value.ref (k i)) hi
theorem sort_keys {kS D : Addr} {k : Nat → Addr} {kA kB : Nat → Int} {e e1 : Nat} {t0 t1 t2 t3 t4 : Tok} {C : Shared → Prop} (F : Fr h₀ L s.heap m) (N : News h₀ L s.heap ((kS, seqObj "list" (List.toArray [.ref (k 0), .ref (k 1), .ref (k 2), .ref (k 3), .ref (k 4)]) e) :: (D, seqObj "list" #[] e1) :: news)) (hD : @LT.lt Nat _ D kS) (hn : ∀ q ∈ news, @LT.lt Nat _ q.1 D)
    (hk : ∀ i, i < 5 → KeyAt news (k i) (kA i) (kB i)) (hu : A.units < cLine)
    (ret : ∀ h' (t : Nat → Tok) c c2, Fr h₀ L h' m → News h₀ L h' ((D, PySem.W.listOf (List.toArray ((stable (gtK kA kB)).map fun i : Nat => Value.int (i : Int) (t i))) c) :: (kS, PySem.W.listOf #[] c2) :: news) → C { s with heap := h' }) :
    wpAny (model prog w) A (keyKind' (List.toArray [.ref (k 0), .ref (k 1), .ref (k 2), .ref (k 3), .ref (k 4)])) (fun κ s'' => (kas_sort 5).kasWp (kas_ask prog w A κ [.ref (k 0), .ref (k 1), .ref (k 2), .ref (k 3), .ref (k 4)]) (fun p s3 => KatFin h₀ L m kS D [.ref (k 0), .ref (k 1), .ref (k 2), .ref (k 3), .ref (k 4)] e e1 (p.toList.map fun i => [Value.int 0 t0, .int 1 t1, .int 2 t2, .int 3 t3, .int 4 t4].getD i Value.none) C s3) s'') (fun _ _ => False) s := by
  have N2 : News h₀ L s.heap news := fun p hp => N p (.tail _ (.tail _ hp))
  refine kas_kind (T := .type "list") (Nat.le_of_ble_eq_true rfl) (fun v hv => ?_) rfl rfl ?_
  · have hl : ∀ i, i < 5 → Looks (model prog w) s.heap (typeOf (.ref (k i))) (.type "list") := fun i hi => by
      obtain ⟨t, u, hl⟩ := KeyAt.list N2 (hk i hi)
      obtain ⟨o, ho, hc, _⟩ := hl
      exact fun _ _ _ _ kk q => wpAny_typeOf (T := "list") ⟨o, kk _ _ ho, hc⟩ q
    simp only [List.mem_cons, List.not_mem_nil, or_false] at hv
    rcases hv with rfl | rfl | rfl | rfl | rfl
    · exact hl 0 (by decide)
    · exact hl 1 (by decide)
    · exact hl 2 (by decide)
    · exact hl 3 (by decide)
    · exact hl 4 (by decide)
  · obtain ⟨p, hp, hst, _, h5, _⟩ := sort5 (weakK (kA := kA) (kB := kB))
    refine runB_wp (lt := fun i j => gtK kA kB j i) (fun i j hi hj C' hC => ?_) _ hp ?_
    · unfold kas_ask
      rw [kd5 hi, kd5 hj]
      obtain ⟨x1, x2, l1⟩ := KeyAt.list N2 (hk i hi)
      obtain ⟨y1, y2, l2⟩ := KeyAt.list N2 (hk j hj)
      refine lt_keys l1 l2 hu ?_
      have e' : (if kA i = kA j then (if kB i = kB j then false else decide (kB i < kB j)) else decide (kA i < kA j)) = gtK kA kB j i := by
        unfold gtK
        by_cases h1 : kA i = kA j
        · rw [if_pos h1, if_pos h1.symm]
          by_cases h2 : kB i = kB j
          · rw [if_pos h2, if_pos h2.symm]
          · rw [if_neg h2, if_neg fun x => h2 x.symm]
        · rw [if_neg h1, if_neg fun x => h1 x.symm]
      rw [e']; exact hC
    · have eo : (p.toList.map fun i => ([Value.int 0 t0, .int 1 t1, .int 2 t2, .int 3 t3, .int 4 t4] : List Value).getD i Value.none) = (stable (gtK kA kB)).map fun i : Nat => Value.int (i : Int) (fn5 t0 t1 t2 t3 t4 i) := by
        rw [hst]
        refine List.map_congr_left fun i hi => ?_
        rw [← hst] at hi
        have hi5 := h5 i hi
        exact getD5 (f := fun i : Nat => Value.int (i : Int) (fn5 t0 t1 t2 t3 t4 i)) hi5
      rw [eo]
      refine KatFin.intro F N (g := fun o => (kS, o) :: (D, seqObj "list" #[] e1) :: news) (UpdF.head fun q hq => ?_) fun h1 c F1 N1 => ?_
      · rcases List.mem_cons.mp hq with rfl | hq
        · exact Nat.ne_of_lt hD
        · exact Nat.ne_of_lt (Nat.lt_trans (hn q hq) hD)
      · refine KasFin.intro F1 (news := (D, seqObj "list" #[] e1) :: (kS, seqObj "list" #[] c) :: news) (fun q hq => N1 q ?_) (g := fun o => (D, o) :: (kS, seqObj "list" #[] c) :: news) (UpdF.head fun q hq => ?_) fun h2 c2 F2 N3 => ?_
        · revert q; k_extra "subl"
        · rcases List.mem_cons.mp hq with rfl | hq
          · exact Nat.ne_of_gt hD
          · exact Nat.ne_of_lt (hn q hq)
        · exact ret h2 (fn5 t0 t1 t2 t3 t4) c2 c F2 N3
end
noncomputable abbrev rngO (n : Int) (t u v : Tok) : Obj := { cls := .type "range", data := .fields #[.int 0 t, .int n u, .int 1 v] }
section
variable {prog : Program} {A : Around} {E : Value → Shared → Prop} {s : Shared} {h₀ : Heap} {L : Addr} {m : Str → Option Value} {news : List (Addr × Obj)}
theorem range_led {n : Int} {t : Tok} {Q : Value → Shared → Prop} (F : Fr h₀ L s.heap m) (N : News h₀ L s.heap news) (h : ∀ r h' tk t₁ u₁ v₁, Fr h₀ L h' m → News h₀ L h' ((r, rngO n t₁ u₁ v₁) :: news) → (∀ q ∈ news, @LT.lt Nat _ q.1 r) → Q (.ref r) { s with heap := h', toks := tk }) :
    wpAny (model prog w) A (call (.type "range") [.int n t]) Q E s := by
  refine range1_rows F N fun h' tk t₁ u₁ v₁ hr F' N' hk => h _ h' tk t₁ u₁ v₁ F' (fun p hp => ?_) fun q hq => Heap.lt_size (N q hq).1
  rcases List.mem_cons.mp hp with rfl | hp
  · exact ⟨hr, Nat.ne_of_gt F.ns.lt, Heap.get?_none_of_le (Nat.le_trans F.above (Nat.le_of_lt F.ns.lt))⟩
  · exact N' p hp
end
theorem fin_pull {h₀ h : Heap} {L dx left pb : Addr} {odx ol op : Obj} {all : List (Addr × Obj)} (N : News h₀ L h all) (mdx : (dx, odx) ∈ all) (mleft : (left, ol) ∈ all) (mpb : (pb, op) ∈ all) :
    ∃ R0, News h₀ L h ((dx, odx) :: (left, ol) :: (pb, op) :: R0) ∧ (∀ p ∈ R0, p.1 ≠ dx) ∧ (∀ p ∈ R0, p.1 ≠ left) ∧ (∀ p ∈ R0, p.1 ≠ pb) ∧ ∀ p ∈ all, p.1 ≠ dx → p.1 ≠ left → p.1 ≠ pb → p ∈ R0 :=
  ⟨restOf [dx, left, pb] all, newsPick N mdx (newsPick N mleft (newsPick N mpb (newsPart N restOf_sub))), restOf_off (by simp), restOf_off (by simp), restOf_off (by simp), fun p hp h1 h2 h3 => restOf_mem hp fun a ha => by
    simp only [List.mem_cons, List.not_mem_nil, or_false] at ha
    rcases ha with rfl | rfl | rfl
    · exact h1
    · exact h2
    · exact h3⟩
theorem stable_len {kA kB : Nat → Int} : (stable (gtK kA kB)).length = 5 := by
  obtain ⟨p, _, h1, h2, _⟩ := sort5 (weakK (kA := kA) (kB := kB))
  rw [← h2, h1]
theorem stable_lt {kA kB : Nat → Int} : ∀ k ∈ stable (gtK kA kB), k < 5 := by
  obtain ⟨p, _, h1, _, h3, _⟩ := sort5 (weakK (kA := kA) (kB := kB))
  intro k hk
  exact h3 k (by rw [h1]; exact hk)
theorem QueJ.zero {P : List Str} {dx st pb left : Addr} {n n1 : Nat} {R0 : List (Addr × Obj)} {a1 a2 a3 a4 a5 a6 : Tok} {pv : List Value} (hpv : StrsAre pv P) :
    QueJ w P dx st pb left R0 0 [] ((dx, dictOf (lexD w a1 a2 a3 a4 a5 a6 3 (.ref st) (.ref pb)) 4) :: (left, PySem.W.listOf (List.toArray []) n) :: (pb, PySem.W.listOf (List.toArray pv) n1) :: R0) :=
  ⟨a1, a2, a3, a4, a5, a6, 3, n, n1, pv, rfl, hpv, by decide, by decide, .nil⟩
theorem ord_lit {l : List Nat} {t : Nat → Tok} {i : Nat} {v : Value} (hl : ∀ k ∈ l, k < 5) (h : (List.toArray (l.map fun j : Nat => Value.int (j : Int) (t j)))[i]? = some v) : ∃ (j : Nat) (u : Tok), v = .int (j : Int) u ∧ j < 5 ∧ l.getD i 9 = j := by
  rw [List.getElem?_toArray, List.getElem?_map] at h
  cases e : l[i]? with
  | none => rw [e] at h; cases h
  | some j =>
    rw [e] at h
    cases h
    exact ⟨j, t j, rfl, hl j (List.mem_of_getElem? e), by rw [List.getD_eq_getElem?_getD, e]; rfl⟩
theorem ord_texts {l : List Nat} {t : Nat → Tok} {ws : Nat → Str} {ys : List Value} (h : ys.length = (List.toArray (l.map fun j : Nat => Value.int (j : Int) (t j))).size) (g : ∀ (i : Nat) y, ys[i]? = some y → ∃ t, y = Value.str (ws (l.getD i 9)) t) : StrsAre ys (l.map ws) := by
  rw [List.size_toArray, List.length_map] at h
  induction l generalizing ys with
  | nil =>
    cases ys with
    | nil => exact .nil
    | cons _ _ => simp at h
  | cons a r ih =>
    match ys, h, g with
    | y :: ys, h, g =>
      obtain ⟨u, rfl⟩ := g 0 y rfl
      exact .cons _ _ (ih (by simpa using h) fun i z hz => by
        obtain ⟨u, e⟩ := g (i + 1) z (by simpa using hz)
        exact ⟨u, by rw [e]; simp⟩)
theorem que_texts {P : List Str} (h : P.length = 5) : (List.range 6).map (fun k => P.getD k (Str.ofString "")) = P ++ [Str.ofString ""] := by
  obtain ⟨a, b, c, d, e, rfl⟩ := len5 h
  rfl
theorem texts_snoc {ys : List Value} {l : List Str} {x : Str} {t : Tok} (h : StrsAre ys l) : StrsAre (ys ++ [.str x t]) (l ++ [x]) := h.append' (.cons _ _ .nil)
theorem law_post (args : List WData) : PySem.Challenge.rw_xo0026_01.row.toRowW.claim.post args (WData.bool true) args = true := postW_of (by rfl) (by wtm_val) (by w_fin)
theorem off_law_1 : True := by
  w_top off
  k_with_none
  k_with "subl" => ((repeat' (first | refine List.forall_mem_cons.mpr ⟨by (repeat (first | exact List.Mem.head _ | refine List.Mem.tail _ ?_ | refine List.mem_append_right _ ?_)), ?_⟩ | refine List.forall_mem_append.mpr ⟨?_, ?_⟩)); all_goals (intro _ hpw219; (repeat (first | exact hpw219 | refine List.Mem.tail _ ?_ | exact List.mem_append_left _ hpw219 | refine List.mem_append_right _ ?_))))
  k_with "pk" => (with_reducible first | exact pk1 ‹_› | exact pk2 ‹_› | exact pk3 ‹_› | exact pk4 ‹_› | exact pk5 ‹_› | exact pk6 ‹_› | exact pk7 ‹_› | exact pk8 ‹_› | exact pk9 ‹_› | exact pk10 ‹_› | exact pk11 ‹_› | exact pk12 ‹_› | exact pk13 ‹_› | exact pk14 ‹_› | exact pl2 ‹_› | exact pl3 ‹_› | exact pl4 ‹_› | exact pl5 ‹_› | exact pl6 ‹_› | exact pl7 ‹_›)
  k_with "suc" => (with_reducible first | exact lts1 | exact lts2 | exact lts3 | exact lts4 | exact lts5 | exact lts6 | exact lts7)
  k_with "hop" => (with_reducible first | exact ‹_› | k_extra "pk" | (refine Nat.lt_trans ?_ (by first | assumption | k_extra "pk"); k_extra "hop"))
  k_with "om" => (first | (with_reducible first | ((show @Ne Nat _ _); (try dsimp only); first | exact ‹_› | exact Ne.symm ‹_› | exact Nat.ne_of_lt (by k_extra "suc") | exact Nat.ne_of_gt (by k_extra "suc") | ((fail_if_success (fail_if_success refine cj2 ‹_› ?_)); exact Nat.ne_of_gt (by k_extra "pk")) | ((fail_if_success (fail_if_success refine cj1 ‹_› ?_)); exact Nat.ne_of_lt (by k_extra "pk")) | ((fail_if_success (fail_if_success refine cj3 ‹_› ?_)); k_extra "pk") | ((fail_if_success (fail_if_success refine cj4 ‹_› ?_)); k_extra "pk") | ((fail_if_success (fail_if_success refine cj5 ‹_› ?_)); exact Ne.symm (by k_extra "pk")) | ((fail_if_success (fail_if_success refine cj6 ‹_› ?_)); exact Ne.symm (by k_extra "pk")) | exact Nat.ne_of_gt ‹_› | exact Nat.ne_of_lt ‹_› | exact Nat.ne_of_lt (up1 (by k_extra "pk")) | exact Nat.ne_of_lt (up2 (by k_extra "pk")) | exact Nat.ne_of_lt (up3 (by k_extra "pk")) | exact Nat.ne_of_lt (up4 (by k_extra "pk")) | exact Nat.ne_of_gt (by k_extra "hop") | exact Nat.ne_of_lt (by k_extra "hop")) | ((show _ ∨ _); first | exact lt5_cases ‹_› | exact i5_cases ‹_› ‹_› | exact i3_cases ‹_› ‹_›) | ((show @LT.lt Nat _ _ _); first | exact ‹_› | exact sub_step ‹_› | exact sub_step1 ‹_› | k_extra "suc" | ((fail_if_success (fail_if_success refine cj7 ‹_› ?_)); k_extra "pk")) | ((show @LE.le Nat _ _ _); (try dsimp only); first | exact (by decide) | exact Nat.le_of_lt ‹_› | exact Nat.le_of_lt (by k_extra "suc") | (refine Nat.le_trans ‹_› ?_; decide) | (refine Nat.le_trans (Nat.le_of_eq (Eq.symm ‹_›)) (Nat.le_trans ‹_› ?_); decide) | exact le_s1 (by k_extra "pk") | exact le_s1 (by k_extra "hop") | exact len2a ‹_› ‹_› | exact len2b ‹_› ‹_›) | ((show @LE.le Int _ _ _); exact neg5) | ((show @LT.lt Int _ _ _); exact Int.ofNat_lt.mpr ‹_›)))
  k_with "my_unrolled" => (k_dflt (first | (refine LCg.CompSrc.ledger (by rfl) (by k_asm) (by k_asm) (by k_mem) (by first | size_fits | exact Nat.le_of_ble_eq_true rfl) ?_; intro _; lcg_lit) | (refine LCg.CompSrc.base (by rfl) (by k_asm) (by k_asm) ‹_› (by first | size_fits | exact Nat.le_of_ble_eq_true rfl) ?_; intro _; lcg_lit) | (refine LCg.CompSrc.range (by rfl) (by k_asm) (by k_asm) ‹_› (by first | decide | rfl) (by first | rfl | decide) (by first | size_fits | exact Nat.le_of_ble_eq_true rfl) ?_; intro _; lcg_lit)))
  k_with "my_comp" => k_dflt (refine LCg.ListComp_U (F₀ := by k_asm) (by with_unfolding_all rfl) (by decide) (by rfl) (by decide) (by rfl) ?_)
  k_with "my_compA" => k_dflt (refine LCg.Assign_ListComp_U (F₀ := by k_asm) (by rfl) (by with_unfolding_all rfl) (by with_unfolding_all rfl) (by decide) (by rfl) (by decide) (by rfl) (by rfl) (by rfl) ?_)
  k_with "CompRest" => (with_unfolding_all first | (refine LCg.CompRest.succ ?_; intro _ _ _ _ _ _ _ _ _ _ hv'w186 _ hx'w186 _ _ off'w186 _; (first | lcg_open hv'w186 | (obtain ⟨_, hv9'w186⟩ := hv'w186; subst hv9'w186; (try simp only [Int.zero_add, Int.natCast_zero, Int.natCast_one, Int.reduceAdd, Nat.reduceAdd, Int.cast_ofNat_Int] at hx'w186))); (try simp only [LCg.Off3, and_true] at off'w186)) | refine LCg.CompRest.zero ?_)
  k_with "eval ListComp" => (k_here; k_extra "my_comp")
  k_with "exec Assign cons ListComp" => (k_here; k_extra "my_compA")
  k_with "CompSrc" => k_extra "my CompSrc"
  k_with "call ref" => k_extra "my call"
  k_with "subscriptTail" => k_extra "my strs"
  k_with "CompEnd" => k_extra "my CompEnd"
  k_with "my turn" => (intro i'w981 _ _ _ _ _ _ _ _ _ _ _ _ hv'w981 _ hx'w981 _ _ off'w981 _; obtain ⟨_, hv9'w981⟩ := hv'w981; subst hv9'w981; (try simp only [Int.zero_add] at hx'w981); (have h0'w981 := Int.natCast_nonneg i'w981); (have hI'w981 : (i'w981 : Int) < 5 := by omega); (try simp only [LCg.Off3, and_true] at off'w981); (try k_fold))
  k_with "turn ends" => (k_here; k_dflt (refine comp_turned (by k_asm) (by k_asm) (by lcg_sub) (by first | assumption | (simp only [LCg.Off3, and_true]; done) | (simp only [LCg.Off3, and_true]; assumption) | lcg_off) (by lcg_src) ?_))
  k_with "subscriptTail Name Name ref int" => k_extra "my item"
  k_with "range5" => (k_here; k_dflt (refine LCg.CompSrc.range (n := 5) (by rfl) (by k_asm) (by k_asm) ‹_› (by first | decide | rfl) (by first | rfl | decide) (by first | size_fits | exact Nat.le_of_ble_eq_true rfl) ?_; intro _))
  k_with "binaryOp Add str str" => (k_here; (with_reducible show wpAny _ _ (binaryOp Operator.Add (Value.str _ _) (Value.str _ _)) _ _ _); (refine add_short (by with_reducible assumption) (by with_reducible assumption) ?_); intro _ _ _)
  k_with "binaryOp Add str str" => (k_here; (with_reducible show wpAny _ _ (binaryOp Operator.Add (Value.str _ _) (Value.str _ _)) _ _ _); (refine add_short (by first | with_reducible assumption | exact quote_short) (by first | with_reducible assumption | exact quote_short) ?_); intro _ _ _)
  k_with "call type:str" => (k_here; (with_reducible show wpAny _ _ (call (Value.type "str") [Value.int _ _]) _ _ _); (refine str_digit ‹_› ‹_› ?_); intro _ _ _)
  k_with "subscriptTail Name BinOp ref int" => k_extra "my strs"
  k_with "subscriptTail Subscript" => k_extra "my strs"
  k_with "lex white" => (k_here; k_dflt (refine lex_white ‹_› ?_; intro _))
  k_with "callWith ref" => k_extra "my callWith"
  k_with "FnAt" => k_dflt (exact FnAt.of (by k_asm) (by k_mem))
  k_with "CiTurn" => k_dflt (refine CiTurn.ret ?_; (try dsimp only))
  k_with "inplaceOp Add str str" => (k_here; (with_reducible show wpAny _ _ (inplaceOp Operator.Add (Value.str _ _) (Value.str _ _)) _ _ _); k_dflt (refine iadd_short (by with_reducible assumption) (by with_reducible assumption) ?_; intro _ _))
  k_with "TurnJ" => k_dflt (refine TurnJ.ret ?_; (try dsimp only))
  k_with "in run" => (repeat (first | with_reducible assumption | exact List.Mem.head _ | refine List.Mem.tail _ ?_ | assumption | exact sub_mem (by with_reducible assumption) (by with_reducible assumption) | refine sub_mem (by with_reducible assumption) ?_))
  k_with "run mem" => (k_extra "in run"; done)
  k_with "TurnG" => k_dflt (refine TurnG.ret ?_; (try dsimp only))
  k_with "fn item" => (k_here; (with_reducible show wpAny _ _ (subscriptTail _ _ (Value.ref _) (Value.int (Nat.cast _) _)) _ _ _); k_dflt (first | (refine' item_fnS ?zlw125 ?ziw125 ?_ ?zsw125; (case zlw125 => exact News.isList (by k_asm) (by k_extra "in run")); (case ziw125 => assumption); (case zsw125 => with_unfolding_all rfl); intro _) | (refine' item_fnI ?zlw125 ?ziw125 ?_ ?zsw125; (case zlw125 => exact News.isList (by k_asm) (by k_extra "in run")); (case ziw125 => assumption); (case zsw125 => with_unfolding_all rfl); intro _)))
  k_with "compareOp Eq ref ref" => k_extra "my eq"
  k_with "in sub" => (repeat (first | with_reducible assumption | exact List.Mem.head _ | refine mem_tail ?_ | refine sub_mem (by with_reducible assumption) ?_))
  k_with "call builtin:sorted" => k_extra "my sorted"
  k_with "lit item" => (k_here; (with_reducible show wpAny _ _ (subscriptTail _ _ (Value.ref _) (Value.int _ _)) _ _ _); k_dflt (refine' item_litK ?ylw754 ?y0w754 ?y1w754 ?yvw754 ?_ ?ysw754; (case ylw754 => exact News.isList (by k_asm) (by k_extra "in sub")); (case y0w754 => decide); (case y1w754 => decide); (case yvw754 => rfl); (case ysw754 => with_unfolding_all rfl)))
  k_with "compareOp NotEq ref ref" => k_extra "my ne"
  k_with "sub up" => (intro _ hpw596; first | exact hpw596 | (refine sub_mem (by with_reducible assumption) ?_; (repeat (first | with_reducible exact hpw596 | refine mem_tail ?_))))
  k_with "call type:range" => k_extra "my range"
  k_with "keyKind'" => k_extra "my kind"
  k_with "binaryOp Add ref ref" => k_extra "my cat"
  trivial
theorem law_holds : PySem.Challenge.rw_xo0026_01.Holds := close hd w lS0 lS1 lMg lMb lFa lPm lDoc rfl (by
  k_fill
  intro G Y o cd dV kV ho hd hcd hD hmg hg args vals as hpre hlay hrd hwl hlo
  have KX := km_in_of Y
  have hT8 := km_tabs_of Y
  have X := (Ground.X G).1
  have V := (Ground.X G).2
  refine Ground.open G ?_
  intro T B D TE TW
  try (refine guard_noD D (by decide +kernel) ?_; clear D)
  have hT9 : TabsAt ([(228, 224), (262, 260), (133, 129)] : List (Addr × Addr)) lS1.heap := List.forall_mem_cons.mpr ⟨⟨codeHd_of_K (c := 228) KX (by kernel_rfl), hT8 224 (by k_mem)⟩, List.forall_mem_cons.mpr ⟨⟨codeHd_of_K (c := 262) KX (by kernel_rfl), hT8 260 (by k_mem)⟩, List.forall_mem_cons.mpr ⟨tab_of (x := PySem.Str.ofString "add_callers") (c := 133) (P := 129) T KX rfl (by kernel_rfl), fun _ h => nomatch h⟩⟩⟩
  have he9 : cd = PySem.Value.ref 262 := law_code (x := PySem.Str.ofString "law") (c := 262) (P := 260) KX (Top.g T) (by kernel_rfl) hmg ho hd
  subst he9
  clear hmg
  wrow_args hpre hlay hrd hwl hlo
  first | refine callC_kw (enter_call ?_) | refine enter_call ?_
  w_top on
  refine kn_postB hT9 (fun _ _ => rfl) ?_
  w_call any ho hd hcd hD T F
  clear hd
  kn_ghosts F T
  k_drop
  (try k_fold)
  rename_i oKy oLx oWd oDr dKy dLx dWd dDr X0 XX TT KK FF CC1 CC2 NN ll
  replace ll := And.intro ll.1 (And.intro ll.2.1 ll.2.2.1)
  clear X0
  replace dKy : oKy.data = .cell none := dKy
  replace dLx : oLx.data = .cell none := dLx
  replace dWd : oWd.data = .cell none := dWd
  replace dDr : oDr.data = .cell none := dDr
  k_with "my call" => first
    | ((with_reducible show wpAny _ _ (call (Value.ref 217) _) _ _ _); k_dflt (refine' c_drawsF ?aB ?aF ?aX ?aN ?aT ?ak ?a1 ?a2 ?al ?ai ?a6 ?aret; (case' aB => k_asm); (case' aF => k_asm); (case' aX => k_asm); (case' aN => k_asm); (case' aT => k_asm); (case' ak => exact rfl); (case' a1 => exact Nat.le_of_ble_eq_true rfl); (case' a2 => exact Nat.le_of_ble_eq_true rfl); (case' al => assumption); (case' ai => assumption); (case' a6 => omega); (case' aret => (k_whole; intro D1' ds' tD' nD' h' tk' hb' F' N' o1'; (obtain ⟨r', hT'⟩ := toks_ok ds'); (try simp only [LCg.Off1, and_true] at o1'); (try k_sweep)))))
    | ((with_reducible show wpAny _ _ (call (Value.ref 222) _) _ _ _); k_dflt (refine' c_wordsF ?bB ?bF ?bX ?bN ?bT ?bk ?b1 ?b2 ?bm ?bret; (case' bB => k_asm); (case' bF => k_asm); (case' bX => k_asm); (case' bN => k_asm); (case' bT => k_asm); (case' bk => exact rfl); (case' b1 => exact Nat.le_of_ble_eq_true rfl); (case' b2 => exact Nat.le_of_ble_eq_true rfl); (case' bm => k_extra "in sub"); (case' bret => (k_whole; intro W1' tW' nW' h' tk' F' N' o2'; (try simp only [LCg.Off1, and_true] at o2'); (try k_sweep)))))
    | ((with_reducible show wpAny _ _ (call (Value.ref 229) _) _ _ _); k_dflt (refine' c_lexerF ?fB ?fF ?fX ?fN ?fT ?fk ?f1 ?f2 ?fC ?f9 ?fm ?fret; (case' fB => k_asm); (case' fF => k_asm); (case' fX => k_asm); (case' fN => exact bring9th (by k_asm)); (case' fT => k_asm); (case' fk => exact rfl); (case' f1 => exact Nat.le_of_ble_eq_true rfl); (case' f2 => exact Nat.le_of_ble_eq_true rfl); (case' fC => exact CC1); (case' f9 => exact lit_224 ll o1' o2' ‹_› ‹_›); (case' fm => k_extra "in sub"); (case' fret => (k_whole; intro x' dx' pb' left' st' n1' n2' a1' a2' a3' a4' a5' a6' ex' ys' h' tk' F' N' hy' hLex' hEx1' hEx2' hEx3' hEx4' hEx5' q1' q2' q3'; (obtain ⟨R1, N8', hR1, hHd1⟩ := law_ledger N' ll o1' o2' ‹_› ‹_› hEx2' hEx3' hEx4' hEx5' hLex' hEx1'); clear N' hEx2' hEx3' hEx4' hEx5' hLex' hEx1' o1' o2'; (iterate 2 (rename (@Ne Nat _ _ ∧ @Ne Nat _ _ ∧ _) => z9; clear z9)); (obtain ⟨hLex1, h2241, hmH, hmV, hmW, hmD, hmWd, hmDr, nLx1, nKy1, n260a, n129a, ndx1, nleft1, npb1⟩ := hR1); (obtain ⟨hd1, hl1, hp1⟩ := hHd1); (have hx' := Lex.inst hLex1); (with_reducible show wpAny _ _ _ _ _ _); (try k_sweep)))))
    | ((have z9' := sub10); clear z9'; k_dflt ((show wpAny _ _ (call (Value.ref 78) [Value.ref x']) _ _ _); refine' c_queJ (P := (stable (gtK (kAF tot' ds') (kBF tot' ds'))).map (wsF ds')) (x := x') (dx := dx') (pb := pb') (st := st') (left := left') ?wH ?wP ?wi ?wB ?wF ?wX ?wN ?wT ?wk ?w1 ?w2 ?wdl ?wpd ?wpl ?wol ?wod ?wop ?woff ?wJ ?wret; (case' wB => k_asm); (case' wF => k_asm); (case' wX => k_asm); (case' wN => k_asm); (case' wT => k_asm); (case' wk => exact rfl); (case' w1 => exact Nat.le_of_ble_eq_true rfl); (case' w2 => exact Nat.le_of_ble_eq_true rfl); (case' wJ => assumption); (case' wH => exact Lex.mono hLex1 sub10); (case' wP => (rw [List.length_map, stable_len])); (case' wi => assumption); (case' wdl => exact q3'); (case' wpd => exact q1'); (case' wpl => exact q2'); (case' wol => exact z2'); (case' wod => exact z1'); (case' wop => exact z3'); (case' woff => assumption); (case' wret => (k_whole; intro t9' news9' h' tk' hJ9' hO9' F' N'; (try k_sweep)))))
    | ((with_reducible show wpAny _ _ (call (Value.ref 43) _) _ _ _); k_dflt (refine' c_hdn ?kB ?kF ?kX ?kN ?kT ?kk ?k1 ?k2 ?kx ?kb ?kz ?kret; (case' kB => k_asm); (case' kF => k_asm); (case' kX => k_asm); (case' kN => k_asm); (case' kT => k_asm); (case' kk => exact rfl); (case' k1 => exact Nat.le_of_ble_eq_true rfl); (case' k2 => exact Nat.le_of_ble_eq_true rfl); (case' kx => exact rfl); (case' kb => exact hre9'.1); (case' kz => exact hre9'.2.1); (case' kret => (k_whole; intro v' h' tk' e' F' N'; subst e'; (try k_sweep)))))
    | ((with_reducible show wpAny _ _ (call (Value.ref 236) _) _ _ _); k_dflt (refine' c_select ?lB ?lF ?lX ?lN ?lT ?lk ?l1 ?l2 ?lm ?lb0 ?lb1 ?lb2 ?lb3 ?lb4 ?lret; (case' lB => k_asm); (case' lF => k_asm); (case' lX => k_asm); (case' lN => k_asm); (case' lT => k_asm); (case' lk => exact rfl); (case' l1 => exact Nat.le_of_ble_eq_true rfl); (case' l2 => exact Nat.le_of_ble_eq_true rfl); (case' lm => k_extra "in sub"); (case' lb0 => exact hb' 0 (by decide)); (case' lb1 => exact hb' 1 (by decide)); (case' lb2 => exact hb' 2 (by decide)); (case' lb3 => exact hb' 3 (by decide)); (case' lb4 => exact hb' 4 (by decide)); (case' lret => (k_whole; intro D9' T91' T92' ta' tb' tc' td' n9' h' tk' tot' htot' F' N' l1' l2' l3'; clear htot'; (try simp only [AllLt] at l3'); (try k_sweep)))))
    | ((with_reducible show wpAny _ _ (call (Value.ref 243) _) _ _ _); k_dflt (refine' c_run (i1 := ahead tot') (w1 := way1 tot') (i2 := 1 - ahead tot') (w2 := way2 tot') (ws := wsF ds') (vs := vsF ds') (hm := hmF ds') (x := x') (dx := dx') (st := st') (pb := pb') (D := D9') (T1 := T91') (T2 := T92') ?mB ?mF ?mX ?mN ?mT ?mk ?m1 ?m2 ?mG ?mC ?mtr ?mo1 ?mo2 ?mo3 ?mx ?mdx ?mLw ?mLv ?mJ ?mdj ?mD ?mT1 ?mT2 ?mi ?mw1 ?mw2 ?minj ?mre ?mvs ?mret; (case' mB => k_asm); (case' mF => k_asm); (case' mX => k_asm); (case' mN => exact newsPick (e := (pb', _)) (by k_asm) (by k_extra "in sub") (newsPick (e := (129, _)) (by k_asm) (by k_extra "in sub") (newsPick (by k_asm) (List.Mem.head _) (newsPick (by k_asm) (List.Mem.tail _ (List.Mem.head _)) (newsPick (e := (D9', _)) (by k_asm) (by k_extra "in sub") (newsPick (e := (T92', _)) (by k_asm) (by k_extra "in sub") (newsPick (e := (T91', _)) (by k_asm) (by k_extra "in sub") (newsPick (e := (dx', _)) (by k_asm) (by k_extra "in sub") (newsPick (e := (left', _)) (by k_asm) (by k_extra "in sub") (newsPick (e := ((lS1.heap.objs.size + 1 + 1 + 1 : Nat), _)) (by k_asm) (by k_extra "in sub") (newsPick (e := ((lS1.heap.objs.size + 1 + 1 + 1 + 1 : Nat), _)) (by k_asm) (by k_extra "in sub") (newsPick (e := (260, _)) (by k_asm) (by k_extra "in sub") (newsPart (r := R1) (by k_asm) (by lcg_sub)))))))))))))); (case' mT => k_asm); (case' mk => exact rfl); (case' m1 => exact Nat.le_of_ble_eq_true rfl); (case' m2 => exact Nat.le_of_ble_eq_true rfl); (case' mG => exact AllBare.of_eq hg); (case' mC => exact codeHd); (case' mtr => exact trivial); (case' mo1 => exact List.forall_mem_cons.mpr ⟨(by show @Ne Nat _ _; omega), List.forall_mem_cons.mpr ⟨(by show @Ne Nat _ _; omega), List.forall_mem_cons.mpr ⟨(by show @Ne Nat _ _; omega), List.forall_mem_cons.mpr ⟨(by show @Ne Nat _ _; omega), List.forall_mem_cons.mpr ⟨(by show @Ne Nat _ _; omega), List.forall_mem_cons.mpr ⟨Ne.symm q1', List.forall_mem_cons.mpr ⟨Ne.symm q2', List.forall_mem_cons.mpr ⟨Ne.symm hp1.1, List.forall_mem_cons.mpr ⟨Ne.symm hp1.2.1, List.forall_mem_cons.mpr ⟨Ne.symm hp1.2.2.1, npb1⟩⟩⟩⟩⟩⟩⟩⟩⟩⟩); (case' mo2 => exact List.forall_mem_cons.mpr ⟨(by show @Ne Nat _ _; omega), List.forall_mem_cons.mpr ⟨(by show @Ne Nat _ _; omega), List.forall_mem_cons.mpr ⟨(by show @Ne Nat _ _; omega), List.forall_mem_cons.mpr ⟨(by show @Ne Nat _ _; omega), List.forall_mem_cons.mpr ⟨(by show @Ne Nat _ _; omega), List.forall_mem_cons.mpr ⟨hd1.2.2.2, List.forall_mem_cons.mpr ⟨hl1.2.2.2, List.forall_mem_cons.mpr ⟨(by show @Ne Nat _ _; omega), List.forall_mem_cons.mpr ⟨(by show @Ne Nat _ _; omega), List.forall_mem_cons.mpr ⟨(by decide), n129a⟩⟩⟩⟩⟩⟩⟩⟩⟩⟩); (case' mo3 => exact hp1.2.2.2); (case' mx => k_extra "in sub"); (case' mdx => k_extra "in sub"); (case' mLw => ((iterate 10 (refine List.Mem.tail _ ?_)); exact hmW)); (case' mLv => ((iterate 10 (refine List.Mem.tail _ ?_)); exact hmV)); (case' mJ => exact List.Mem.head _); (case' mdj => exact List.Mem.tail _ (List.Mem.head _)); (case' mD => k_extra "in sub"); (case' mT1 => k_extra "in sub"); (case' mT2 => k_extra "in sub"); (case' mi => exact ahead_cases tot'); (case' mw1 => exact way_in (way1_cases tot')); (case' mw2 => exact way_in (way2_cases tot')); (case' minj => exact inj_ok ds'); (case' mre => exact hre_ok ds'); (case' mvs => exact vs_ok ds'); (case' mret => (k_whole; intro bk' ob3' kb3' ps3' R3' h' tk' gs' pv' n3' hG3' sub3' hpv3' hob3' hB3' htr3' r31' r32' r33' lo3' F' N'; (have z3' := sub3'); (simp only [List.forall_mem_cons] at z3'); (obtain ⟨hJ3, hdj3, hD3, hT23, hT13, hdx3, hleft3, hLx3, hKy3, h2603, hR13⟩ := z3'); (rw [line_run] at hpv3'); (with_reducible show wpAny _ _ _ _ _ _); (try k_sweep)))))
    | ((with_reducible show wpAny _ _ (call (Value.ref 248) _) _ _ _); k_dflt (refine' c_keys (i1 := ahead tot') (w1 := way1 tot') (i2 := 1 - ahead tot') (w2 := way2 tot') (vs := vsF ds') (hm := hmF ds') (T1 := T91') (T2 := T92') ?nB ?nF ?nX ?nN ?nT ?nk ?nn1 ?nn2 ?nS ?nT1 ?nT2 ?ni ?nw1 ?nw2 ?nLh ?nLv ?nz ?nret; (case' nB => k_asm); (case' nF => k_asm); (case' nX => k_asm); (case' nN => k_asm); (case' nT => k_asm); (case' nk => exact rfl); (case' nn1 => exact Nat.le_of_ble_eq_true rfl); (case' nn2 => exact Nat.le_of_ble_eq_true rfl); (case' nS => exact .tail _ (.tail _ (.tail _ hD3))); (case' nT1 => exact .tail _ (.tail _ (.tail _ hT13))); (case' nT2 => exact .tail _ (.tail _ (.tail _ hT23))); (case' ni => exact ahead_cases tot'); (case' nw1 => exact way_in (way1_cases tot')); (case' nw2 => exact way_in (way2_cases tot')); (case' nLh => exact .tail _ (.tail _ (.tail _ (hR13 _ hmH)))); (case' nLv => exact .tail _ (.tail _ (.tail _ (hR13 _ hmV)))); (case' nz => exact fun i hi => (hre_ok ds' i hi).2.2.2); (case' nret => (k_whole; intro K' R4' h' tk' hK4' sub4' up4' F' N'; (obtain ⟨R5', N5', o5', hK5', hB5', sub5', hdx5, hleft5, hpb5, hbk5, h2605, h1295, hLx5⟩ := keys_pull N' hK4' sub4' hR13 hKy3 hLx3 hdx3 hleft3 h2603 hB3' hob3' dKy nKy1 ⟨hd1, hl1, hp1⟩ ll); clear N' up4' sub4' hK4'; (with_reducible show wpAny _ _ _ _ _ _); (try k_sweep)))))
    | ((with_reducible show wpAny _ _ (call (Value.ref 258) _) _ _ _); k_dflt (refine' c_due (kA := kAF tot' ds') (kB := kBF tot' ds') (hm := hmF ds') (vs := vsF ds') ?oB ?oF ?oX ?oN ?oT ?ok ?oo1 ?oo2 ?oG ?ovs ?oret; (case' oB => k_asm); (case' oF => k_asm); (case' oX => k_asm); (case' oN => k_asm); (case' oT => k_asm); (case' ok => exact rfl); (case' oo1 => exact Nat.le_of_ble_eq_true rfl); (case' oo2 => exact Nat.le_of_ble_eq_true rfl); (case' oG => exact ⟨KeysAt.mono hK5' (fun p hp => .tail _ hp), ⟨_, _, .tail _ (sub5' _ hmH)⟩, ⟨_, _, .tail _ (sub5' _ hmV)⟩⟩); (case' ovs => exact vs_ok ds'); (case' oret => (k_whole; intro D6' o6' kvs6' R6' h' tk' sub6' ho6' hB6' lo6' o61' F' N'; (with_reducible show wpAny _ _ _ _ _ _); (try k_sweep)))))
    | (k_dflt ((show wpAny _ _ (call (Value.ref 78) [Value.ref x']) _ _ _); refine' c_tokJ (ds := ds') (r := r') (x := x') (dx := dx') (pb := pb') (st := st') (left := left') ?hH ?hK ?hi ?hB ?hF ?hX ?hN ?hT ?hk ?h1 ?h2 ?hdl ?hpd ?hpl ?hol ?hod ?hoff ?hJ ?hret; (case' hB => k_asm); (case' hF => k_asm); (case' hX => k_asm); (case' hN => k_asm); (case' hT => k_asm); (case' hk => exact rfl); (case' h1 => exact Nat.le_of_ble_eq_true rfl); (case' h2 => exact Nat.le_of_ble_eq_true rfl); (case' hJ => assumption); (case' hH => exact Lex.mono hLex1 (by lcg_sub)); (case' hK => exact hT'); (case' hi => assumption); (case' hdl => exact q3'); (case' hpd => exact q1'); (case' hpl => exact q2'); (case' hol => exact List.forall_mem_cons.mpr ⟨Ne.symm hl1.1, List.forall_mem_cons.mpr ⟨Ne.symm hl1.2.1, List.forall_mem_cons.mpr ⟨Ne.symm hl1.2.2.1, List.forall_mem_cons.mpr ⟨Ne.symm hl1.2.2.2, nleft1⟩⟩⟩⟩); (case' hod => exact List.forall_mem_cons.mpr ⟨Ne.symm hd1.1, List.forall_mem_cons.mpr ⟨Ne.symm hd1.2.1, List.forall_mem_cons.mpr ⟨Ne.symm hd1.2.2.1, List.forall_mem_cons.mpr ⟨Ne.symm hd1.2.2.2, ndx1⟩⟩⟩⟩); (case' hoff => assumption); (case' hret => (k_whole; intro t9' news9' h' tk' hJ9' hO9' F' N'; (try k_sweep)))))
  k_with "my range" => ((have z9' := o61'); clear z9'; (with_reducible show wpAny _ _ (call _ [Value.int 5 _]) _ _ _); k_dflt (refine' range_led ?qF ?qN ?q; (case' qF => k_asm); (case' qN => k_asm); k_whole; intro r8' h' tk' t81' t82' t83' F' N' l8'); (have l88' : AllLt r8' _ := allLt_of l8'); clear l8'; (try simp only [AllLt] at l88'); (try k_sweep))
  k_with "my sorted" => (k_here; ksk_kw; ksk_show; k_dflt (refine' sorted_rangeK ?rh ?rF ?rN ?rr ?ra1 ?ra2 ?rt ?r; (case' rh => exact rfl); (case' rF => k_asm); (case' rN => k_asm); (case' rr => exact News.get (by k_asm) (by k_extra "in sub")); (case' ra1 => ksk_a1); (case' ra2 => (intro _; ksk_a2)); (case' rt => (intro _; ksk_a3)); k_whole); intro t80' t81' t82' t83' t84' D8' kS8' e8' h' tk' F' N' l8' l9'; (have l99' : AllLt D8' _ := allLt_of l9'); clear l9'; (try simp only [AllLt] at l99'); (try k_sweep); (try refine (let G9' := _; (?_ : KatKeys _ _ _ _ _ _ _ _ G9' _ _ _ _))))
  k_with "my kind" => (k_dflt (refine' sort_keys (k := Kf7) (kA := kAF tot' ds') (kB := kBF tot' ds') (kS := kS8') (D := D8') ?sF ?sN ?sD ?sn ?sk ?su ?sret; (case' sF => k_asm); (case' sN => k_asm); (case' sD => exact l8'); (case' sn => exact List.forall_mem_cons.mpr ⟨l99'.1, List.forall_mem_cons.mpr ⟨l99'.2.1, List.forall_mem_cons.mpr ⟨l99'.2.2.1, List.forall_mem_cons.mpr ⟨l99'.2.2.2.1, ktn_ltOf l99'.2.2.2.2⟩⟩⟩⟩); (case' sk => exact fun i hi => KeyAt.mono (x := kAF tot' ds' i) (y := kBF tot' ds' i) (hKi7 i hi) (by lcg_sub)); (case' su => ke_room); (case' sret => (k_whole; intro h' t9' c9' c92' F' N'; (obtain ⟨R0', N0', z1', z2', z3', sub0'⟩ := fin_pull N' (.tail _ (.tail _ (.tail _ (.tail _ (.tail _ (.tail _ (hdx7))))))) (.tail _ (.tail _ (.tail _ (.tail _ (.tail _ (.tail _ (hleft7))))))) (.tail _ (.tail _ (.tail _ (.tail _ (.tail _ (.tail _ (hpb7)))))))); (have y1' : @LT.lt Nat _ dx' D8' := ktn_ltOf l99'.2.2.2.2 _ hdx7); (have y2' : @LT.lt Nat _ left' D8' := ktn_ltOf l99'.2.2.2.2 _ hleft7); (have y3' : @LT.lt Nat _ pb' D8' := ktn_ltOf l99'.2.2.2.2 _ hpb7); (have mD0 := sub0' _ (.head _) (Nat.ne_of_gt y1') (Nat.ne_of_gt y2') (Nat.ne_of_gt y3')); (have sub10 : ∀ p ∈ R1, p ∈ R0' := fun p hp => sub0' p (.tail _ (.tail _ (.tail _ (.tail _ (.tail _ (.tail _ (sub17 p hp))))))) (ndx1 p hp) (nleft1 p hp) (npb1 p hp)); (have mLx0 := sub0' _ (.tail _ (.tail _ (.tail _ (.tail _ (.tail _ (.tail _ (hLx7))))))) (Ne.symm hd1.1) (Ne.symm hl1.1) (Ne.symm hp1.1)); (have m1290 := sub0' _ (.tail _ (.tail _ (.tail _ (.tail _ (.tail _ (.tail _ (h1297))))))) (Ne.symm hd1.2.2.2) (Ne.symm hl1.2.2.2) (Ne.symm hp1.2.2.2)); (have m2600 := sub0' _ (.tail _ (.tail _ (.tail _ (.tail _ (.tail _ (.head _)))))) (Ne.symm hd1.2.2.1) (Ne.symm hl1.2.2.1) (Ne.symm hp1.2.2.1)); (have mW0 := sub10 _ hmW); (have mWd0 := sub10 _ hmWd); (have mx0 := sub10 _ hx'); (obtain ⟨ps224', m2240⟩ := h2241); (have m2241 := sub10 _ m2240); clear N' sub0' y1' y2' y3'; (with_reducible show wpAny _ _ _ _ _ _); (try k_sweep)))))
  k_with "my eq" => (k_here; k_dflt (refine' eq_strs (l := (stable (gtK (kAF tot' ds') (kBF tot' ds'))).map (wsF ds') ++ [Str.ofString ""]) ?va ?vb ?v1 ?v2 ?vu ?vh; (case' va => exact News.isList (by k_asm) (by k_extra "in sub")); (case' vb => exact News.isList (by k_asm) (.head _)); (case' v1 => (rw [← que_texts (by rw [List.length_map, stable_len])]; exact hQue')); (case' v2 => exact texts_snoc hOrd'); (case' vu => ke_room)))
  k_with "my callWith" => ((with_reducible show wpAny _ _ (callWith _ (Prod.fst _) _ _ _) _ _ _); k_here; k_dflt (refine' callWith_K0 ?M0a ?M0b ?_; (case M0a => exact Frag.In.keeps (by with_reducible assumption) (Fr.keep (by with_reducible assumption))); (case M0b => k_is); k_whole))
  k_with "my cat" => ((have z9' := hOrd'; clear z9'); k_here; k_dflt (refine' kmk_add_lit (zs := ys5' ++ [Value.str (Str.ofString "") _]) ?cF ?cN ?ca ?cb ?ce ?ch ?cz; (case' cF => k_asm); (case' cN => k_asm); (case' ca => exact News.isList (by k_asm) (by k_extra "in sub")); (case' cb => exact News.isList (by k_asm) (.head _)); (case' ce => exact rfl); (case' cz => ((have zl' := StrsAre.len_eq hOrd'); (rw [List.length_map, stable_len] at zl'); (show ys5'.length + 1 ≤ _); (rw [zl', sizeLine_eq]; exact Nat.le_of_ble_eq_true rfl))); (case' ch => (k_whole; intro D' h' F' N' l1'; clear l1'; (try k_sweep)))))
  k_with "my CompSrc" => first
    | ((with_reducible show LCg.CompSrc _ _ _ _ _ _ _ (PySem.Expr.BinOp _ _ _ (PySem.Pos.mk 210 _ _ _)) _ _ _ _ _ _); k_dflt (refine LCg.CompSrc.ledger (by rfl) (by k_asm) (by k_asm) (by k_extra "in run") (by first | size_fits | exact Nat.le_of_ble_eq_true rfl) ?_; intro g'; refine' rest_each (fun i y => ∃ t, y = Value.int (vsF ds' i) t) ?cturn ?cfin; (case' cturn => (intro i' v' I' oI' C' oC' D' m' ys' h' tk' E' hi' hv' hC' hx' F' N' off' ne'; (obtain ⟨t9', hv9'⟩ := lit5I hv'; subst hv9'); (try simp only [LCg.Off3, and_true] at off'); (try k_fold))); (case' cfin => (intro ys' hn' hg'; (obtain ⟨tt', hy'⟩ := five_intsT (f := fun k => vsF ds' k) hn' hg'); subst hy'; (try k_fold)))))
    | ((with_reducible show LCg.CompSrc _ _ _ _ _ _ _ (PySem.Expr.Subscript _ _ (PySem.Pos.mk 211 _ _ _)) _ _ _ _ _ _); k_extra "range5"; refine' rest_each (fun i y => ∃ t, y = Value.str (hmF ds' i) t) ?dturn ?dfin; (case' dturn => k_extra "my turn"); (case' dfin => (intro ys' hn' hg'; (obtain ⟨tt', hy'⟩ := five_strsT (f := fun k => hmF ds' k) hn' hg'); subst hy'; (try k_fold))))
    | ((with_reducible show LCg.CompSrc _ _ _ _ _ _ _ (PySem.Expr.Call _ _ _ (PySem.Pos.mk 213 _ _ _)) _ _ _ _ _ _); k_dflt (refine LCg.CompSrc.range (n := 6) (by rfl) (by k_asm) (by k_asm) ‹_› (by first | decide | rfl) (by first | rfl | decide) (by first | size_fits | exact Nat.le_of_ble_eq_true rfl) ?_; intro g'; refine' rest_J (TokJ w ds' r' dx' st' pb' left' n1' _) (TokJ.zero hT' hy') ?gturn ?gfin; (case' gturn => (intro i' v' I' oI' C' oC' D' m' ys2' news' h' tk' E' hi' hJ' hv' hC' hx9' F' N' off' ne'; (obtain ⟨t9', hv9'⟩ := hv'; subst hv9'); (have hK' := hJ'); (obtain ⟨b1', b2', b3', b4', b5', b6', ln', n2', yl', e9', hyl', hln', h09', hys'⟩ := hK'; subst e9'); (try k_fold))); (case' gfin => (intro ys2' news' hJ'; (obtain ⟨b1', b2', b3', b4', b5', b6', ln', n2', yl', e9', hyl', hln', h09', hTok'⟩ := hJ'; subst e9'); (rw [hT'.r6] at hyl' hln'; cases hyl'); (have hl3' : ln' = 3 := by have h00' : ln' + 0 = 3 := hln'; omega); subst hl3'; clear hln' h09'; (try k_fold)))))
    | ((with_reducible show LCg.CompSrc _ _ _ _ _ _ _ (PySem.Expr.Call _ [PySem.Expr.Call _ _ _ _] _ (PySem.Pos.mk 215 _ _ _)) _ _ _ _ _ _); k_dflt (refine LCg.CompSrc.ledger (by rfl) (by k_asm) (by k_asm) (by k_extra "in sub") (by first | size_fits | exact Nat.le_of_ble_eq_true rfl) ?_; intro g'; refine' rest_each (fun i y => ∃ t, y = Value.str (boolT (hdn (wsF ds' i))) t) ?iturn ?ifin; (case' iturn => (intro i' v' I' oI' C' oC' D' m' ys2' h' tk' E' hi' hv' hC' hx9' F' N' off' ne'; (obtain ⟨t9', hv9'⟩ := lit5S hv'; subst hv9'); (have hre9' := hre_ok ds' i' hi'); (try simp only [LCg.Off3, and_true] at off'); (try k_fold))); (case' ifin => (intro ys3' hn' hg'; (have hA1' := five_texts (f := fun k => boolT (hdn (wsF ds' k))) hn' hg'); clear hn' hg'; (try k_fold)))))
    | ((with_reducible show LCg.CompSrc _ _ _ _ _ _ _ (PySem.Expr.Call _ [PySem.Expr.Compare _ _ _ _] _ (PySem.Pos.mk 215 _ _ _)) _ _ _ _ _ _); k_dflt (refine LCg.CompSrc.ledger (by rfl) (by k_asm) (by k_asm) (by k_extra "in sub") (by first | size_fits | exact Nat.le_of_ble_eq_true rfl) ?_; intro g'; refine' rest_each (fun i y => ∃ t, y = Value.str (boolT (hdn (wsF ds' i))) t) ?jturn ?jfin; (case' jturn => (intro i' v' I' oI' C' oC' D' m' ys2' h' tk' E' hi' hv' hC' hx9' F' N' off' ne'; (obtain ⟨t9', hv9'⟩ := lit5I hv'; subst hv9'); (have hdn9' := hdn_ok ds' i' hi'); (try simp only [LCg.Off3, and_true] at off'); (try k_fold))); (case' jfin => (intro ys4' hn' hg'; (have hA2' := five_texts (f := fun k => boolT (hdn (wsF ds' k))) hn' hg'); clear hn' hg'; (try k_fold)))))
    | ((with_reducible show LCg.CompSrc _ _ _ _ _ _ _ (PySem.Expr.Call _ _ _ (PySem.Pos.mk 223 _ _ _)) _ _ _ _ _ _); k_dflt (refine LCg.CompSrc.range (n := 6) (by rfl) (by k_asm) (by k_asm) ‹_› (by first | decide | rfl) (by first | rfl | decide) (by first | size_fits | exact Nat.le_of_ble_eq_true rfl) ?_; intro g'; (refine' rest_J (QueJ w ((stable (gtK (kAF tot' ds') (kBF tot' ds'))).map (wsF ds')) dx' st' pb' left' _) (QueJ.zero hpv3') ?xturn ?xfin); (case' xturn => (intro i' v' I' oI' C' oC' D' m' ys2' news' h' tk' E' hi' hJ' hv' hC' hx9' F' N' off' ne'; (obtain ⟨t9', hv9'⟩ := hv'; subst hv9'); (have hK' := hJ'); (obtain ⟨b1', b2', b3', b4', b5', b6', ln', n2', n12', pv2', e9', hpv9', h09', h99', hys'⟩ := hK'; subst e9'); (try k_fold))); (case' xfin => (intro ys2' news' hJ'; (obtain ⟨b1', b2', b3', b4', b5', b6', ln', n2', n12', pv2', e9', hpv9', h09', h99', hQue'⟩ := hJ'; subst e9'); clear hpv9'; (try k_fold)))))
    | ((with_reducible show LCg.CompSrc _ _ _ _ _ _ _ (PySem.Expr.Subscript _ _ (PySem.Pos.mk 223 _ _ _)) _ _ _ _ _ _); k_dflt ((refine LCg.CompSrc.ledger (by rfl) (by k_asm) (by k_asm) (by k_extra "in sub") (by rw [List.size_toArray, List.length_map, stable_len]; exact Nat.le_of_ble_eq_true rfl) ?_); intro g'; refine' rest_each (fun i y => ∃ t, y = Value.str (wsF ds' ((stable (gtK (kAF tot' ds') (kBF tot' ds'))).getD i 9)) t) ?yturn ?yfin; (case' yturn => (intro i' v' I' oI' C' oC' D' m' ys2' h' tk' E' hi' hv' hC' hx9' F' N' off' ne'; (obtain ⟨j9', t9', hv9', hj9', hi9'⟩ := ord_lit stable_lt hv'; subst hv9'); (try simp only [LCg.Off3, and_true] at off'); (try k_fold))); (case' yfin => (intro ys5' hn' hg'; (have hOrd' := ord_texts (ws := wsF ds') hn' hg'); clear hn' hg'; (try k_fold)))))
  k_with "my CompEnd" => first
    | (k_here; k_dflt (exact LCg.CompEnd.intro F' N' news9' (fun p hp => hp) hO9' trivial hJ9'))
    | (k_extra "turn ends"; first | with_reducible exact isT | exact notin_T hdn9' | exact ⟨_, by rw [hi9']⟩ | skip)
    | (k_here; k_dflt (refine LCg.CompEnd.intro (by k_asm) (by k_asm) (by lcg_sub) ‹_› (by lcg_src) ‹_›))
  k_with "my item" => first
    | ((with_reducible show wpAny _ _ (subscriptTail _ _ (Value.ref D1') (Value.int (Nat.cast _) _)) _ _ _); k_here; k_dflt (refine' item_fnI (vs := ds') ?I1 ?I2 ?_ ?I3; (case' I1 => exact News.isList (by with_reducible assumption) (by k_extra "in sub")); (case' I2 => assumption); (case' I3 => with_unfolding_all rfl); intro t'))
    | ((with_reducible show wpAny _ _ (subscriptTail _ _ (Value.ref W1') (Value.int (Nat.cast _) _)) _ _ _); k_extra "fn item")
    | ((with_reducible show wpAny _ _ (subscriptTail _ _ (Value.ref K') (Value.int _ _)) _ _ _); k_extra "lit item")
  k_with "my ne" => first
    | ((with_reducible show wpAny _ _ (compareOp CmpOp.NotEq (Value.ref bk') (Value.ref D6')) _ _ _); k_dflt (refine' book_ne ?pN ?p1 ?p2 ?pd1 ?pd2 ?pB1 ?pB2 ?pl1 ?pl2 ?pe ?pu ?ph; (case' pN => k_asm); (case' p1 => exact .tail _ (sub6' _ (.tail _ hbk5))); (case' p2 => exact .head _); (case' pd1 => exact hob3'); (case' pd2 => exact ho6'); (case' pB1 => exact Book.mono hB5' (fun p hp => .tail _ (sub6' p (.tail _ hp))) (Nat.le_refl _)); (case' pB2 => exact Book.mono hB6' (fun p hp => .tail _ hp) (Nat.le_refl _)); (case' pl1 => exact lo3'); (case' pl2 => exact lo6'); (case' pe => exact book_run tot' ds'); (case' pu => ke_room); (case' ph => (k_whole; (obtain ⟨R7', N7', n2607, hK7', sub7'⟩ := tab_pull (Ky := 0) N' (KeysAt.mono hK5' (fun p hp => .tail _ (sub6' p (.tail _ hp)))) (.tail _ (sub6' _ (.tail _ h2605)))); (have mKy7 := sub7' _ (.tail _ (sub6' _ (.head _))) (by show @Ne Nat (_ + 1) 260; omega)); (have hdx7 := sub7' _ (.tail _ (sub6' _ (.tail _ hdx5))) hd1.2.2.1); (have hleft7 := sub7' _ (.tail _ (sub6' _ (.tail _ hleft5))) hl1.2.2.1); (have hpb7 := sub7' _ (.tail _ (sub6' _ (.tail _ hpb5))) hp1.2.2.1); (have hLx7 := sub7' _ (.tail _ (sub6' _ (.tail _ hLx5))) (by show @Ne Nat (_ + 1) 260; omega)); (have h1297 := sub7' _ (.tail _ (sub6' _ (.tail _ h1295))) (by show @Ne Nat 129 260; decide)); (have sub17 : ∀ p ∈ R1, p ∈ R7' := fun p hp => sub7' p (.tail _ (sub6' p (.tail _ (sub5' p hp)))) (n260a p hp)); (obtain ⟨Kf7, nK7, hKl7, hKi7⟩ := hK7'); clear N' sub7'; (with_reducible show wpAny _ _ _ _ _ _); (try k_sweep)))))
    | (k_here; k_dflt (refine' ne_strs ?na ?nb ?n1 ?n2 ?nu ?nh; (case' na => exact News.isList (by k_asm) (by k_extra "in sub")); (case' nb => exact News.isList (by k_asm) (List.Mem.head _)); (case' n1 => exact hTok'); (case' n2 => exact six_tok); (case' nu => ke_room)))
    | (k_here; k_dflt (refine' ne_strs ?oa ?ob ?o1 ?o2 ?ou ?oh; (case' oa => exact News.isList (by k_asm) (by k_extra "in sub")); (case' ob => exact News.isList (by k_asm) (List.Mem.head _)); (case' o1 => exact hA1'); (case' o2 => exact hA2'); (case' ou => ke_room)))
  k_with "my strs" => (k_here; (with_reducible show wpAny _ _ (subscriptTail _ _ (Value.ref _) (Value.int (Int.fmod _ _) _)) _ _ _); k_dflt (refine' home_pick ?el ?_ ?es; (case' el => exact News.isList (by k_asm) (by k_mem)); (case' es => with_unfolding_all rfl); intro t'))
  k_steps
  · exact ⟨⟨.inl ⟨.bool true, _, [], rfl, fun _ => rfl, ReadsW.bool _, law_post _, fun _ => ⟨List.nodup_nil, fun a ha => nomatch ha⟩⟩, Fr.keep F', rfl, rfl⟩, ⟨⟨_, (N' _ (.tail _ (.tail _ (.tail _ (.tail _ (.tail _ (.tail _ (.tail _ m2241)))))))).1⟩, ⟨_, (N' _ (.tail _ (.tail _ (.tail _ (.tail _ (.tail _ (.tail _ (.tail _ m2600)))))))).1⟩, ⟨_, (N' _ (.tail _ (.tail _ (.tail _ (.tail _ (.tail _ (.tail _ (.tail _ m1290)))))))).1⟩, trivial⟩, hG3'⟩
  all_goals (exact LCg.CompEnd.intro F' N' news9' (fun p hp => hp) hO9' trivial hJ9'))

end Mine
theorem PySem.Challenge.cw_xo0026_01_holds : PySem.Challenge.rw_xo0026_01.Holds :=
  Mine.law_holds

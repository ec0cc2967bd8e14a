import PyProof.Rows.All
import Wide.All
import OpenK.AllK
import Wide.FinOn
import PySem.SetTable
import PySem.SetOps
import PyProof.SetScanFacts
import PyProof.TupleKey
import Wide.More
import PyProof.SetRoads
import PyProof.DictRoadsH
import PyProof.DictStraight
import PyProof.Rows.DictMade
import PyProof.DictIter
import PyProof.ListNew
import PyProof.CollectIter
import KE.KSortAsk
import KE.KSortTup
import PyProof.Rows.SetFrom
import PyProof.Rows.StrBool
import PyProof.DictTruth
import PyProof.TupleOfSeq
import PyProof.ListOps
import PyProof.ListTruth
import PyProof.Methods
import KE.KPop
import KE.KDictList
import PyProof.EqKinds
import PyProof.FactsAll.NoneType
import PyProof.Rows.SeqItemCall
import PyProof.RangeFor
import PyProof.StrWalks
import PyProof.EnumMake
import PyProof.WalksEnum
import PyProof.Rows.CatFin
import PyProof.Rows.MinMaxN
import PyProof.CompFree
import OpenK.KCell
import PyProof.ListIndexNeg
import PyProof.Rows.Range3
import PyProof.SliceMore
import PyProof.RulesTry
import PyProof.RaisesMany
import KE.KTryDeep
import PyProof.Draws
import PyProof.EnumFor
import PySem.Challenge.RW_iu0052_01
open PySem PySem.W PyProof.Rows PySem.Calls
set_option Elab.async false
set_option maxRecDepth 100000
set_option linter.unusedVariables false
set_option linter.unusedSectionVars false
set_option maxHeartbeats 8000000
set_option genInjectivity false
set_option genSizeOf false
set_option genSizeOfSpec false
namespace Mine
theorem holdP {P : Prop} (h : let G:=P;G) : P:=h
theorem min3_le {a b c : Int} : min (min a b) c ≤ a ∧ min (min a b) c ≤ b ∧ min (min a b) c ≤ c :=
 ⟨Int.le_trans (Int.min_le_left _ _) (Int.min_le_left _ _),Int.le_trans (Int.min_le_left _ _) (Int.min_le_right _ _),Int.min_le_right _ _⟩
theorem le_min3 {m a b c : Int} (h1 : m ≤ a) (h2 : m ≤ b) (h3 : m ≤ c) : m ≤ min (min a b) c:=Int.le_min.mpr ⟨Int.le_min.mpr ⟨h1,h2⟩,h3⟩
theorem min3_mono {a b c a' b' c' : Int} (h1 : a ≤ a') (h2 : b ≤ b') (h3 : c ≤ c') : min (min a b) c ≤ min (min a' b') c' :=
 le_min3 (Int.le_trans min3_le.1 h1) (Int.le_trans min3_le.2.1 h2) (Int.le_trans min3_le.2.2 h3)
theorem eq_min3 {m a b c : Int} (h1 : m ≤ a) (h2 : m ≤ b) (h3 : m ≤ c) (h : m = a ∨ m = b ∨ m = c) : m = min (min a b) c :=
 Int.le_antisymm (le_min3 h1 h2 h3) (h.elim (fun e => e ▸ min3_le.1) fun h => h.elim (fun e => e ▸ min3_le.2.1) fun e => e ▸ min3_le.2.2)
theorem min3_or {a b c : Int} : min (min a b) c = a ∨ min (min a b) c = b ∨ min (min a b) c = c :=
 (Int.le_total (min a b) c).elim (fun h => by
  rw [Int.min_eq_left h]
  exact (Int.le_total a b).elim (fun h => .inl (Int.min_eq_left h)) fun h => .inr (.inl (Int.min_eq_right h))) fun h => .inr (.inr (Int.min_eq_right h))
section
variable {α : Type} {M : Model} {A : Around} {a b : Sem α} {Q : α → Shared → Prop} {E : Value → Shared → Prop} {s : Shared}
theorem wp_pos {c : Prop} {i : Decidable c} (h : c) (k : wpAny M A a Q E s) : wpAny M A (@ite _ c i a b) Q E s:=by rw [if_pos h];exact k
theorem wp_neg {c : Prop} {i : Decidable c} (h : ¬ c) (k : wpAny M A b Q E s) : wpAny M A (@ite _ c i a b) Q E s:=by rw [if_neg h];exact k
theorem wp_ite {c : Prop} {i : Decidable c} (h1 : wpAny M A a Q E s) (h2 : wpAny M A b Q E s) : wpAny M A (@ite _ c i a b) Q E s:=by
 by_cases h : c
 ·exact wp_pos h h1
 exact wp_neg h h2
theorem wp_posB {c : Bool} {i : Decidable (c = true)} (h : c = true) (k : wpAny M A a Q E s) : wpAny M A (@ite _ (c = true) i a b) Q E s:=wp_pos h k
theorem wp_negB {c : Bool} {i : Decidable (c = true)} (h : c = false) (k : wpAny M A b Q E s) : wpAny M A (@ite _ (c = true) i a b) Q E s:=wp_neg (by rw [h];exact Bool.false_ne_true) k
end
universe u
theorem xe02 {P0 P1 : Prop} {G : Prop} (h : P0 ∧ P1) (k : P0 → P1 → G) : G:=k h.1 h.2
theorem xe03 {P0 P1 P2 : Prop} {G : Prop} (h : P0 ∧ P1 ∧ P2) (k : P0 → P1 → P2 → G) : G:=k h.1 h.2.1 h.2.2
theorem xe04 {P0 P1 P2 P3 : Prop} {G : Prop} (h : P0 ∧ P1 ∧ P2 ∧ P3) (k : P0 → P1 → P2 → P3 → G) : G:=k h.1 h.2.1 h.2.2.1 h.2.2.2
theorem xe05 {P0 P1 P2 P3 P4 : Prop} {G : Prop} (h : P0 ∧ P1 ∧ P2 ∧ P3 ∧ P4) (k : P0 → P1 → P2 → P3 → P4 → G) : G:=k h.1 h.2.1 h.2.2.1 h.2.2.2.1 h.2.2.2.2
theorem xe07 {P0 P1 P2 P3 P4 P5 P6 : Prop} {G : Prop} (h : P0 ∧ P1 ∧ P2 ∧ P3 ∧ P4 ∧ P5 ∧ P6) (k : P0 → P1 → P2 → P3 → P4 → P5 → P6 → G) : G:=k h.1 h.2.1 h.2.2.1 h.2.2.2.1 h.2.2.2.2.1 h.2.2.2.2.2.1 h.2.2.2.2.2.2
theorem xe11 {α : Sort u} {P0 : α → Prop} {G : Prop} (h : ∃ a,P0 a) (k : ∀ a,P0 a → G) : G:=h.elim fun a h => k a h
theorem xe12 {α : Sort u} {P0 P1 : α → Prop} {G : Prop} (h : ∃ a,P0 a ∧ P1 a) (k : ∀ a,P0 a → P1 a → G) : G:=h.elim fun a h => k a h.1 h.2
theorem xe13 {α : Sort u} {P0 P1 P2 : α → Prop} {G : Prop} (h : ∃ a,P0 a ∧ P1 a ∧ P2 a) (k : ∀ a,P0 a → P1 a → P2 a → G) : G:=h.elim fun a h => k a h.1 h.2.1 h.2.2
theorem xe14 {α : Sort u} {P0 P1 P2 P3 : α → Prop} {G : Prop} (h : ∃ a,P0 a ∧ P1 a ∧ P2 a ∧ P3 a) (k : ∀ a,P0 a → P1 a → P2 a → P3 a → G) : G:=h.elim fun a h => k a h.1 h.2.1 h.2.2.1 h.2.2.2
theorem xe15 {α : Sort u} {P0 P1 P2 P3 P4 : α → Prop} {G : Prop} (h : ∃ a,P0 a ∧ P1 a ∧ P2 a ∧ P3 a ∧ P4 a) (k : ∀ a,P0 a → P1 a → P2 a → P3 a → P4 a → G) : G:=h.elim fun a h => k a h.1 h.2.1 h.2.2.1 h.2.2.2.1 h.2.2.2.2
theorem xe21 {α β : Type} {P0 : α → β → Prop} {G : Prop} (h : ∃ a b,P0 a b) (k : ∀ a b,P0 a b → G) : G:=h.elim fun a h => h.elim fun b h => k a b h
theorem xe22 {α β : Type} {P0 P1 : α → β → Prop} {G : Prop} (h : ∃ a b,P0 a b ∧ P1 a b) (k : ∀ a b,P0 a b → P1 a b → G) : G:=h.elim fun a h => h.elim fun b h => k a b h.1 h.2
theorem xe23 {α β : Type} {P0 P1 P2 : α → β → Prop} {G : Prop} (h : ∃ a b,P0 a b ∧ P1 a b ∧ P2 a b) (k : ∀ a b,P0 a b → P1 a b → P2 a b → G) : G:=h.elim fun a h => h.elim fun b h => k a b h.1 h.2.1 h.2.2
theorem xe24 {α β : Type} {P0 P1 P2 P3 : α → β → Prop} {G : Prop} (h : ∃ a b,P0 a b ∧ P1 a b ∧ P2 a b ∧ P3 a b) (k : ∀ a b,P0 a b → P1 a b → P2 a b → P3 a b → G) : G:=h.elim fun a h => h.elim fun b h => k a b h.1 h.2.1 h.2.2.1 h.2.2.2
theorem xe25 {α β : Type} {P0 P1 P2 P3 P4 : α → β → Prop} {G : Prop} (h : ∃ a b,P0 a b ∧ P1 a b ∧ P2 a b ∧ P3 a b ∧ P4 a b) (k : ∀ a b,P0 a b → P1 a b → P2 a b → P3 a b → P4 a b → G) : G:=h.elim fun a h => h.elim fun b h => k a b h.1 h.2.1 h.2.2.1 h.2.2.2.1 h.2.2.2.2
theorem xe26 {α β : Type} {P0 P1 P2 P3 P4 P5 : α → β → Prop} {G : Prop} (h : ∃ a b,P0 a b ∧ P1 a b ∧ P2 a b ∧ P3 a b ∧ P4 a b ∧ P5 a b) (k : ∀ a b,P0 a b → P1 a b → P2 a b → P3 a b → P4 a b → P5 a b → G) : G:=h.elim fun a h => h.elim fun b h => k a b h.1 h.2.1 h.2.2.1 h.2.2.2.1 h.2.2.2.2.1 h.2.2.2.2.2
theorem xe28 {α β : Type} {P0 P1 P2 P3 P4 P5 P6 P7 : α → β → Prop} {G : Prop} (h : ∃ a b,P0 a b ∧ P1 a b ∧ P2 a b ∧ P3 a b ∧ P4 a b ∧ P5 a b ∧ P6 a b ∧ P7 a b) (k : ∀ a b,P0 a b → P1 a b → P2 a b → P3 a b → P4 a b → P5 a b → P6 a b → P7 a b → G) : G:=h.elim fun a h => h.elim fun b h => k a b h.1 h.2.1 h.2.2.1 h.2.2.2.1 h.2.2.2.2.1 h.2.2.2.2.2.1 h.2.2.2.2.2.2.1 h.2.2.2.2.2.2.2
theorem xe31 {α β γ : Type} {P0 : α → β → γ → Prop} {G : Prop} (h : ∃ a b c,P0 a b c) (k : ∀ a b c,P0 a b c → G) : G:=h.elim fun a h => h.elim fun b h => h.elim fun c h => k a b c h
theorem xe32 {α β γ : Type} {P0 P1 : α → β → γ → Prop} {G : Prop} (h : ∃ a b c,P0 a b c ∧ P1 a b c) (k : ∀ a b c,P0 a b c → P1 a b c → G) : G:=h.elim fun a h => h.elim fun b h => h.elim fun c h => k a b c h.1 h.2
theorem xe33 {α β γ : Type} {P0 P1 P2 : α → β → γ → Prop} {G : Prop} (h : ∃ a b c,P0 a b c ∧ P1 a b c ∧ P2 a b c) (k : ∀ a b c,P0 a b c → P1 a b c → P2 a b c → G) : G:=h.elim fun a h => h.elim fun b h => h.elim fun c h => k a b c h.1 h.2.1 h.2.2
theorem xe34 {α β γ : Type} {P0 P1 P2 P3 : α → β → γ → Prop} {G : Prop} (h : ∃ a b c,P0 a b c ∧ P1 a b c ∧ P2 a b c ∧ P3 a b c) (k : ∀ a b c,P0 a b c → P1 a b c → P2 a b c → P3 a b c → G) : G:=h.elim fun a h => h.elim fun b h => h.elim fun c h => k a b c h.1 h.2.1 h.2.2.1 h.2.2.2
theorem xe36 {α β γ : Type} {P0 P1 P2 P3 P4 P5 : α → β → γ → Prop} {G : Prop} (h : ∃ a b c,P0 a b c ∧ P1 a b c ∧ P2 a b c ∧ P3 a b c ∧ P4 a b c ∧ P5 a b c) (k : ∀ a b c,P0 a b c → P1 a b c → P2 a b c → P3 a b c → P4 a b c → P5 a b c → G) : G:=h.elim fun a h => h.elim fun b h => h.elim fun c h => k a b c h.1 h.2.1 h.2.2.1 h.2.2.2.1 h.2.2.2.2.1 h.2.2.2.2.2
theorem xe37 {α β γ : Type} {P0 P1 P2 P3 P4 P5 P6 : α → β → γ → Prop} {G : Prop} (h : ∃ a b c,P0 a b c ∧ P1 a b c ∧ P2 a b c ∧ P3 a b c ∧ P4 a b c ∧ P5 a b c ∧ P6 a b c) (k : ∀ a b c,P0 a b c → P1 a b c → P2 a b c → P3 a b c → P4 a b c → P5 a b c → P6 a b c → G) : G:=h.elim fun a h => h.elim fun b h => h.elim fun c h => k a b c h.1 h.2.1 h.2.2.1 h.2.2.2.1 h.2.2.2.2.1 h.2.2.2.2.2.1 h.2.2.2.2.2.2
theorem xe38 {α β γ : Type} {P0 P1 P2 P3 P4 P5 P6 P7 : α → β → γ → Prop} {G : Prop} (h : ∃ a b c,P0 a b c ∧ P1 a b c ∧ P2 a b c ∧ P3 a b c ∧ P4 a b c ∧ P5 a b c ∧ P6 a b c ∧ P7 a b c) (k : ∀ a b c,P0 a b c → P1 a b c → P2 a b c → P3 a b c → P4 a b c → P5 a b c → P6 a b c → P7 a b c → G) : G:=h.elim fun a h => h.elim fun b h => h.elim fun c h => k a b c h.1 h.2.1 h.2.2.1 h.2.2.2.1 h.2.2.2.2.1 h.2.2.2.2.2.1 h.2.2.2.2.2.2.1 h.2.2.2.2.2.2.2
theorem xe44 {α β γ δ : Type} {P0 P1 P2 P3 : α → β → γ → δ → Prop} {G : Prop} (h : ∃ a b c d,P0 a b c d ∧ P1 a b c d ∧ P2 a b c d ∧ P3 a b c d) (k : ∀ a b c d,P0 a b c d → P1 a b c d → P2 a b c d → P3 a b c d → G) : G:=h.elim fun a h => h.elim fun b h => h.elim fun c h => h.elim fun d h => k a b c d h.1 h.2.1 h.2.2.1 h.2.2.2
theorem xe45 {α β γ δ : Type} {P0 P1 P2 P3 P4 : α → β → γ → δ → Prop} {G : Prop} (h : ∃ a b c d,P0 a b c d ∧ P1 a b c d ∧ P2 a b c d ∧ P3 a b c d ∧ P4 a b c d) (k : ∀ a b c d,P0 a b c d → P1 a b c d → P2 a b c d → P3 a b c d → P4 a b c d → G) : G:=h.elim fun a h => h.elim fun b h => h.elim fun c h => h.elim fun d h => k a b c d h.1 h.2.1 h.2.2.1 h.2.2.2.1 h.2.2.2.2
theorem xe510 {α β γ δ ε : Type} {P0 P1 P2 P3 P4 P5 P6 P7 P8 P9 : α → β → γ → δ → ε → Prop} {G : Prop} (h : ∃ a b c d e,P0 a b c d e ∧ P1 a b c d e ∧ P2 a b c d e ∧ P3 a b c d e ∧ P4 a b c d e ∧ P5 a b c d e ∧ P6 a b c d e ∧ P7 a b c d e ∧ P8 a b c d e ∧ P9 a b c d e) (k : ∀ a b c d e,P0 a b c d e → P1 a b c d e → P2 a b c d e → P3 a b c d e → P4 a b c d e → P5 a b c d e → P6 a b c d e → P7 a b c d e → P8 a b c d e → P9 a b c d e → G) : G:=h.elim fun a h => h.elim fun b h => h.elim fun c h => h.elim fun d h => h.elim fun e h => k a b c d e h.1 h.2.1 h.2.2.1 h.2.2.2.1 h.2.2.2.2.1 h.2.2.2.2.2.1 h.2.2.2.2.2.2.1 h.2.2.2.2.2.2.2.1 h.2.2.2.2.2.2.2.2.1 h.2.2.2.2.2.2.2.2.2
theorem xe610 {α β γ δ ε ζ : Type} {P0 P1 P2 P3 P4 P5 P6 P7 P8 P9 : α → β → γ → δ → ε → ζ → Prop} {G : Prop} (h : ∃ a b c d e f,P0 a b c d e f ∧ P1 a b c d e f ∧ P2 a b c d e f ∧ P3 a b c d e f ∧ P4 a b c d e f ∧ P5 a b c d e f ∧ P6 a b c d e f ∧ P7 a b c d e f ∧ P8 a b c d e f ∧ P9 a b c d e f) (k : ∀ a b c d e f,P0 a b c d e f → P1 a b c d e f → P2 a b c d e f → P3 a b c d e f → P4 a b c d e f → P5 a b c d e f → P6 a b c d e f → P7 a b c d e f → P8 a b c d e f → P9 a b c d e f → G) : G:=h.elim fun a h => h.elim fun b h => h.elim fun c h => h.elim fun d h => h.elim fun e h => h.elim fun f h => k a b c d e f h.1 h.2.1 h.2.2.1 h.2.2.2.1 h.2.2.2.2.1 h.2.2.2.2.2.1 h.2.2.2.2.2.2.1 h.2.2.2.2.2.2.2.1 h.2.2.2.2.2.2.2.2.1 h.2.2.2.2.2.2.2.2.2
theorem xe76 {α β γ δ ε ζ η : Type} {P0 P1 P2 P3 P4 P5 : α → β → γ → δ → ε → ζ → η → Prop} {G : Prop} (h : ∃ a b c d e f i,P0 a b c d e f i ∧ P1 a b c d e f i ∧ P2 a b c d e f i ∧ P3 a b c d e f i ∧ P4 a b c d e f i ∧ P5 a b c d e f i) (k : ∀ a b c d e f i,P0 a b c d e f i → P1 a b c d e f i → P2 a b c d e f i → P3 a b c d e f i → P4 a b c d e f i → P5 a b c d e f i → G) : G:=h.elim fun a h => h.elim fun b h => h.elim fun c h => h.elim fun d h => h.elim fun e h => h.elim fun f h => h.elim fun i h => k a b c d e f i h.1 h.2.1 h.2.2.1 h.2.2.2.1 h.2.2.2.2.1 h.2.2.2.2.2
theorem xs1 {N i : Nat} (h : i < N) : N - i = N - (i + 1) + 1:=(Nat.succ_pred_eq_of_pos (Nat.sub_pos_of_lt h)).symm
theorem xs2 {N i f : Nat} (h : N - i = f + 1) : N - (i + 1) = f:=congrArg Nat.pred h
theorem xs3 {N i : Nat} (h : N - i = 0) (h2 : i ≤ N) : i = N:=Nat.le_antisymm h2 (Nat.sub_eq_zero_iff_le.mp h)
theorem xs3b {N i : Nat} (h : 0 = N - i) (h2 : i ≤ N) : i = N:=xs3 h.symm h2
theorem xs4 {N i f : Nat} (h : N - i = f + 1) : i < N:=Nat.lt_of_sub_eq_succ h
theorem xs5 {N m f n : Nat} (h0 : N - n < f + 1) (h : n ≤ m) (hm : m < N) : N - (m + 1) < f:=Nat.lt_of_lt_of_le (Nat.sub_succ_lt_self N m hm) (Nat.le_trans (Nat.sub_le_sub_left h N) (Nat.le_of_lt_succ h0))
theorem xs6 {N f n : Nat} (h0 : N - n < f + 1) (h : n ≤ N) (h2 : ¬ n = N) : N - (n + 1) < f:=xs5 h0 (Nat.le_refl _) (Nat.lt_of_le_of_ne h h2)
theorem xs7 {l r f m : Nat} (h : r - l ≤ f + 1) (h2 : l ≤ m) : r - (m + 1) ≤ f:=Nat.le_trans (Nat.sub_le_sub_left (Nat.succ_le_succ h2) r) (Nat.pred_le_pred h)
theorem xs7b {l r f m : Nat} (h : r - l ≤ f + 1) (h2 : m < r) : m - l ≤ f:=Nat.le_of_lt_succ (Nat.lt_of_lt_of_le (Nat.lt_of_le_of_lt (Nat.le_refl _) (by rw [Nat.lt_iff_add_one_le];exact Nat.le_refl _)) (Nat.le_trans (show m - l + 1 ≤ f + 1 from (Nat.lt_or_ge m l).elim (fun e => by rw [Nat.sub_eq_zero_of_le (Nat.le_of_lt e)];exact Nat.succ_le_succ (Nat.zero_le _)) fun e => by rw [← Nat.sub_add_comm e];exact Nat.le_trans (Nat.sub_le_sub_right h2 l) h) (Nat.le_refl _)))
theorem xs8 {n i : Nat} (h : i < n) : n - (i + 1) < n - i:=Nat.sub_succ_lt_self _ _ h
theorem xs8b {n i : Nat} (h : i < n) : n + 1 - (i + 1) < n + 1 - i:=Nat.sub_succ_lt_self _ _ (Nat.lt_succ_of_lt h)
theorem xs9 {j p : Nat} (h : j < p) : j + (p - j - 1) + 1 = p:=by
 rw [Nat.add_assoc,Nat.sub_add_cancel (Nat.sub_pos_of_lt h)];exact Nat.add_sub_cancel' (Nat.le_of_lt h)
theorem xs10 {j n : Nat} (h : j < n) : j + 1 + (n - (j + 1)) = n:=Nat.add_sub_cancel' h
theorem xs11 {p i : Nat} (h : p ≤ i) : p + (i - p) = i:=Nat.add_sub_cancel' h
theorem xs12 {p n : Nat} (h : p ≤ n) : min p n + (n - p + 1) = n + 1:=by rw [Nat.min_eq_left h,← Nat.add_assoc,Nat.add_sub_cancel' h]
theorem xs13 {n j : Nat} : ((n : Int) - (j : Int)).toNat = n - j:=Int.toNat_sub n j
theorem xs14 {x : Nat} (h : 0 < x) : x - 1 + 1 = x:=Nat.sub_add_cancel h
theorem xs14c {x m : Nat} (h : m + 1 ≤ x) : x = x - 1 + 1:=(Nat.sub_add_cancel (Nat.zero_lt_of_lt h)).symm
theorem xs15 {a x : Nat} (h : a < x) : a ≤ x - 1:=Nat.le_sub_one_of_lt h
theorem xs15b {a b x : Nat} (h : a ≤ b) (h2 : b < x) : a ≤ x - 1:=Nat.le_sub_one_of_lt (Nat.lt_of_le_of_lt h h2)
theorem xs16 {n p i : Nat} (h : i < n - p) : p + i < n:=Nat.add_lt_of_lt_sub' h
theorem xs16b {n p i : Nat} (h : i < n - p) : p + i ≤ n:=Nat.le_of_lt (Nat.add_lt_of_lt_sub' h)
theorem xs16c {n p i l : Nat} (h : l = n - p) (h2 : p + i < n) : i < l:=h ▸ Nat.lt_sub_of_add_lt (Nat.add_comm p i ▸ h2)
theorem xs16d {n p i l : Nat} (h : l = n - p) (h2 : p + i ≤ n) : i ≤ l:=h ▸ Nat.le_sub_of_add_le (Nat.add_comm p i ▸ h2)
theorem xs16e {n p i l : Nat} (h : l = n - p) (hp : p ≤ n) (h2 : i ≤ l) : p + i ≤ n:=Nat.add_comm i p ▸ Nat.add_le_of_le_sub hp (h ▸ h2)
theorem xs16f {n p i : Nat} (h : p + i = n) : n - p = i:=by rw [← h,Nat.add_sub_cancel_left]
theorem xs17 {x i k : Nat} (h : k + 1 ≤ x - i) : 0 < x - i - k:=Nat.sub_pos_of_lt h
theorem xs19 {n : Nat} (h : 2 ≤ n) : 2 + (n - (1 + 1)) ≤ n:=Nat.le_of_eq (Nat.add_sub_cancel' h)
theorem xs19b {n m : Nat} (h : 2 ≤ n) (h2 : m ≤ 2 + (n - (1 + 1))) : m ≤ n:=Nat.le_trans h2 (xs19 h)
theorem xs19c {n m : Nat} (h : 2 ≤ n) (h2 : m ≤ 2 + (n - (1 + 1))) : m + (n - m) ≤ n:=Nat.le_of_eq (Nat.add_sub_cancel' (xs19b h h2))
theorem xs19d {n m m' : Nat} (h : 2 ≤ n) (h2 : m ≤ 2 + (n - (1 + 1))) (h3 : m' ≤ m + (n - m)) : m' ≤ n:=Nat.le_trans h3 (xs19c h h2)
theorem xs20 {f x : Nat} (h : f + 1 = x) : x - 1 = f:=by rw [← h];rfl
theorem xs21 {l u : Nat} (h : l ≤ u - 1) (h2 : 0 < u) : l + 1 ≤ u:=Nat.add_le_of_le_sub h2 h
theorem xs22 {k : Nat} (h : 1 ≤ k) : ¬ k = k - 1:=fun e => Nat.lt_irrefl _ (Nat.lt_of_lt_of_le (Nat.sub_lt h Nat.zero_lt_one) (Nat.le_of_eq e))
theorem xs23 {x i r : Nat} (h : r < x + 1 - i) : r ≤ x - i:=Nat.le_sub_of_add_le (Nat.le_of_lt_succ (Nat.add_lt_of_lt_sub h))
theorem xs23b {x i r m : Nat} (h : r < x + 1 - i) (h2 : m < r) : m ≤ x - i:=Nat.le_trans (Nat.le_of_lt h2) (xs23 h)
theorem xs23c {x i r M : Nat} (h : r < x + 1 - i) (h2 : x ≤ M) : i + r ≤ M:=Nat.le_trans (Nat.le_of_lt_succ (Nat.add_lt_of_lt_sub' h)) h2
theorem xs23d {x i r m M : Nat} (h : r < x + 1 - i) (h3 : m < r) (h2 : x ≤ M) : i + m ≤ M:=Nat.le_trans (Nat.add_le_add_left (Nat.le_of_lt h3) i) (xs23c h h2)
theorem xs23e {x i m : Nat} (h : i ≤ x) (h2 : m < x - i + 1) : m < x + 1 - i:=by rw [Nat.sub_add_comm h];exact h2
theorem xs23f {m c : Nat} (h : ¬ m < c) : m = m - c + c:=(Nat.sub_add_cancel (Nat.le_of_not_lt h)).symm
theorem xs23g {x i : Nat} (h : i ≤ x) : 0 < x + 1 - i:=Nat.sub_pos_of_lt (Nat.lt_succ_of_le h)
theorem xs24 {p i : Nat} (h : ¬ i < p) (h2 : ¬ i = p) : i - p = i - p - 1 + 1:=(Nat.sub_add_cancel (Nat.sub_pos_of_lt (Nat.lt_of_le_of_ne (Nat.le_of_not_lt h) (Ne.symm h2)))).symm
theorem xs24b {p i k : Nat} (h : i - p = k + 1) : p + k = i - 1:=by rw [Nat.eq_add_of_sub_eq (Nat.le_of_lt (Nat.lt_of_sub_eq_succ h)) h,Nat.add_comm];exact (congrArg Nat.pred (Nat.add_right_comm k 1 p)).symm
theorem xs25 {x : Int} (h : 0 ≤ x) : (x.toNat : Int) = x:=Int.toNat_of_nonneg h
theorem xs25b {x : Int} (h : 0 ≤ x) : x = (x.toNat : Int):=(Int.toNat_of_nonneg h).symm
theorem xs25c {x : Int} {n : Nat} (h : x < (n : Int) + 1) : x.toNat ≤ n:=Int.toNat_le.mpr (Int.lt_add_one_iff.mp h)
theorem xs25d {x m : Int} (h : 0 ≤ x) (h2 : x < m + 1) : 0 ≤ x ∧ x ≤ m:=⟨h,Int.lt_add_one_iff.mp h2⟩
theorem xs25e {x : Int} {n : Nat} (h : x < n) (h0 : 0 ≤ x) : x.toNat < n:=(Int.toNat_lt h0).mpr h
theorem xs25f {a b : Int} (h : a ≤ b) : a.toNat ≤ b.toNat:=Int.toNat_le_toNat h
theorem xs26 {u e : Nat} (h : e + 1 ≤ u) : u - e < u + 1 - e:=by rw [Nat.sub_add_comm (Nat.le_of_lt h)];exact Nat.lt_succ_self _
theorem xs28 {a b : Nat} : a - b ≤ a:=Nat.sub_le _ _
theorem xs29 {p j : Nat} : p + j - p = j:=Nat.add_sub_cancel_left p j
theorem xs30 {l k : Nat} (h : l ≤ k) : k - (k - l) = l:=Nat.sub_sub_self h
theorem xs31 {p i n : Nat} (h : p ≤ i) (h2 : i < n) : i - p < n - p:=Nat.sub_lt_sub_right h h2
theorem xs32 {l r i : Nat} (h : r - l ≤ 0) (h2 : l ≤ i) : r ≤ i:=Nat.le_trans (Nat.sub_eq_zero_iff_le.mp (Nat.le_zero.mp h)) h2
theorem xs32b {l r : Nat} (h : r - l ≤ 0) (h2 : l ≤ r) : l = r:=Nat.le_antisymm h2 (Nat.sub_eq_zero_iff_le.mp (Nat.le_zero.mp h))
theorem xs33 {n i : Nat} (h : i ≥ n) : n - i = 0:=Nat.sub_eq_zero_of_le h
theorem xs34 {x : Int} (h : 0 ≤ x) (h3 : x < 3) : x = 0 ∨ x = 1 ∨ x = 2:=by
 match x,h,h3 with
 | 0,_,_ => exact .inl rfl
 | 1,_,_ => exact .inr (.inl rfl)
 | 2,_,_ => exact .inr (.inr rfl)
 | (n + 3 : Nat),_,h => exact absurd h (Int.not_lt.mpr (Int.ofNat_le.mpr (Nat.le_add_left 3 n)))
theorem xs36 {lo hi : Nat} (h : lo < hi) : lo ≤ (lo + hi) / 2:=(Nat.le_div_iff_mul_le (by decide)).mpr (by rw [Nat.mul_two];exact Nat.add_le_add_left (Nat.le_of_lt h) _)
theorem xs36b {lo hi : Nat} (h : lo < hi) : (lo + hi) / 2 < hi:=(Nat.div_lt_iff_lt_mul (by decide)).mpr (by rw [Nat.mul_two];exact Nat.add_lt_add_right h _)
theorem xs36c {lo hi fuel : Nat} (h : hi - lo ≤ fuel + 1) (h2 : lo < hi) : hi - ((lo + hi) / 2 + 1) ≤ fuel:=xs7 h (xs36 h2)
theorem xs36d {lo hi fuel : Nat} (h : hi - lo ≤ fuel + 1) (h2 : lo < hi) : (lo + hi) / 2 - lo ≤ fuel:=xs7b h (xs36b h2)
theorem xs36e {lo hi n : Nat} (h : lo < hi) (h2 : hi ≤ n) : (lo + hi) / 2 < n:=Nat.lt_of_lt_of_le (xs36b h) h2
theorem xs36f {lo hi n : Nat} (h : lo < hi) (h2 : hi ≤ n) : (lo + hi) / 2 ≤ n:=Nat.le_of_lt (xs36e h h2)
theorem xs38 {i j k : Nat} (h : i < j) (h2 : j < k) : k - 1 - j < k - 1 - i:=Nat.sub_lt_sub_left (Nat.lt_of_lt_of_le h (Nat.le_sub_one_of_lt h2)) h
theorem xs38b {i j k : Nat} (h : i < j) (h2 : j < k) : k - 1 - i < k:=Nat.lt_of_le_of_lt (Nat.sub_le _ _) (Nat.sub_lt (Nat.zero_lt_of_lt h2) Nat.zero_lt_one)
theorem xs39 {i j l : Nat} (h : i < j) (h2 : l < i) : i - 1 < j - 1:=Nat.sub_lt_sub_right (Nat.zero_lt_of_lt h2) h
theorem xs40 {n : Nat} (h : n ≤ 4) : n = 0 ∨ n = 1 ∨ n = 2 ∨ n = 3 ∨ n = 4 :=
 match n,h with
 | 0,_ => .inl rfl
 | 1,_ => .inr (.inl rfl)
 | 2,_ => .inr (.inr (.inl rfl))
 | 3,_ => .inr (.inr (.inr (.inl rfl)))
 | 4,_ => .inr (.inr (.inr (.inr rfl)))
theorem xs41 {p n i : Nat} (h : p ≤ n) (h2 : ¬ i < p) : min p n ≤ i:=Nat.le_trans (Nat.min_le_left _ _) (Nat.le_of_not_lt h2)
theorem xs42 {n i j : Nat} (hj : j < n) (h : j + 1 ≤ i) : j < min i n:=Nat.lt_min.mpr ⟨h,hj⟩
theorem xs43 {n : Nat} : n ≤ ((n - 1 : Nat) + 1 : Int).toNat:=Nat.le_add_of_sub_le (Nat.le_refl _)
theorem xs44 {i : Nat} : i + 9 - i + 1 ≤ 10:=by rw [Nat.add_sub_cancel_left];exact Nat.le_refl _
theorem xs44b {i r n : Nat} (h : i + 9 ≤ n) (h2 : r ≤ i + 9 - i) : i + r ≤ n:=Nat.le_trans (Nat.add_le_add_left (Nat.le_trans h2 (Nat.le_of_eq (Nat.add_sub_cancel_left i 9))) i) h
theorem xs46 {a b : Nat} (h : a ≠ b) (h2 : a ≤ b) : a < b:=Nat.lt_of_le_of_ne h2 h
theorem xs50 {x y z : Int} (h : decide (x < y) = true) (h2 : decide (y < z) = true) : x < z:=Int.lt_trans (of_decide_eq_true h) (of_decide_eq_true h2)
theorem xs39b {i j l k : Nat} (h : i < j) (h2 : l < i ∧ i ≤ k) : i - 1 < j - 1:=Nat.sub_lt_sub_right (Nat.zero_lt_of_lt h2.1) h
theorem xs55 {n m : Nat} (h : 2 ≤ n) (h2 : m ≤ 1 + (n - 1)) (h3 : ¬ (m == n) = true) : m < n:=Nat.lt_of_le_of_ne (Nat.le_trans h2 (Nat.le_of_eq (Nat.add_sub_cancel' (Nat.le_of_lt h)))) fun e => h3 (beq_iff_eq.mpr e)
theorem xs56 {e l n : Nat} (h : e = l - 1) (h2 : e ≤ n) : l ≤ n + 1:=Nat.le_add_of_sub_le (h ▸ h2)
theorem xs58 {i j k l : Nat} : ((i : Int) = j ∧ (k : Int) = l) ↔ (i = j ∧ k = l):=and_congr Int.ofNat_inj Int.ofNat_inj
theorem xs60 {k f n : Nat} (h : k + (f + 1) ≤ n) : k - 1 < n:=Nat.lt_of_lt_of_le (Nat.lt_of_le_of_lt (Nat.sub_le k 1) (Nat.lt_add_of_pos_right (Nat.succ_pos f))) h
theorem xs61 {m x y : Nat} (h : m = x - 1) (h2 : x = y) (h3 : y ≤ 2 ^ 13) : m ≤ 8191:=by rw [h,h2];exact Nat.sub_le_sub_right h3 1
theorem xs63 {m : Nat} (h : m > 1) : ¬ 0 = m - 1:=Nat.ne_of_lt (Nat.sub_pos_of_lt h)
theorem xs64 {i j : Nat} (h : i < j) (h2 : i ≥ j - 1) : i = j - 1:=Nat.le_antisymm (Nat.le_sub_one_of_lt h) h2
theorem xs67 {k : Nat} (h : 1 ≤ k) : ¬ k - 1 = k:=fun e => xs22 h e.symm
theorem xs68 {n : Nat} (h : 2 ≤ n) : 1 < 1 + (n - 1):=Nat.lt_add_of_pos_right (Nat.sub_pos_of_lt h)
theorem xs69 {n p : Nat} (h : ¬ (p : Int) < n) : 0 = ((n - p : Nat) : Int):=by rw [Nat.sub_eq_zero_of_le (Int.ofNat_le.mp (Int.not_lt.mp h))];rfl
theorem xs70 {n p : Nat} (h : (p : Int) < n) : (n : Int) - p = ((n - p : Nat) : Int):=(Int.ofNat_sub (Nat.le_of_lt (Int.ofNat_lt.mp h))).symm
theorem xs71 {n j : Nat} (h : ¬ j ≤ n) : min (j : Int) n = n:=Int.min_eq_right (Int.ofNat_le.mpr (Nat.le_of_not_le h))
theorem xs72 {l r : Nat} (h : ¬ l ≥ r) : l ≤ (l + r) / 2:=xs36 (Nat.lt_of_not_le h)
theorem xs72b {l r : Nat} (h : ¬ l ≥ r) : (l + r) / 2 < r:=xs36b (Nat.lt_of_not_le h)
theorem xs77 {a b : Nat} (h : ¬ a ≤ b) : b < a:=Nat.lt_of_not_le h
theorem xs77b {a b : Nat} (h : ¬ a < b) : b ≤ a:=Nat.le_of_not_lt h
theorem xs78 {i j l : Nat} (h : i < j) (h2 : i = l) : l ≤ j - 1:=h2 ▸ Nat.le_sub_one_of_lt h
theorem xs79 {x y : Int} (h : ¬ x = y) (h2 : ¬ x < y) : y < x:=Int.lt_iff_le_and_ne.mpr ⟨Int.not_lt.mp h2,fun e => h e.symm⟩
theorem xs80 {a b c : Nat} (h : a < b) (h2 : b ≤ c) : a < c:=Nat.lt_of_lt_of_le h h2
theorem xs82 {a b c : Nat} (h : a ≤ b) (h2 : b ≤ c) : a ≤ c:=Nat.le_trans h h2
theorem xs84 {a b c : Nat} (h : a ≤ b) (h2 : b < c) : a < c:=Nat.lt_of_le_of_lt h h2
theorem xs86 {a b c : Nat} (h : a < b) (h2 : b < c) : a < c:=Nat.lt_trans h h2
theorem xs87 {a b c : Nat} (h : b < c) (h2 : a < b) : a < c:=Nat.lt_trans h2 h
theorem xs88 {a b : Nat} (h : a < b) : a ≤ b:=Nat.le_of_lt h
theorem xs89 {a b : Nat} (h : a < b) : a ≠ b:=Nat.ne_of_lt h
theorem xs89b {a b : Nat} (h : a < b) : b ≠ a:=Nat.ne_of_gt h
theorem xs91 {a b : Nat} (h : a ≤ b) : a < b + 1:=Nat.lt_succ_of_le h
theorem xs91b {a b : Nat} (h : a < b) : a < b + 1:=Nat.lt_succ_of_lt h
theorem xs91c {a b : Nat} (h : a ≤ b) : a ≤ b + 1:=Nat.le_succ_of_le h
theorem xs94 {a b c : Nat} (h : a = b) (h2 : b ≤ c) : a ≤ c:=h ▸ h2
theorem xs94b {a b c : Nat} (h : a = b) (h2 : b < c) : a < c:=h ▸ h2
theorem xs94d {a b c : Nat} (h : b = a) (h2 : b < c) : a < c:=h ▸ h2
theorem xs94e {a b c : Nat} (h : c = b) (h2 : a < b) : a < c:=h ▸ h2
theorem xs94f {a b c : Nat} (h : b = c) (h2 : a < b) : a < c:=h ▸ h2
theorem xs95b {a b : Nat} (h : ¬ a = b) (h2 : ¬ a < b) : b < a:=Nat.lt_of_le_of_ne (Nat.le_of_not_lt h2) (Ne.symm h)
theorem xs96 {a b : Nat} (h : ¬ a < b) (h2 : a ≤ b) : a = b:=Nat.le_antisymm h2 (Nat.le_of_not_lt h)
theorem xs97 {k n : Nat} (h : k < n) : k - 1 < n:=Nat.lt_of_le_of_lt (Nat.sub_le k 1) h
theorem xs100 {a b c d : Nat} (h : 1024 - a + c = d) (h2 : b = a + 1) (h3 : a + 1 ≤ 1023) : 1024 - b + (c + (0 + 1)) = d:=by
 rw [h2,← h,xs1 (show a < 1024 from Nat.lt_of_lt_of_le h3 (by decide)),Nat.zero_add,← Nat.add_assoc,Nat.add_right_comm]
theorem xs102 {a b : Nat} (h : ¬ a % 2 = b % 2) : (a + 1) % 2 = b % 2 :=
 (Nat.mod_two_eq_zero_or_one a).elim (fun ha => (Nat.mod_two_eq_zero_or_one b).elim (fun hb => absurd (ha.trans hb.symm) h) fun hb => (by rw [Nat.add_mod,ha,hb])) fun ha => (Nat.mod_two_eq_zero_or_one b).elim (fun hb => (by rw [Nat.add_mod,ha,hb])) fun hb => absurd (ha.trans hb.symm) h
theorem xs103 {n : Nat} : min 8 n - min 2 n ≤ 6:=Nat.sub_le_of_le_add ((Nat.le_total n 2).elim (fun h => by rw [Nat.min_eq_right h];exact Nat.le_trans (Nat.min_le_right _ _) (Nat.le_add_left _ _)) fun h => by rw [Nat.min_eq_left h];exact Nat.min_le_left _ _)
theorem xs105 {l k : Nat} (h : l = k + 1) (h2 : l ≤ 10) : 20 - l < 20 - k:=Nat.sub_lt_sub_left (Nat.lt_of_lt_of_le (h ▸ Nat.lt_succ_self k) (Nat.le_trans h2 (by decide))) (h ▸ Nat.lt_succ_self k)
theorem xs101 {a b r q f n : Nat} (h1 : n = 2 * (60 - a) + (f + 1)) (h2 : a + r ≤ b) (h3 : b ≤ 60) (h4 : q = r) : 2 * (60 - b) + (f + q) < n:=by
 have h6:=Nat.mul_le_mul_left 2 (show 60 - b + r ≤ 60 - a from Nat.le_sub_of_add_le (by rw [Nat.add_assoc];exact Nat.le_trans (Nat.add_le_add_left (Nat.add_comm a r ▸ h2) _) (Nat.le_of_eq (Nat.sub_add_cancel h3))))
 generalize 60 - b = x at *
 generalize 60 - a = y at *
 clear h2 h3
 lia
theorem boolAll {P : Bool → Prop} (h : P true) (k : P true → P false) : ∀ b,P b
 | true => h
 | false => k h
section
local macro_rules | `(tactic| o_head $_) => `(tactic| assumption)
theorem pre (h : PySem.Challenge.rw_iu0052_01.row.Holds) : PySem.Challenge.rw_iu0052_01.row.Holds:=by k_head
end
noncomputable def adrs : List Addr:=[2,3,15,17,18,20,21,22,24,25,27,28,29,36,38,39,41,42,43,45,46,48,49,50,52,53,55,56,57,59,60,62,63,64,66,67,69,70,71,73,74,76,77,78,79,81,82,84,85,86,88,89,91,92,93,95,96,98,99,100,102,103,105,106,107,109,110,112,113,114,116,117,119,120,121,123,124,126,127,128,129,131,132,134,135,136,138,139,141,142,143,144,145,146,147,150,157,159,160,162,163,164,166,167,169,170,171,173,174,176,177,178,180,181,183,184,185,187,188,190,191,192,194,195,197,198,199,201,202,204,205,206,208,209,211,212,213,215,216,218,219,220,222,223,225,226,227,229,230,232,233,234,235,236,239,246,248,249,251,252,253,255,256,258,259,260,262,263,265,266,267,269,270,272,273,274,276,277,279,280,281,283,284,286,287,288,290,291,293,294,295,296,298,299,301,302,303,305,306,308,309,310,311,313,314,316,317,318,320,321,323,324,325,327,328,330,331,332,333,334,337,338,340,341,343,344,345,347,348,350,351,352,354,355,357,358,359,362,363,364,366,367,369,370]
noncomputable abbrev pg : Program:=PySem.Challenge.rw_iu0052_01.row.prog
noncomputable def keepAt : List Nat → List Stmt → List Stmt
 | [],_ => []
 | i :: r,l => match l[i]? with
  | some s => s :: keepAt r l
  | none => keepAt r l
noncomputable def vw : Program:={ pg with main:={ pg.main with body:=keepAt [0,2,3,4,5,6,7,11,12,13,14] pg.main.body } }
noncomputable abbrev Sg:=Addr → Option Obj
noncomputable abbrev Sd:=List (Addr × Obj)
noncomputable def upd (σ : Sg) (a : Addr) (o : Obj) : Sg:=fun b => if b = a then some o else σ b
theorem upd_self (σ : Sg) (a : Addr) (o : Obj) : upd σ a o a = some o:=by simp [upd]
theorem upd_ne {σ : Sg} {a b : Addr} {o : Obj} (h : b ≠ a) : upd σ a o b = σ b:=by simp [upd,h]
structure Own (ι : Sd) (h₀ : Heap) (L : Addr) (h : Heap) (σ : Sg) : Prop where
 cell : ∀ a o,σ a = some o → h.get? a = some o ∧ a ≠ L ∧ h₀.get? a = none
 side : ∀ p ∈ ι,h.get? p.1 = some p.2 ∧ p.1 ≠ L ∧ h₀.get? p.1 = none ∧ σ p.1 = none
noncomputable def Keeps (foot : Addr → Prop) (σ σ' : Sg) : Prop:=∀ a o,σ a = some o → ¬ foot a → σ' a = some o
noncomputable def Ext (σ σ' : Sg) : Prop:=∀ a o,σ a = some o → σ' a = some o
theorem Ext.refl (σ : Sg) : Ext σ σ:=fun _ _ h => h
theorem Ext.trans {a b c : Sg} (h : Ext a b) (k : Ext b c) : Ext a c:=fun x o e => k x o (h x o e)
theorem ne_of_none {σ : Sg} {a b : Addr} {o : Obj} (h : σ a = none) (e : σ b = some o) : b ≠ a:=fun q => by rw [q,h] at e;cases e
theorem Ext.upd {σ : Sg} {a : Addr} {o : Obj} (h : σ a = none) : Ext σ (upd σ a o):=fun b x e => by
 rw [upd_ne (ne_of_none h e)];exact e
theorem Ext.upd' {σ₀ σ : Sg} {a : Addr} {o : Obj} (h : Ext σ₀ σ) (hn : σ₀ a = none) : Ext σ₀ (Mine.upd σ a o):=fun b x e => by
 rw [upd_ne (ne_of_none hn e)];exact h b x e
noncomputable def Same (s s' : Shared) : Prop:=s'.gens = s.gens ∧ s'.os = s.os
theorem Same.refl (s : Shared) : Same s s:=⟨rfl,rfl⟩
theorem Same.trans {a b c : Shared} (h : Same a b) (k : Same b c) : Same a c:=⟨k.1.trans h.1,k.2.trans h.2⟩
section
variable {ι : Sd} {h₀ h h' : Heap} {L a : Addr} {σ : Sg} {m m' : Str → Option Value} {o : Obj}
theorem Own.get (O : Own ι h₀ L h σ) (e : σ a = some o) : h.get? a = some o:=(O.cell a o e).1
theorem Own.ne (O : Own ι h₀ L h σ) (e : σ a = some o) : a ≠ L:=(O.cell a o e).2.1
theorem Own.lt (O : Own ι h₀ L h σ) (e : σ a = some o) : a < h.objs.size:=Heap.lt_size (O.cell a o e).1
theorem Own.setL (O : Own ι h₀ L h σ) (hs : Heap.SameBut L h h') : Own ι h₀ L h' σ :=
 ⟨fun b x e => ⟨(hs.2 b (O.cell b x e).2.1).trans (O.cell b x e).1,(O.cell b x e).2⟩,fun p hp => ⟨(hs.2 _ (O.side p hp).2.1).trans (O.side p hp).1,(O.side p hp).2⟩⟩
theorem Own.fresh (O : Own ι h₀ L h σ) {n : Addr} (hn : h.objs.size ≤ n) : σ n = none:=by
 cases q : σ n with
 | none => rfl
 | some x => exact absurd (O.lt q) (Nat.not_lt.mpr hn)
theorem Own.set (O : Own ι h₀ L h σ) (e : σ a = some o) (hs : Heap.SameBut a h h') {o' : Obj} (ho : h'.get? a = some o') : Own ι h₀ L h' (upd σ a o'):=by
 refine ⟨fun b x q => ?_,fun p hp => ?_⟩
 ·by_cases hb : b = a
  ·subst hb;rw [upd_self] at q;cases q;exact ⟨ho,(O.cell _ _ e).2⟩
  rw [upd_ne hb] at q;exact ⟨(hs.2 b hb).trans (O.cell b x q).1,(O.cell b x q).2⟩
 refine xe04 (O.side p hp) fun p1 p2 p3 p4 => ?_
 have hb : p.1 ≠ a:=fun z => by rw [z,e] at p4;cases p4
 exact ⟨(hs.2 _ hb).trans p1,p2,p3,by rw [upd_ne hb];exact p4⟩
theorem frSet (F : Fr h₀ L h m) (O : Own ι h₀ L h σ) (e : σ a = some o) (hs : Heap.SameBut a h h') : Fr h₀ L h' m:=by
 refine xe32 F.ns fun oL es ep hL r => ?_
 refine ⟨⟨oL,es,ep,(hs.2 L fun q => (O.cell a o e).2.1 q.symm).trans hL,r⟩,fun b x q => (hs.2 b fun z => ?_).trans (F.keep b x q),F.above⟩
 subst z;rw [(O.cell _ _ e).2.2] at q;cases q
theorem newBase (F : Fr h₀ L h m) : h.objs.size ≠ L ∧ h₀.get? h.objs.size = none:=by
 refine xe32 F.ns fun oL _ _ hL _ => ?_
 refine ⟨Nat.ne_of_gt (Heap.lt_size hL),?_⟩
 cases hq : h₀.get? h.objs.size with
 | none => rfl
 | some o' => exact absurd (Heap.lt_size (F.keep _ _ hq)) (Nat.lt_irrefl _)
theorem Own.push (F : Fr h₀ L h m) (O : Own ι h₀ L h σ) (o : Obj) (hf : o.isFreed = false:=by rfl) : Own ι h₀ L (h.push o) (upd σ h.objs.size o):=by
 refine xe02 (newBase F) fun n1 n2 => ?_
 refine ⟨fun b x q => ?_,fun p hp => ?_⟩
 ·by_cases hb : b = h.objs.size
  ·subst hb;rw [upd_self] at q;cases q
   exact ⟨Heap.get?_push_size _ hf,n1,n2⟩
  rw [upd_ne hb] at q;exact ⟨Heap.get?_push_of_some _ (O.cell b x q).1,(O.cell b x q).2⟩
 refine xe04 (O.side p hp) fun p1 p2 p3 p4 => ?_
 exact ⟨Heap.get?_push_of_some _ p1,p2,p3,by rw [upd_ne (Nat.ne_of_lt (Heap.lt_size p1))];exact p4⟩
theorem Own.more (O : Own ι h₀ L h σ) (k : ∀ b o,h.get? b = some o → h'.get? b = some o) : Own ι h₀ L h' σ :=
 ⟨fun b x q => ⟨k _ _ (O.cell b x q).1,(O.cell b x q).2⟩,fun p hp => ⟨k _ _ (O.side p hp).1,(O.side p hp).2⟩⟩
end
noncomputable def toL (σ : Sg) (n : Nat) : List (Addr × Obj):=(List.range n).filterMap fun a => (σ a).map fun o => (a,o)
theorem mem_toL {σ : Sg} {n : Nat} {p : Addr × Obj} : p ∈ toL σ n ↔ p.1 < n ∧ σ p.1 = some p.2:=by
 unfold toL
 rw [List.mem_filterMap]
 constructor
 ·intro zq1
  refine xe12 zq1 fun a ha e => ?_
  try clear zq1
  cases q : σ a with
  | none => rw [q] at e;cases e
  | some o => rw [q] at e;cases e;exact ⟨List.mem_range.mp ha,q⟩
 intro zq2
 refine xe02 zq2 fun h1 h2 => ?_
 try clear zq2
 exact ⟨p.1,List.mem_range.mpr h1,by rw [h2];rfl⟩
section
variable {ι : Sd} {h₀ h g : Heap} {L L' : Addr} {σ : Sg}
theorem Own.news (O : Own ι h₀ L h σ) (n : Nat) : News h₀ L h (toL σ n ++ ι):=fun p hp => by
 rcases List.mem_append.mp hp with hp | hp
 ·exact O.cell p.1 p.2 (mem_toL.mp hp).2
 exact ⟨(O.side p hp).1,(O.side p hp).2.1,(O.side p hp).2.2.1⟩
theorem Own.ofNews (O : Own ι g L' h σ) (N : News h₀ L h (toL σ h.objs.size ++ ι)) : Own ι h₀ L h σ :=
 ⟨fun a o e => N (a,o) (List.mem_append_left _ (mem_toL.mpr ⟨O.lt e,e⟩)),fun p hp => ⟨(N p (List.mem_append_right _ hp)).1,(N p (List.mem_append_right _ hp)).2.1,(N p (List.mem_append_right _ hp)).2.2,(O.side p hp).2.2.2⟩⟩
theorem Own.ofNews' (O : Own ι h₀ L h σ) {h₁ : Heap} (N : News g L' h₁ (toL σ h.objs.size ++ ι)) : Own ι g L' h₁ σ :=
 ⟨fun a o e => N (a,o) (List.mem_append_left _ (mem_toL.mpr ⟨O.lt e,e⟩)),fun p hp => ⟨(N p (List.mem_append_right _ hp)).1,(N p (List.mem_append_right _ hp)).2.1,(N p (List.mem_append_right _ hp)).2.2,(O.side p hp).2.2.2⟩⟩
end
noncomputable def LeaveS (ι : Sd) (h₀ : Heap) (L : Addr) (m : Str → Option Value) (g : Heap) (R : Result → Shared → Prop) (v : Value) (s' : Shared) : Prop :=
 ∃ L' m' σ',Fr g L' s'.heap m' ∧ Own ι g L' s'.heap σ' ∧ (Fr h₀ L s'.heap m → Own ι h₀ L s'.heap σ' → R (.ok (.ret v)) s')
theorem leaveS {ι : Sd} {h₀ g : Heap} {L L' : Addr} {m m' : Str → Option Value} {σ' : Sg} {R : Result → Shared → Prop} {v : Value} {s' : Shared} (F' : Fr g L' s'.heap m') (O' : Own ι g L' s'.heap σ')
  (k : Fr h₀ L s'.heap m → Own ι h₀ L s'.heap σ' → R (.ok (.ret v)) s') : LeaveS ι h₀ L m g R v s':=⟨L',m',σ',F',O',k⟩
theorem LeaveS.toK {ι : Sd} {h₀ g : Heap} {L : Addr} {m : Str → Option Value} {R : Result → Shared → Prop} {v : Value} {s' : Shared} (h : LeaveS ι h₀ L m g R v s') : LeaveK h₀ L m g R v s':=by
 refine xe33 h fun L' m' σ' F' O' k => ?_
 try clear h
 exact ⟨L',m',toL σ' s'.heap.objs.size ++ ι,F',O'.news _,fun F N => k F (O'.ofNews N)⟩
section
variable {ι : Sd} {prog : Program} {w : World} {A₀ A : Around} {E : Value → Shared → Prop} {s : Shared} {K : Frag} {L a : Addr} {h₀ base : Heap} {m mg mb : Str → Option Value} {σ : Sg} {p : Program} {loose : List Str} {mean : ExcName → Option Value}
theorem call_def {env : Env} {outer : List Env} {R : Result → Shared → Prop} {name qual : Str} {params : Arguments} {body : List Stmt} {scope : Scope} {dV kV doc pm cdv ct oc : Value} {an od : Option Addr} {osl : Array (Option Value)} {f : Addr} {args : Args} {binds : List (Str × Value)}
  (B : Below A₀ base outer h₀) (F : Fr h₀ L s.heap m) (X₀ : K.In h₀) (O : Own ι h₀ L s.heap σ) (T : Top p loose mean mg mb h₀) (hA : A.frames = some (env :: outer)) (hf : env.frame = some L) (hke : env.scope.kind = .function)
  (ho : K.lookup f = some ⟨oc,od,.func (fnOf name qual params body scope dV kV doc pm an cdv ct),osl⟩) (hcd : codeIn K cdv qual = true) (hroom : A.depth < recursionLimit)
  (hbind : BindsTo s (fnOf name qual params body scope dV kV doc pm an cdv ct) args binds) (hloc : ∀ y ∈ binds,scope.names.lookup y.1 = some .local)
  (h : ∀ g L' s',Same s s' → Fr g L' s'.heap (fun y => binds.reverse.lookup y) → Own ι g L' s'.heap σ → Below A base (env :: outer) g → K.In g → Top p loose mean mg mb g →
   wpAny (model prog w) (A.deeper (envOf qual scope L' f cdv)) (execs body (envOf qual scope L' f cdv))
    (fun fl s' => LeaveS ι h₀ L m g R (match fl with | .ret v => v | _ => .none) s')
    (fun _ _ => False)
    s')
  (hco : scope.isCoroutine = false) (hgen : scope.isGenerator = false) (hk : scope.kind = .function)
  (hcell : ∀ x ∈ scope.names,x.2 ≠ .cell) : codeAny (model prog w) A (.call (.ref f) args) R s :=
 code_def B F X₀ (O.news s.heap.objs.size) T hA hf hke ho hcd hroom hbind hloc (fun g L' h₁ FG F' N' B' X' T' =>
  wpAny_mono (h g L' { s with heap:=h₁,toks:=s.toks + binds.length } ⟨rfl,rfl⟩ F' (O.ofNews' N') B' X' T') (fun fl s' hl => hl.toK) fun _ _ x => x.elim) hco hgen hk hcell
theorem store_ {env : Env} {x : Str} {v : Value} {Q : Unit → Shared → Prop} (F : Fr h₀ env.locals s.heap m) (O : Own ι h₀ env.locals s.heap σ)
  (h : let m' : Str → Option Value:=fun y => if y = x then some v else m y;∀ s',Same s s' → Fr h₀ env.locals s'.heap m' → Own ι h₀ env.locals s'.heap σ → Q () s')
  (hl : env.kindOf x = some .local) (hp : (env.scope.kind == .class || (env.scope.kind == .module && env.locals != env.globals)) = false) :
  wpAny (model prog w) A (storeName env x v) Q E s :=
 wpAny_storeName_local hl F.ns (fun h' hn hs => h _ ⟨rfl,rfl⟩ (F.set hn hs) (O.setL hs)) hp
theorem xS {env : Env} {x : Str} {v : Value} {Q : Unit → Shared → Prop} {s0 : Shared}
  (h : let m' : Str → Option Value:=fun y => if y = x then some v else m y;∀ s',Fr h₀ env.locals s'.heap m' → Own ι h₀ env.locals s'.heap σ → Same s0 s' → Q () s')
  (F : Fr h₀ env.locals s.heap m:=by assumption) (O : Own ι h₀ env.locals s.heap σ:=by assumption) (S0 : Same s0 s:=by assumption)
  (hl : env.kindOf x = some .local:=by rfl) (hp : (env.scope.kind == .class || (env.scope.kind == .module && env.locals != env.globals)) = false:=by rfl) :
  wpAny (model prog w) A (storeName env x v) Q E s :=
 wpAny_storeName_local hl F.ns (fun h' hn hs => h _ (F.set hn hs) (O.setL hs) (Same.trans S0 ⟨rfl,rfl⟩)) hp
noncomputable def nOk (env : Env) (x : Str) : Bool:=(env.kindOf x == some .local) && (env.scope.kind == .function) && !(x == Str.ofString "__debug__")
theorem xN {env : Env} {x : Str} {pos : Pos} {v : Value} {Q : Value → Shared → Prop} (h : Q v s) (F : Fr h₀ env.locals s.heap m:=by assumption) (e : m x = some v:=by first | assumption | rfl) (k : nOk env x = true:=by rfl) :
  wpAny (model prog w) A (eval (.Name x pos) env) Q E s:=by
 have h1:=Bool.and_eq_true_iff.mp k
 have h2:=Bool.and_eq_true_iff.mp h1.1
 exact wpAny_Name (wpAny_loadName_local (eq_of_beq h2.2) (eq_of_beq h2.1) F.ns e h) ((Bool.not_eq_true' _).mp h1.2)
theorem while_ {env : Env} {test : Expr} {body orelse : List Stmt} {pos : Pos} {Q : Flow → Shared → Prop} (I : Nat → Shared → Prop) (n : Nat) (hI : I n s)
  (turn : ∀ n s,I n s →
   wpAny (model prog w) A (isTrue test env (eval test env)) (fun b s₂ =>
    if b = true then wpAny (model prog w) A (execs body env) (fun f s₃ => match f with
      | .next | .cont => ∃ k,k < n ∧ I k s₃
      | .brk => Q .next s₃
      | .ret v => Q (.ret v) s₃) (fun _ _ => False) s₂
    else wpAny (model prog w) A (execs orelse env) Q (fun _ _ => False) s₂)
    (fun _ _ => False) s) : wpAny (model prog w) A (exec (.While test body orelse pos) env) Q E s:=by
 refine wpAny_While (codeAny_whileLoop I (fun n s' hs' => ?_) n hI)
 refine wpAny_mono (turn n s' hs') (fun b s₂ h => ?_) fun _ _ e => e.elim
 cases b with
 | true =>
  simp only [if_true] at h ⊢
  exact wpAny_mono h (fun f s₃ h₃ => by cases f <;> exact h₃) fun _ _ e => e.elim
 | false =>
  simp only [Bool.false_eq_true,if_false] at h ⊢
  exact wpAny_mono h (fun f s₃ h₃ => h₃) fun _ _ e => e.elim
noncomputable def sideOf (h : Heap) (wr : List Addr) : Sd:=wr.filterMap fun b => (h.get? b).map fun o => (b,o)
theorem mem_sideOf {h : Heap} {wr : List Addr} {q : Addr × Obj} : q ∈ sideOf h wr ↔ q.1 ∈ wr ∧ h.get? q.1 = some q.2:=by
 unfold sideOf
 rw [List.mem_filterMap]
 constructor
 ·intro zq3
  refine xe12 zq3 fun b hb e => ?_
  try clear zq3
  cases z : h.get? b with
  | none => rw [z] at e;cases e
  | some o => rw [z] at e;cases e;exact ⟨hb,z⟩
 intro zq4
 refine xe02 zq4 fun h1 h2 => ?_
 try clear zq4
 exact ⟨q.1,h1,by rw [h2];rfl⟩
theorem forW {env : Env} {x : Str} {px : Pos} {body orelse : List Stmt} {Q : Flow → Shared → Prop} {I : Addr} {fp wr : List Addr} {n : Nat} {P : Nat → Value → Prop} {St : Nat → Heap → Prop}
  (J : Nat → (Str → Option Value) → Sg → Prop)
  (W : Walks prog w A I fp wr n P St) (hx : env.kindOf x = some .local) (hp : (env.scope.kind == .class || (env.scope.kind == .module && env.locals != env.globals)) = false)
  (hob : ∀ i h,St i h → ∀ b ∈ wr,∃ o,h.get? b = some o) (hwr : ∀ b ∈ wr,b ≠ env.locals ∧ h₀.get? b = none ∧ σ b = none ∧ ∀ p ∈ ι,p.1 ≠ b)
  (hfix : ∀ b ∈ fp,b ∉ wr → (∃ o,h₀.get? b = some o) ∨ ∃ o,∀ i m σ,J i m σ → σ b = some o)
  (hst : St 0 s.heap) (F : Fr h₀ env.locals s.heap m) (O : Own ι h₀ env.locals s.heap σ) (h0 : J 0 m σ)
  (step : ∀ i v m₁ σ₁ s₁ ι',(∀ h σ,Own ι' h₀ env.locals h σ → Own ι h₀ env.locals h σ) → Same s s₁ → i < n → P i v → J i m₁ σ₁ →
   Fr h₀ env.locals s₁.heap (fun y => if y = x then some v else m₁ y) → Own ι' h₀ env.locals s₁.heap σ₁ →
   wpAny (model prog w) A (execs body env) (fun f s₂ => match f with
    | .next | .cont => ∃ m₂ σ₂,Same s₁ s₂ ∧ Fr h₀ env.locals s₂.heap m₂ ∧ Own ι' h₀ env.locals s₂.heap σ₂ ∧ J (i + 1) m₂ σ₂
    | .brk => Q .next s₂
    | .ret v => Q (.ret v) s₂) (fun _ _ => False) s₁)
  (done : ∀ m₁ σ₁ s₁,Same s s₁ → Fr h₀ env.locals s₁.heap m₁ → Own ι h₀ env.locals s₁.heap σ₁ → J n m₁ σ₁ → wpAny (model prog w) A (execs orelse env) Q (fun _ _ => False) s₁) :
  codeAny (model prog w) A (.forLoop (.Name x px) (.ref I) body orelse env) (fun r s' => match r with | .ok f => Q f s' | .error e => cameBackBy (model prog w) A env E e s') s:=by
 refine codeAny_forLoop (fun k s' => ∃ m' σ' i,Same s s' ∧ St i s'.heap ∧ Fr h₀ env.locals s'.heap m' ∧ Own ι h₀ env.locals s'.heap σ' ∧ (∀ b ∈ wr,σ' b = none) ∧ J i m' σ' ∧ i ≤ n ∧ k = n + 1 - i) ?_ (n + 1)
  ⟨m,σ,0,.refl _,hst,F,O,fun b hb => (hwr b hb).2.2.1,h0,Nat.zero_le _,rfl⟩
 intro k s' zq5
 refine xe38 zq5 fun m' σ' i S' hst' F' O' hn' hJ hi zq89 => ?_
 try clear zq5
 subst zq89
 have next : ∀ h₁ : Heap,(∀ b o,b ∉ wr → s'.heap.get? b = some o → h₁.get? b = some o) → Fr h₀ env.locals h₁ m' ∧ Own ι h₀ env.locals h₁ σ':=fun h₁ hk => by
  refine xe32 F'.ns fun oL es ep hL r => ?_
  refine ⟨⟨⟨oL,es,ep,hk _ _ (fun q => (hwr _ q).1 rfl) hL,r⟩,fun b o e => hk b o (fun q => ?_) (F'.keep b o e),F'.above⟩,⟨fun a o e => ⟨hk _ _ (fun q => ?_) (O'.get e),(O'.cell a o e).2⟩,fun p hp => ⟨hk _ _ (fun q => (hwr _ q).2.2.2 p hp rfl) (O'.side p hp).1,(O'.side p hp).2⟩⟩⟩
  ·rw [(hwr b q).2.1] at e;cases e
  rw [hn' a q] at e;cases e
 by_cases hlt : i < n
 ·refine W.item i _ _ _ hlt hst' fun v h₁ tk₁ hP hst₁ hk₁ => ?_
  refine xe02 (next h₁ hk₁) fun F₁ O₁ => ?_
  refine wpAny_assign_Name (wpAny_storeName_local hx F₁.ns (fun h₂ hn₂ hs₂ => ?_) hp)
  have F₂:=F₁.set hn₂ hs₂
  have O₂:=O₁.setL hs₂
  have O₃ : Own (sideOf h₂ wr ++ ι) h₀ env.locals h₂ σ':=⟨O₂.cell,fun p hp => (List.mem_append.mp hp).elim (fun q => by
   refine xe02 (mem_sideOf.mp q) fun q1 q2 => ?_
   exact ⟨q2,(hwr _ q1).1,(hwr _ q1).2.1,hn' _ q1⟩) fun q => O₂.side p q⟩
  have hst₂ : St (i + 1) h₂:=W.frame _ _ _ hst₁ fun b hb o e => by
   by_cases q : b = env.locals
   ·by_cases q' : b ∈ wr
    ·exact absurd q (hwr b q').1
    rcases hfix b hb q' with ⟨o',e'⟩ | ⟨o',e'⟩
    ·exact absurd (Heap.lt_size e') (Nat.not_lt.mpr (q ▸ F'.above))
    exact absurd q (O'.ne (e' _ _ _ hJ))
   exact (hs₂.2 b q).trans e
  refine wpAny_mono (step i v m' σ' _ _ (fun h σ o => ⟨o.cell,fun p hp => o.side p (List.mem_append_right _ hp)⟩) (S'.trans ⟨rfl,rfl⟩) hlt hP hJ F₂ O₃) (fun f s₃ h₃ => ?_) fun _ _ e => e.elim
  have back : (∃ m₂ σ₂,Same ({ s' with heap:=h₂,toks:=tk₁ + 1 } : Shared) s₃ ∧ Fr h₀ env.locals s₃.heap m₂ ∧ Own (sideOf h₂ wr ++ ι) h₀ env.locals s₃.heap σ₂ ∧ J (i + 1) m₂ σ₂) →
    ∃ k,k < n + 1 - i ∧ ∃ m' σ' i,Same s s₃ ∧ St i s₃.heap ∧ Fr h₀ env.locals s₃.heap m' ∧ Own ι h₀ env.locals s₃.heap σ' ∧ (∀ b ∈ wr,σ' b = none) ∧ J i m' σ' ∧ i ≤ n ∧ k = n + 1 - i:=by
   intro zq6
   refine xe24 zq6 fun m₂ σ₂ S₂ F₃ O₄ hJ₂ => ?_
   try clear zq6
   refine ⟨n + 1 - (i + 1),by exact xs8b ‹_›,m₂,σ₂,i + 1,(S'.trans ⟨rfl,rfl⟩).trans S₂,?_,F₃,⟨O₄.cell,fun p hp => O₄.side p (List.mem_append_right _ hp)⟩,fun b hb => ?_,hJ₂,hlt,rfl⟩
   ·refine W.frame _ _ _ hst₂ fun b hb o e => ?_
    by_cases q' : b ∈ wr
    ·exact (O₄.side (b,o) (List.mem_append_left _ (mem_sideOf.mpr ⟨q',e⟩))).1
    rcases hfix b hb q' with ⟨o',e'⟩ | ⟨o',e'⟩
    ·have:=F₂.keep b o' e';rw [e] at this;cases this;exact F₃.keep b _ e'
    have:=O₂.get (e' _ _ _ hJ);rw [e] at this;cases this;exact O₄.get (e' _ _ _ hJ₂)
   refine xe11 (hob _ _ hst₂ b hb) fun o e => ?_
   exact (O₄.side (b,o) (List.mem_append_left _ (mem_sideOf.mpr ⟨hb,e⟩))).2.2.2
  cases f with
  | ret v => exact h₃
  | brk => exact h₃
  | cont => exact back h₃
  | next => exact back h₃
 have hin : i = n:=by lia
 subst hin
 refine W.done _ _ _ hst' fun h₁ tk₁ hk₁ => ?_
 refine xe02 (next h₁ hk₁) fun F₁ O₁ => ?_
 exact wpAny_mono (done m' σ' _ (S'.trans ⟨rfl,rfl⟩) F₁ O₁ hJ) (fun _ _ q => q) fun _ _ e => e.elim
end
noncomputable def lcg : Nat → Nat → Nat
 | 0,x => x
 | n + 1,x => 5 * lcg n x + 1
theorem lcg_add (a b x : Nat) : lcg (a + b) x = lcg a (lcg b x):=by
 induction a with
 | zero => rw [Nat.zero_add];rfl
 | succ a ih => rw [Nat.succ_add];exact congrArg (fun y => 5 * y + 1) ih
theorem lcg_pow (m : Nat) : ∃ c d,∀ x,lcg (2 ^ m) x = (1 + 4 * 2 ^ m * c) * x + (2 ^ m + 2 * 2 ^ m * d):=by
 induction m with
 | zero => exact ⟨1,0,fun x => by show 5 * x + 1 = (1 + 4 * 1 * 1) * x + (1 + 2 * 1 * 0);rfl⟩
 | succ m ih =>
  refine xe21 ih fun c d h => ?_
  try clear ih
  refine ⟨c + 2 * 2 ^ m * c * c,d + c * 2 ^ m * (1 + 2 * d),fun x => ?_⟩
  rw [Nat.pow_succ,Nat.mul_two,lcg_add,h,h]
  generalize 2 ^ m = M
  grind
theorem lcg_hits (m : Nat) : ∀ x y,∃ n,n < 2 ^ m ∧ lcg n x % 2 ^ m = y % 2 ^ m:=by
 induction m with
 | zero => intro x y;exact ⟨0,by simp,by simp [Nat.mod_one]⟩
 | succ m ih =>
  intro x y
  refine xe12 (ih x y) fun n hn e => ?_
  have hp : 0 < 2 ^ m:=Nat.two_pow_pos m
  rw [Nat.pow_succ]
  by_cases h : lcg n x / 2 ^ m % 2 = y / 2 ^ m % 2
  ·exact ⟨n,by lia,by rw [Nat.mod_mul,Nat.mod_mul,e,h]⟩
  refine ⟨2 ^ m + n,by lia,?_⟩
  refine xe21 (lcg_pow m) fun c d hc => ?_
  rw [lcg_add,hc]
  generalize lcg n x = z at *
  have e1 : (1 + 4 * 2 ^ m * c) * z + (2 ^ m + 2 * 2 ^ m * d) = (z + 2 ^ m) + 2 ^ m * 2 * (2 * c * z + d):=by
   generalize 2 ^ m = M
   grind
  rw [e1,Nat.add_mul_mod_self_left,Nat.mod_mul,Nat.mod_mul,Nat.add_mod_right,e]
  congr 2
  rw [Nat.add_div_right _ hp]
  exact xs102 ‹_›
open SetTable
noncomputable def nth (t : SetTable) : Nat → Probe → Probe
 | 0,p => p
 | n + 1,p => t.advance (nth t n p)
theorem nth_add (t : SetTable) (a b : Nat) (p : Probe) : nth t (a + b) p = nth t a (nth t b p):=by
 induction a with
 | zero => rw [Nat.zero_add];rfl
 | succ a ih => rw [Nat.succ_add];exact congrArg t.advance ih
theorem nth_dummy (t : SetTable) (n : Nat) (p : Probe) : (nth t n p).dummy = p.dummy:=by
 induction n with
 | zero => rfl
 | succ n ih =>
  show (t.advance _).dummy = _
  unfold advance
  split
  ·exact ih
  exact ih
theorem nth_mask (t t' : SetTable) (h : t'.mask = t.mask) (n : Nat) (p : Probe) : nth t' n p = nth t n p:=by
 induction n with
 | zero => rfl
 | succ n ih =>
  show t'.advance _ = t.advance _
  rw [ih];unfold advance;rw [h]
noncomputable def runAt (t : SetTable) (i q : Nat) : Probe:={ j:=i,more:=runEnd t.mask i - i,i:=i,perturb:=q,dummy:=none }
theorem run_in (t : SetTable) (i q k : Nat) (h : k ≤ runEnd t.mask i - i) : nth t k (runAt t i q) = { j:=i + k,more:=runEnd t.mask i - i - k,i:=i,perturb:=q,dummy:=none }:=by
 induction k with
 | zero => rfl
 | succ k ih =>
  show t.advance _ = _
  rw [ih (by exact xs88 ‹_›)]
  unfold advance
  rw [if_pos (by exact xs17 ‹_›)]
  simp only [Probe.mk.injEq,and_true]
  lia
theorem run_next (t : SetTable) (i q : Nat) : nth t (runEnd t.mask i - i + 1) (runAt t i q) = runAt t (leap t.mask i q).1 (leap t.mask i q).2:=by
 show t.advance _ = _
 rw [run_in t i q _ (Nat.le_refl _)]
 unfold advance
 rw [if_neg (by simp)]
 rfl
theorem run_len (t : SetTable) (i : Nat) : runEnd t.mask i - i + 1 ≤ 10:=by unfold runEnd;split <;> (first | exact xs44 | lia)
noncomputable def leaps (t : SetTable) : Nat → Nat × Nat → Nat × Nat
 | 0,x => x
 | n + 1,x => leap t.mask (leaps t n x).1 (leaps t n x).2
theorem leaps_at (t : SetTable) (i q k : Nat) : ∃ n,n ≤ 10 * k ∧ nth t n (runAt t i q) = runAt t (leaps t k (i,q)).1 (leaps t k (i,q)).2:=by
 induction k with
 | zero => exact ⟨0,by lia,rfl⟩
 | succ k ih =>
  refine xe12 ih fun n hn e => ?_
  try clear ih
  refine ⟨(runEnd t.mask (leaps t k (i,q)).1 - (leaps t k (i,q)).1 + 1) + n,by have:=run_len t (leaps t k (i,q)).1;lia,?_⟩
  rw [nth_add,e,run_next]
  rfl
theorem leaps_snd (t : SetTable) (x : Nat × Nat) (k : Nat) : (leaps t k x).2 = x.2 / 32 ^ k:=by
 induction k with
 | zero => exact (Nat.div_one _).symm
 | succ k ih =>
  show (leaps t k x).2 / 32 = _
  rw [ih,Nat.div_div_eq_div_mul,Nat.pow_succ]
theorem leaps_still (t : SetTable) (m : Nat) (hm : t.mask + 1 = 2 ^ m) (i k : Nat) (hi : i ≤ t.mask) : (leaps t k (i,0)).1 = lcg k i % 2 ^ m ∧ (leaps t k (i,0)).2 = 0:=by
 induction k with
 | zero => exact ⟨(Nat.mod_eq_of_lt (show i < 2 ^ m by lia)).symm,rfl⟩
 | succ k ih =>
  refine ⟨?_,?_⟩
  ·show ((leaps t k (i,0)).1 * 5 + 1 + (leaps t k (i,0)).2 / 32) % (t.mask + 1) = _
   rw [ih.2,ih.1,hm]
   show ((lcg k i % 2 ^ m) * 5 + 1 + 0) % 2 ^ m = (5 * lcg k i + 1) % 2 ^ m
   simp [Nat.add_mod,Nat.mul_mod,Nat.mul_comm]
  show (leaps t k (i,0)).2 / 32 = 0
  rw [ih.2]
theorem leaps_add (t : SetTable) (a b : Nat) (x : Nat × Nat) : leaps t (a + b) x = leaps t a (leaps t b x):=by
 induction a with
 | zero => rw [Nat.zero_add];rfl
 | succ a ih => rw [Nat.succ_add];exact congrArg (fun y : Nat × Nat => leap t.mask y.1 y.2) ih
theorem leaps_lt (t : SetTable) (x : Nat × Nat) (k : Nat) (hx : x.1 ≤ t.mask) : (leaps t k x).1 ≤ t.mask:=by
 cases k with
 | zero => exact hx
 | succ k => exact Nat.le_of_lt_succ (Nat.mod_lt _ (Nat.succ_pos _))
theorem leaps_all (t : SetTable) (m : Nat) (hm : t.mask + 1 = 2 ^ m) (i q : Nat) (hi : i ≤ t.mask) (hq : q < 2 ^ 64) (j : Nat) (hj : j ≤ t.mask) : ∃ k,k ≤ t.mask + 13 ∧ (leaps t k (i,q)).1 = j:=by
 have h13 : (leaps t 13 (i,q)).2 = 0:=by
  rw [leaps_snd]
  exact Nat.div_eq_of_lt (Nat.lt_of_lt_of_le hq (by decide))
 refine xe12 (lcg_hits m (leaps t 13 (i,q)).1 j) fun n hn e => ?_
 refine ⟨n + 13,by lia,?_⟩
 have hl:=leaps_lt t (i,q) 13 hi
 rw [leaps_add,show leaps t 13 (i,q) = ((leaps t 13 (i,q)).1,0) from Prod.ext rfl h13,(leaps_still t m hm _ n hl).1,e]
 exact Nat.mod_eq_of_lt (by lia)
theorem bits_lt (h : Int) : bits h < 2 ^ 64:=by
 unfold bits
 have:=Int.emod_lt_of_pos h (show (0 : Int) < 2 ^ 64 by decide)
 have:=Int.emod_nonneg h (show (2 : Int) ^ 64 ≠ 0 by decide)
 exact xs25e ‹_› ‹_›
theorem start_run (t : SetTable) (h : Int) : t.probeStart h = runAt t (bits h % (t.mask + 1)) (bits h):=rfl
theorem nth_all (t : SetTable) (m : Nat) (hm : t.mask + 1 = 2 ^ m) (h : Int) (j : Nat) (hj : j ≤ t.mask) : ∃ n,n ≤ 10 * (t.mask + 13) ∧ (nth t n (t.probeStart h)).j = j:=by
 rw [start_run]
 refine xe12 (leaps_all t m hm (bits h % (t.mask + 1)) (bits h) (Nat.le_of_lt_succ (Nat.mod_lt _ (Nat.succ_pos _))) (bits_lt h) j hj) fun k hk e => ?_
 refine xe12 (leaps_at t (bits h % (t.mask + 1)) (bits h) k) fun n hn e' => ?_
 exact ⟨n,by lia,by rw [e'];exact e⟩
noncomputable def Rise (xs : Array Nat) : Prop:=∀ i j,i < j → j < xs.size → xs.getD i 0 < xs.getD j 0
theorem below_s {xs : Array Nat} {j f lo hi : Nat} : below.go xs j (f + 1) lo hi = if lo < hi then (if xs.getD ((lo + hi) / 2) j < j then below.go xs j f ((lo + hi) / 2 + 1) hi else below.go xs j f lo ((lo + hi) / 2)) else lo:=rfl
theorem below_go (xs : Array Nat) (j : Nat) (hr : Rise xs) : ∀ fuel lo hi,lo ≤ hi → hi ≤ xs.size → hi - lo ≤ fuel → (∀ i,i < lo → xs.getD i 0 < j) → (∀ i,hi ≤ i → i < xs.size → j ≤ xs.getD i 0) →
  (∀ i,i < below.go xs j fuel lo hi → xs.getD i 0 < j) ∧ (∀ i,below.go xs j fuel lo hi ≤ i → i < xs.size → j ≤ xs.getD i 0) ∧ below.go xs j fuel lo hi ≤ xs.size:=by
 intro fuel
 induction fuel with
 | zero =>
  intro lo hi h1 h2 h3 h4 h5
  have : lo = hi:=by exact xs32b ‹_› ‹_›
  subst this
  exact ⟨h4,h5,h2⟩
 | succ fuel ih =>
  intro lo hi h1 h2 h3 h4 h5
  rw [below_s]
  by_cases hlt : lo < hi
  ·rw [if_pos hlt]
   have hd : xs.getD ((lo + hi) / 2) j = xs.getD ((lo + hi) / 2) 0:=by
    have : (lo + hi) / 2 < xs.size:=by exact xs36e ‹_› ‹_›
    simp [Array.getD,this]
   rw [hd]
   by_cases hm : xs.getD ((lo + hi) / 2) 0 < j
   ·rw [if_pos hm]
    refine ih _ _ (by exact xs36b ‹_›) h2 (by exact xs36c ‹_› ‹_›) (fun i hi' => ?_) h5
    by_cases q : i < (lo + hi) / 2
    ·exact Nat.lt_trans (hr i _ q (by exact xs36e ‹_› ‹_›)) hm
    have : i = (lo + hi) / 2:=by lia
    rw [this];exact hm
   rw [if_neg hm]
   refine ih _ _ (by exact xs36 ‹_›) (by exact xs36f ‹_› ‹_›) (by exact xs36d ‹_› ‹_›) h4 (fun i hi' hs => ?_)
   by_cases q : (lo + hi) / 2 < i
   ·have:=hr _ i q hs;lia
   have : i = (lo + hi) / 2:=by lia
   rw [this];exact xs77b ‹_›
  rw [if_neg hlt]
  have : lo = hi:=by exact xs96 ‹_› ‹_›
  subst this
  exact ⟨h4,h5,h2⟩
theorem below_spec (xs : Array Nat) (j : Nat) (hr : Rise xs) :
  (∀ i,i < below xs j → xs.getD i 0 < j) ∧ (∀ i,below xs j ≤ i → i < xs.size → j ≤ xs.getD i 0) ∧ below xs j ≤ xs.size :=
 below_go xs j hr _ 0 _ (Nat.zero_le _) (Nat.le_refl _) (by exact xs28) (fun i h => absurd h (Nat.not_lt_zero _)) fun i h h' => absurd h' (Nat.not_lt.mpr h)
theorem getD_of {xs : Array Nat} {i j : Nat} (h : xs[i]? = some j) : xs.getD i 0 = j ∧ i < xs.size:=by
 refine xe11 (Array.getElem?_eq_some_iff.mp h) fun h1 h2 => ?_
 exact ⟨by simp [Array.getD,h1,h2],h1⟩
theorem of_getD {xs : Array Nat} {i : Nat} (h : i < xs.size) : xs[i]? = some (xs.getD i 0):=by simp [Array.getD,h]
theorem below_at {xs : Array Nat} {i j : Nat} (hr : Rise xs) (h : xs[i]? = some j) : below xs j = i:=by
 refine xe02 (getD_of h) fun e hi => ?_
 refine xe03 (below_spec xs j hr) fun a b c => ?_
 rcases Nat.lt_trichotomy (below xs j) i with q | q | q
 ·have h1:=b (below xs j) (Nat.le_refl _) (by exact xs86 ‹_› ‹_›)
  have h2:=hr _ _ q hi
  lia
 ·exact q
 have:=a i q;lia
theorem rise_inj {xs : Array Nat} {i k j : Nat} (hr : Rise xs) (h : xs[i]? = some j) (h' : xs[k]? = some j) : i = k:=(below_at hr h).symm.trans (below_at hr h')
structure Clean (t : SetTable) (n : Nat) : Prop where
 pow : ∃ m,3 ≤ m ∧ t.mask + 1 = 2 ^ m
 rise : Rise t.place
 size : t.place.size = n
 room : n ≤ t.mask
 dum : t.dummies = #[]
 inb : ∀ (i j : Nat),t.place[i]? = some j → j ≤ t.mask
noncomputable def Occ (t : SetTable) (j : Nat) : Prop:=∃ i : Nat,t.place[i]? = some j
theorem Clean.fits {t : SetTable} {n : Nat} (c : Clean t n) : t.fits n = true:=by
 simp [SetTable.fits,SetTable.fill,c.size,c.dum,c.room]
theorem Clean.stands {t : SetTable} {n : Nat} (c : Clean t n) : t.gaveWay = false:=by
 refine xe12 c.pow fun m h3 e => ?_
 refine xe11 (⟨m - 1,by exact xs14c ‹_›⟩ : ∃ k,m = k + 1) fun k zq8 => ?_
 subst zq8
 rw [Nat.pow_succ] at e
 unfold gaveWay
 have : t.mask % 2 = 1:=by lia
 rw [this];rfl
theorem slot_live {t : SetTable} {n i j : Nat} (c : Clean t n) (h : t.place[i]? = some j) : t.slot j = .live i:=by
 unfold slot
 dsimp only
 rw [below_at c.rise h,h]
 exact if_pos (beq_self_eq_true _)
theorem slot_empty {t : SetTable} {n j : Nat} (c : Clean t n) (h : ¬ Occ t j) : t.slot j = .empty:=by
 unfold slot
 rw [if_neg (fun q => h ⟨_,by simpa using q⟩),c.dum]
 rw [if_neg (by simp [has])]
noncomputable instance (t : SetTable) (j : Nat) : Decidable (Occ t j) :=
 if h : ∃ i ∈ List.range t.place.size,t.place[i]? = some j then .isTrue (xe12 (h) fun i _ e => ⟨i,e⟩)
 else .isFalse fun zm3 => xe11 zm3 fun i e => h ⟨i,List.mem_range.mpr (Array.getElem?_eq_some_iff.mp e).1,e⟩
theorem nodup_len : ∀ (n : Nat) (l : List Nat),(∀ x ∈ l,x < n) → l.Nodup → l.length ≤ n:=by
 intro n
 induction n with
 | zero => intro l h _;cases l with
  | nil => simp
  | cons x l => exact absurd (h x (.head _)) (Nat.not_lt_zero _)
 | succ n ih =>
  intro l h hn
  by_cases q : n ∈ l
  ·have e:=List.length_erase_of_mem q
   have:=ih (l.erase n) (fun x hx => by
    have h1:=h x (List.mem_of_mem_erase hx)
    have : x ≠ n:=fun z => by rw [z] at hx;exact (List.Nodup.not_mem_erase hn) hx
    lia) (hn.erase n)
   exact xs56 ‹_› ‹_›
  have:=ih l (fun x hx => by
   have h1:=h x hx
   have : x ≠ n:=fun z => q (z ▸ hx)
   lia) hn
  exact xs91c ‹_›
theorem hole {t : SetTable} {n : Nat} (c : Clean t n) : ∃ j,j ≤ t.mask ∧ ¬ Occ t j:=by
 apply Classical.byContradiction
 intro h
 have all : ∀ j,j ≤ t.mask → Occ t j:=fun j hj => Classical.byContradiction fun q => h ⟨j,hj,q⟩
 -- the places of 0 .. mask are distinct indices below n
 have hf : ∀ j,j ≤ t.mask → t.place[below t.place j]? = some j:=fun j hj => by
  refine xe11 (all j hj) fun i e => ?_
  rw [below_at c.rise e];exact e
 have:=nodup_len n ((List.range (t.mask + 1)).map fun j => below t.place j) (fun x hx => by
  refine xe12 (List.mem_map.mp hx) fun j hj zq1 => ?_
  subst zq1
  have:=(Array.getElem?_eq_some_iff.mp (hf j (Nat.le_of_lt_succ (List.mem_range.mp hj)))).1
  rw [c.size] at this;exact this) (by
  refine List.pairwise_map.mpr (List.Pairwise.imp_of_mem (fun {a b} ha hb hne e => hne ?_) List.nodup_range)
  have h1:=hf a (Nat.le_of_lt_succ (List.mem_range.mp ha))
  have h2:=hf b (Nat.le_of_lt_succ (List.mem_range.mp hb))
  rw [e,h2] at h1
  exact (Option.some.inj h1).symm)
 rw [List.length_map,List.length_range] at this
 have:=c.room
 lia
structure First (t : SetTable) (h : Int) (N : Nat) : Prop where
 le : N ≤ 10 * (t.mask + 13)
 free : ¬ Occ t (nth t N (t.probeStart h)).j
 full : ∀ k,k < N → Occ t (nth t k (t.probeStart h)).j
theorem first_of (P : Nat → Prop) [DecidablePred P] : ∀ n,P n → ∃ N,N ≤ n ∧ P N ∧ ∀ k,k < N → ¬ P k:=by
 intro n
 induction n using Nat.strongRecOn with
 | ind n ih =>
  intro h
  by_cases q : ∃ k,k < n ∧ P k
  ·refine xe12 q fun k hk hp => ?_
   try clear q
   refine xe13 (ih k hk hp) fun N a b c => ?_
   exact ⟨N,by lia,b,c⟩
  exact ⟨n,Nat.le_refl _,h,fun k hk hp => q ⟨k,hk,hp⟩⟩
theorem first {t : SetTable} {n : Nat} (c : Clean t n) (h : Int) : ∃ N,First t h N:=by
 refine xe12 (hole c) fun j hj hn => ?_
 refine xe12 c.pow fun m _ hm => ?_
 refine xe12 (nth_all t m hm h j hj) fun k hk e => ?_
 refine xe13 (first_of (fun k => ¬ Occ t (nth t k (t.probeStart h)).j) k (by rw [e];exact hn)) fun N a b d => ?_
 exact ⟨N,by exact xs82 ‹_› ‹_›,b,fun k hk => Classical.byContradiction fun q => d k hk q⟩
noncomputable def Met.At (t : SetTable) (hashAt : Nat → Int) (h : Int) (n0 N : Nat) (r : Option Met) : Prop :=
 (∃ k i,n0 ≤ k ∧ k < N ∧ t.place[i]? = some (nth t k (t.probeStart h)).j ∧ hashAt i = h ∧ r = some (.candidate (nth t k (t.probeStart h)).j i (nth t (k + 1) (t.probeStart h))) ∧
  (∀ k' i',n0 ≤ k' → k' < k → t.place[i']? = some (nth t k' (t.probeStart h)).j → hashAt i' ≠ h)) ∨
 (r = some (.empty (nth t N (t.probeStart h)).j none) ∧ ∀ k' i',n0 ≤ k' → k' < N → t.place[i']? = some (nth t k' (t.probeStart h)).j → hashAt i' ≠ h)
theorem probe_s {t : SetTable} {u : Nat → Int} {h : Int} {f : Nat} {p : Probe} : probe.go t u h (f + 1) p = match t.slot p.j with
  | .empty => some (.empty p.j p.dummy)
  | .dummy => probe.go t u h f (t.advance { p with dummy:=some p.j })
  | .live i => if u i == h then some (.candidate p.j i (t.advance p)) else probe.go t u h f (t.advance p):=rfl
theorem probe_go {t : SetTable} {n : Nat} (c : Clean t n) (hashAt : Nat → Int) (h : Int) {N : Nat} (f : First t h N) : ∀ fuel n0,n0 ≤ N → N - n0 < fuel →
  Met.At t hashAt h n0 N (probe.go t hashAt h fuel (nth t n0 (t.probeStart h))):=by
 intro fuel
 induction fuel with
 | zero => intro n0 _ hf;exact absurd hf (Nat.not_lt_zero _)
 | succ fuel ih =>
  intro n0 hn hf
  rw [probe_s]
  by_cases q : n0 = N
  ·subst q
   rw [slot_empty c f.free]
   refine .inr ⟨?_,fun k' i' h1 h2 => absurd h2 (Nat.not_lt.mpr h1)⟩
   dsimp only
   rw [nth_dummy];rfl
  refine xe11 (f.full n0 (by exact xs46 ‹_› ‹_›)) fun i hi => ?_
  rw [slot_live c hi]
  dsimp only
  by_cases e : hashAt i = h
  ·rw [if_pos (by simp [e])]
   exact .inl ⟨n0,i,Nat.le_refl _,by exact xs46 ‹_› ‹_›,hi,e,rfl,fun k' i' h1 h2 => absurd h2 (Nat.not_lt.mpr h1)⟩
  rw [if_neg (by simpa using e)]
  have:=ih (n0 + 1) (by exact xs46 ‹_› ‹_›) (by exact xs6 ‹_› ‹_› ‹_›)
  show Met.At t hashAt h n0 N (probe.go t hashAt h fuel (nth t (n0 + 1) (t.probeStart h)))
  have ext : ∀ k' i',n0 ≤ k' → t.place[i']? = some (nth t k' (t.probeStart h)).j → (n0 + 1 ≤ k' → hashAt i' ≠ h) → hashAt i' ≠ h:=fun k' i' h1 h2 h3 => by
   by_cases z : k' = n0
   ·subst z;rw [rise_inj c.rise h2 hi];exact e
   exact h3 (by lia)
  rcases this with zq13 | zq14
  ·refine xe26 zq13 fun k i₂ h1 h2 h3 h4 h5 h6 => ?_
   try clear zq13
   exact .inl ⟨k,i₂,by exact xs88 ‹_›,h2,h3,h4,h5,fun k' i' a b d => ext k' i' a d fun z => h6 k' i' z b d⟩
  refine xe02 zq14 fun h1 h2 => ?_
  try clear zq14
  exact .inr ⟨h1,fun k' i' a b d => ext k' i' a d fun z => h2 k' i' z b d⟩
theorem probe_at {t : SetTable} {n : Nat} (c : Clean t n) (hashAt : Nat → Int) (h : Int) {N n0 : Nat} (f : First t h N) (hn : n0 ≤ N) :
  Met.At t hashAt h n0 N (t.probe hashAt h (nth t n0 (t.probeStart h))):=by
 refine probe_go c hashAt h f _ n0 hn ?_
 have:=f.le
 unfold turns
 lia
structure Laid (t : SetTable) (hs : List Int) : Prop extends Clean t hs.length where
 road : ∀ (i : Nat) (h : Int),hs[i]? = some h → ∃ n j,t.place[i]? = some j ∧ (nth t n (t.probeStart h)).j = j ∧ ∀ k,k < n → Occ t (nth t k (t.probeStart h)).j
theorem Laid.before {t : SetTable} {hs : List Int} (l : Laid t hs) {i : Nat} {h : Int} (hi : hs[i]? = some h) {N : Nat} (f : First t h N) : ∃ k,k < N ∧ t.place[i]? = some (nth t k (t.probeStart h)).j:=by
 refine xe23 (l.road i h hi) fun n j a b d => ?_
 refine ⟨n,?_,by rw [b];exact a⟩
 rcases Nat.lt_trichotomy n N with q | q | q
 ·exact q
 ·subst q;exact absurd ⟨i,by rw [b];exact a⟩ f.free
 exact absurd (d N q) f.free
theorem insL {α : Type} (l : List α) (p : Nat) (x : α) (hp : p ≤ l.length) (i : Nat) :
  (l.take p ++ x :: l.drop p)[i]? = if i < p then l[i]? else if i = p then some x else l[i - 1]?:=by
 by_cases h : i < p
 ·rw [if_pos h,List.getElem?_append_left (by rw [List.length_take];lia),List.getElem?_take,if_pos h]
 rw [if_neg h,List.getElem?_append_right (by rw [List.length_take];exact xs41 ‹_› ‹_›)]
 have e : (l.take p).length = p:=by rw [List.length_take];lia
 rw [e]
 by_cases q : i = p
 ·subst q;simp
 rw [if_neg q]
 refine xe11 (⟨i - p - 1,by exact xs24 ‹_› ‹_›⟩ : ∃ k,i - p = k + 1) fun k hk => ?_
 rw [hk,List.getElem?_cons_succ,List.getElem?_drop]
 congr 1
 exact xs24b ‹_›
theorem insA {α : Type} (xs : Array α) (p : Nat) (x : α) (hp : p ≤ xs.size) (i : Nat) :
  (insertAt xs p x)[i]? = if i < p then xs[i]? else if i = p then some x else xs[i - 1]?:=by
 rw [← Array.getElem?_toList,SetTable.toList_insertAt,insL _ _ _ (by simpa using hp)]
 simp only [Array.getElem?_toList]
theorem put_place {t : SetTable} {n : Nat} (c : Clean t n) (j : Nat) : (t.put j).1.place = insertAt t.place (below t.place j) j ∧ (t.put j).1.dummies = #[] ∧ (t.put j).2 = below t.place j ∧ (t.put j).1.mask = t.mask ∧ (t.put j).1.led = t.led ∧ (t.put j).1.moves = t.moves ∧ (t.put j).1.plain = t.plain:=by
 refine ⟨rfl,?_,rfl,rfl,rfl,rfl,rfl⟩
 show (if has t.dummies j = true then _ else t.dummies) = _
 rw [c.dum,if_neg (by simp [has])]
theorem put_size (xs : Array Nat) (p j : Nat) (hp : p ≤ xs.size) : (insertAt xs p j).size = xs.size + 1:=by
 rw [← Array.length_toList,SetTable.toList_insertAt,List.length_append,List.length_take,List.length_cons,List.length_drop]
 simp only [Array.length_toList]
 exact xs12 ‹_›
theorem put_occ {t : SetTable} {n : Nat} (c : Clean t n) (j k : Nat) : Occ (t.put j).1 k ↔ Occ t k ∨ k = j:=by
 refine xe02 (put_place c j) fun e _ => ?_
 have hp:=(below_spec t.place j c.rise).2.2
 unfold Occ
 rw [e]
 constructor
 ·intro zq10
  refine xe11 zq10 fun i hi => ?_
  try clear zq10
  rw [insA _ _ _ hp] at hi
  split at hi
  ·exact .inl ⟨i,hi⟩
  split at hi
  ·exact .inr (Option.some.inj hi).symm
  exact .inl ⟨_,hi⟩
 rintro (⟨i,hi⟩ | rfl)
 ·by_cases q : i < below t.place j
  ·exact ⟨i,by rw [insA _ _ _ hp,if_pos q];exact hi⟩
  exact ⟨i + 1,by rw [insA _ _ _ hp,if_neg (by lia),if_neg (by lia)];exact hi⟩
 exact ⟨below t.place k,by rw [insA _ _ _ hp,if_neg (by lia),if_pos rfl]⟩
theorem rise_of {xs : Array Nat} (h : ∀ i a b,xs[i]? = some a → xs[i + 1]? = some b → a < b) : Rise xs:=by
 intro i j hij hj
 induction j with
 | zero => exact absurd hij (Nat.not_lt_zero _)
 | succ j ih =>
  have h1:=h j _ _ (of_getD (show j < xs.size by exact xs88 ‹_›)) (of_getD hj)
  by_cases q : i = j
  ·subst q;exact h1
  exact Nat.lt_trans (ih (by lia) (by exact xs88 ‹_›)) h1
theorem put_clean {t : SetTable} {n j : Nat} (c : Clean t n) (hj : j ≤ t.mask) (hn : ¬ Occ t j) (hr : n + 1 ≤ t.mask) : Clean (t.put j).1 (n + 1):=by
 refine xe05 (put_place c j) fun e d _ m _ => ?_
 refine xe03 (below_spec t.place j c.rise) fun s1 s2 hp => ?_
 refine ⟨m ▸ c.pow,?_,?_,m ▸ hr,d,?_⟩
 ·rw [e]
  refine rise_of fun i a b ha hb => ?_
  rw [insA _ _ _ hp] at ha hb
  by_cases h1 : i + 1 < below t.place j
  ·rw [if_pos (by exact xs88 ‹_›)] at ha
   rw [if_pos h1] at hb
   refine xe02 (getD_of ha) fun x1 _ => ?_
   refine xe02 (getD_of hb) fun y1 y2 => ?_
   rw [← x1,← y1]
   exact c.rise i (i + 1) (by exact xs43) y2
  by_cases h2 : i + 1 = below t.place j
  ·rw [if_pos (by lia)] at ha
   rw [if_neg h1,if_pos h2] at hb
   refine xe02 (getD_of ha) fun x1 _ => ?_
   have:=s1 i (by lia)
   have:=Option.some.inj hb
   lia
  rw [if_neg h1,if_neg h2] at hb
  refine xe02 (getD_of hb) fun y1 y2 => ?_
  have hi : i + 1 - 1 = i:=by lia
  rw [hi] at y1 y2
  by_cases h3 : i = below t.place j
  ·rw [if_neg (by lia),if_pos h3] at ha
   have h4:=s2 i (by lia) y2
   have h5 : t.place.getD i 0 ≠ j:=fun z => hn ⟨i,by rw [of_getD y2,z]⟩
   have:=Option.some.inj ha
   lia
  rw [if_neg (by lia),if_neg h3] at ha
  refine xe02 (getD_of ha) fun x1 _ => ?_
  rw [← x1,← y1]
  exact c.rise (i - 1) i (by lia) y2
 ·rw [e,put_size _ _ _ hp,c.size]
 intro i k hk
 rcases (put_occ c j k).mp ⟨i,hk⟩ with zq15 | rfl
 ·refine xe11 zq15 fun i' h => ?_
  try clear zq15
  exact c.inb i' k h
 exact hj
theorem probeStart_mask (t t' : SetTable) (h : t'.mask = t.mask) (x : Int) : t'.probeStart x = t.probeStart x:=by
 unfold probeStart
 simp only [h]
theorem nth_same (t t' : SetTable) (h : t'.mask = t.mask) (n : Nat) (x : Int) : nth t' n (t'.probeStart x) = nth t n (t.probeStart x):=by
 rw [probeStart_mask t t' h,nth_mask t t' h]
theorem slots_le {t : SetTable} {n : Nat} (c : Clean t n) (k : Nat) (h : Int) : (nth t k (t.probeStart h)).j ≤ t.mask:=by
 refine xe12 c.pow fun m h3 hm => ?_
 have h8 : 7 ≤ t.mask:=by
  have : 2 ^ 3 ≤ 2 ^ m:=Nat.pow_le_pow_right (by decide) h3
  lia
 -- every probe stands in a run
 have key : ∀ k,∃ i q r,i ≤ t.mask ∧ r ≤ runEnd t.mask i - i ∧ nth t k (t.probeStart h) = { j:=i + r,more:=runEnd t.mask i - i - r,i:=i,perturb:=q,dummy:=none }:=by
  intro k
  induction k with
  | zero =>
   refine ⟨bits h % (t.mask + 1),bits h,0,Nat.le_of_lt_succ (Nat.mod_lt _ (Nat.succ_pos _)),Nat.zero_le _,rfl⟩
  | succ k ih =>
   refine xe33 ih fun i q r hi hr e => ?_
   try clear ih
   show ∃ i q r,_ ∧ _ ∧ t.advance _ = _
   rw [e]
   unfold advance
   by_cases z : runEnd t.mask i - i - r > 0
   ·rw [if_pos z]
    refine ⟨i,q,r + 1,hi,by exact xs16 ‹_›,?_⟩
    simp only [Probe.mk.injEq,and_true]
    lia
   rw [if_neg z]
   exact ⟨(leap t.mask i q).1,(leap t.mask i q).2,0,Nat.le_of_lt_succ (Nat.mod_lt _ (Nat.succ_pos _)),Nat.zero_le _,rfl⟩
 refine xe33 (key k) fun i q r hi hr e => ?_
 rw [e]
 show i + r ≤ t.mask
 unfold runEnd at hr
 split at hr <;> (first | exact xs44b ‹_› ‹_› | lia)
theorem put_laid {t : SetTable} {hs : List Int} {h : Int} {N : Nat} (l : Laid t hs) (f : First t h N) (hr : hs.length + 1 ≤ t.mask) :
  Laid (t.put (nth t N (t.probeStart h)).j).1 (hs.take (t.put (nth t N (t.probeStart h)).j).2 ++ h :: hs.drop (t.put (nth t N (t.probeStart h)).j).2):=by
 have c:=l.toClean
 have hj:=slots_le c N h
 generalize hjj : (nth t N (t.probeStart h)).j = j at hj ⊢
 have hn : ¬ Occ t j:=hjj ▸ f.free
 refine xe05 (put_place c j) fun e d p2 m _ => ?_
 have hp:=(below_spec t.place j c.rise).2.2
 have hp' : (t.put j).2 ≤ hs.length:=by rw [p2,← c.size];exact hp
 have hlen : (hs.take (t.put j).2 ++ h :: hs.drop (t.put j).2).length = hs.length + 1:=by
  rw [List.length_append,List.length_take,List.length_cons,List.length_drop];exact xs12 ‹_›
 refine ⟨by rw [hlen];exact put_clean c hj hn hr,fun i h' hi => ?_⟩
 have occ : ∀ k,Occ t k → Occ (t.put j).1 k:=fun k hk => (put_occ c j k).mpr (.inl hk)
 rw [insL _ _ _ hp'] at hi
 rw [e]
 by_cases h1 : i < (t.put j).2
 ·rw [if_pos h1] at hi
  refine xe23 (l.road i h' hi) fun n jj a b z => ?_
  refine ⟨n,jj,?_,by rw [nth_same t _ m];exact b,fun k hk => occ _ (by rw [nth_same t _ m];exact z k hk)⟩
  rw [insA _ _ _ hp,if_pos (p2 ▸ h1)];exact a
 rw [if_neg h1] at hi
 by_cases h2 : i = (t.put j).2
 ·rw [if_pos h2] at hi
  cases hi
  refine ⟨N,j,?_,by rw [nth_same t _ m];exact hjj,fun k hk => occ _ (by rw [nth_same t _ m];exact f.full k hk)⟩
  rw [insA _ _ _ hp,if_neg (by rw [← p2];exact h1),if_pos (by exact h2)]
 rw [if_neg h2] at hi
 refine xe23 (l.road (i - 1) h' hi) fun n jj a b z => ?_
 refine ⟨n,jj,?_,by rw [nth_same t _ m];exact b,fun k hk => occ _ (by rw [nth_same t _ m];exact z k hk)⟩
 rw [insA _ _ _ hp,if_neg (by rw [← p2];exact h1),if_neg (by exact h2)];exact a
noncomputable def OccO (owner : Array (Option Nat)) (j : Nat) : Prop:=∃ i : Nat,owner[j]? = some (some i)
structure Lays (t : SetTable) (hs : List Int) (owner : Array (Option Nat)) (k : Nat) : Prop where
 size : owner.size = t.mask + 1
 val : ∀ j i : Nat,owner[j]? = some (some i) → i < k
 one : ∀ j j' i : Nat,owner[j]? = some (some i) → owner[j']? = some (some i) → j = j'
 road : ∀ (i : Nat) (h : Int),i < k → hs[i]? = some h → ∃ n j,owner[j]? = some (some i) ∧ (nth t n (t.probeStart h)).j = j ∧ ∀ m,m < n → OccO owner (nth t m (t.probeStart h)).j
theorem Lays.hole {t : SetTable} {hs : List Int} {owner : Array (Option Nat)} {k : Nat} (l : Lays t hs owner k) (hk : k ≤ t.mask) : ∃ j : Nat,j ≤ t.mask ∧ owner[j]? = some none:=by
 apply Classical.byContradiction
 intro h
 have all : ∀ j : Nat,j ≤ t.mask → ∃ i : Nat,owner[j]? = some (some i):=fun j hj => by
  have hlt : j < owner.size:=by rw [l.size];exact xs91 ‹_›
  cases q : owner[j] with
  | none => exact absurd ⟨j,hj,by rw [Array.getElem?_eq_getElem hlt,q]⟩ h
  | some i => exact ⟨i,by rw [Array.getElem?_eq_getElem hlt,q]⟩
 have hf : ∀ j : Nat,j ≤ t.mask → owner[j]? = some (some ((owner.getD j none).getD 0)):=fun j hj => by
  refine xe11 (all j hj) fun i e => ?_
  have hd : owner.getD j none = some i:=by
   refine xe11 (Array.getElem?_eq_some_iff.mp e) fun h1 h2 => ?_
   simp [Array.getD,h1,h2]
  rw [e,hd];rfl
 have:=nodup_len k ((List.range (t.mask + 1)).map fun j => (owner.getD j none).getD 0) (fun x hx => by
  refine xe12 (List.mem_map.mp hx) fun j hj zq2 => ?_
  subst zq2
  exact l.val _ _ (hf j (Nat.le_of_lt_succ (List.mem_range.mp hj)))) (by
  refine List.pairwise_map.mpr (List.Pairwise.imp_of_mem (fun {a b} ha hb hne e => hne ?_) List.nodup_range)
  have h1:=hf a (Nat.le_of_lt_succ (List.mem_range.mp ha))
  have h2:=hf b (Nat.le_of_lt_succ (List.mem_range.mp hb))
  rw [e] at h1
  exact l.one _ _ _ h1 h2)
 rw [List.length_map,List.length_range] at this
 lia
theorem getD_none {owner : Array (Option Nat)} {j : Nat} : (owner.getD j (some 0)).isNone = true ↔ owner[j]? = some none:=by
 unfold Array.getD
 split
 ·rename_i h
  rw [Array.getElem?_eq_getElem h]
  show (owner[j]).isNone = true ↔ _
  cases owner[j] <;> simp
 rename_i h
 rw [Array.getElem?_eq_none (by exact xs77b ‹_›)]
 simp
theorem free_s {m : Nat} {o : Array (Option Nat)} {f i q : Nat} : layClean.free m o (f + 1) i q = match (List.range (runEnd m i + 1 - i)).find? fun k => (o.getD (i + k) (some 0)).isNone with
  | some k => some (i + k)
  | none => layClean.free m o f (leap m i q).1 (leap m i q).2:=rfl
theorem free_spec (t : SetTable) (owner : Array (Option Nat)) (hs : owner.size = t.mask + 1) : ∀ fuel i q,i ≤ t.mask → (∃ k,k < fuel ∧ owner[(leaps t k (i,q)).1]? = some none) →
  ∃ N,layClean.free t.mask owner fuel i q = some (nth t N (runAt t i q)).j ∧ owner[(nth t N (runAt t i q)).j]? = some none ∧ ∀ m,m < N → OccO owner (nth t m (runAt t i q)).j:=by
 intro fuel
 induction fuel with
 | zero => rintro i q _ ⟨k,hk,_⟩;exact absurd hk (Nat.not_lt_zero _)
 | succ fuel ih =>
  intro i q hi zq11
  refine xe12 zq11 fun k hk hn => ?_
  try clear zq11
  have re : runEnd t.mask i ≤ t.mask:=by unfold runEnd;split <;> assumption
  have occ : ∀ r : Nat,i + r ≤ t.mask → ¬ owner[i + r]? = some none → OccO owner (i + r):=fun r hr z => by
   have hlt : i + r < owner.size:=by lia
   cases e : owner[i + r] with
   | none => exact absurd (by rw [Array.getElem?_eq_getElem hlt,e]) z
   | some x => exact ⟨x,by rw [Array.getElem?_eq_getElem hlt,e]⟩
  rw [free_s]
  cases hfi : (List.range (runEnd t.mask i + 1 - i)).find? fun k => (owner.getD (i + k) (some 0)).isNone with
  | some r =>
   rw [List.find?_range_eq_some] at hfi
   refine xe03 hfi fun h1 h2 h3 => ?_
   try clear hfi
   have hr:=List.mem_range.mp h2
   refine ⟨r,?_,?_,fun m hm => ?_⟩
   ·rw [run_in t i q r (by exact xs23 ‹_›)]
   ·rw [run_in t i q r (by exact xs23 ‹_›)];exact getD_none.mp h1
   rw [run_in t i q m (by exact xs23b ‹_› ‹_›)]
   refine occ m (by exact xs23d ‹_› ‹_› ‹_›) fun z => ?_
   have:=h3 m hm
   rw [getD_none.mpr z] at this
   cases this
  | none =>
   rw [List.find?_range_eq_none] at hfi
   have full : ∀ r,r < runEnd t.mask i + 1 - i → OccO owner (i + r):=fun r hr => occ r (by exact xs23c ‹_› ‹_›) fun z => by
    have:=hfi r hr
    rw [getD_none.mpr z] at this
    cases this
   have hri : i ≤ runEnd t.mask i:=by unfold runEnd;split <;> lia
   cases k with
   | zero =>
    exfalso
    refine xe11 (full 0 (by exact xs23g ‹_›)) fun x hx => ?_
    have : (leaps t 0 (i,q)).1 = i + 0:=rfl
    rw [this,hx] at hn
    cases hn
   | succ k =>
    have e : leaps t (k + 1) (i,q) = leaps t k (leap t.mask i q):=leaps_add t k 1 (i,q)
    rw [e] at hn
    refine xe13 (ih (leap t.mask i q).1 (leap t.mask i q).2 (Nat.le_of_lt_succ (Nat.mod_lt _ (Nat.succ_pos _))) ⟨k,by exact xs15 ‹_›,hn⟩) fun N a b c => ?_
    have e2 : ∀ m,nth t (m + (runEnd t.mask i - i + 1)) (runAt t i q) = nth t m (runAt t (leap t.mask i q).1 (leap t.mask i q).2):=fun m => by rw [nth_add,run_next]
    refine ⟨N + (runEnd t.mask i - i + 1),?_,by rw [e2];exact b,fun m hm => ?_⟩
    ·rw [e2];exact a
    by_cases z : m < runEnd t.mask i - i + 1
    ·rw [run_in t i q m (by exact xs15 ‹_›)]
     exact full m (by exact xs23e ‹_› ‹_›)
    refine xe11 (⟨m - (runEnd t.mask i - i + 1),by exact xs23f ‹_›⟩ : ∃ m',m = m' + (runEnd t.mask i - i + 1)) fun m' zq9 => ?_
    subst zq9
    rw [e2]
    exact c m' (by lia)
noncomputable def layStep (mask : Nat) (acc : Option (Array (Option Nat) × Nat)) (h : Int) : Option (Array (Option Nat) × Nat):=do
 let (owner,k) ← acc
 let j ← layClean.free mask owner (turns mask) (bits h % (mask + 1)) (bits h)
 pure (owner.setIfInBounds j (some k),k + 1)
theorem layClean_eq (mask : Nat) (hashes : Array Int) : layClean mask hashes = (hashes.foldl (layStep mask) (some (Array.replicate (mask + 1) none,0))).map (·.1):=rfl
theorem lay_step {t : SetTable} {hs : List Int} {owner : Array (Option Nat)} {k : Nat} {h : Int} (l : Lays t hs owner k) (m : Nat) (hm : t.mask + 1 = 2 ^ m) (hk : k ≤ t.mask) (hh : hs[k]? = some h) :
  ∃ owner',layStep t.mask (some (owner,k)) h = some (owner',k + 1) ∧ Lays t hs owner' (k + 1):=by
 refine xe12 (l.hole hk) fun j hj hn => ?_
 have hi : bits h % (t.mask + 1) ≤ t.mask:=Nat.le_of_lt_succ (Nat.mod_lt _ (Nat.succ_pos _))
 refine xe12 (leaps_all t m hm (bits h % (t.mask + 1)) (bits h) hi (bits_lt h) j hj) fun n hn' e => ?_
 refine xe13 (free_spec t owner l.size (turns t.mask) (bits h % (t.mask + 1)) (bits h) hi ⟨n,by unfold turns;lia,by rw [e];exact hn⟩) fun N a b c => ?_
 rw [← start_run] at a b c
 refine ⟨owner.setIfInBounds (nth t N (t.probeStart h)).j (some k),by unfold layStep;simp only [Option.bind_eq_bind,Option.bind_some,a];rfl,?_⟩
 generalize hjj : (nth t N (t.probeStart h)).j = jj at a b
 have hlt : jj < owner.size:=(Array.getElem?_eq_some_iff.mp b).1
 have g1 : (owner.setIfInBounds jj (some k))[jj]? = some (some k):=by simp [Array.getElem?_setIfInBounds,hlt]
 have g2 : ∀ x,x ≠ jj → (owner.setIfInBounds jj (some k))[x]? = owner[x]?:=fun x hx => by rw [Array.getElem?_setIfInBounds_ne (Ne.symm hx)]
 have occ : ∀ x,OccO owner x → OccO (owner.setIfInBounds jj (some k)) x:=fun x zm4 => xe11 zm4 fun i hx => ⟨i,by rw [g2 x fun z => by rw [z,b] at hx;cases hx];exact hx⟩
 refine ⟨by rw [Array.size_setIfInBounds];exact l.size,fun x i hx => ?_,fun x y i hx hy => ?_,fun i h' hi' he => ?_⟩
 ·by_cases z : x = jj
  ·rw [z,g1] at hx;cases hx;exact Nat.lt_succ_self _
  rw [g2 x z] at hx;exact Nat.lt_succ_of_lt (l.val _ _ hx)
 ·by_cases z : x = jj
  ·by_cases z' : y = jj
   ·rw [z,z']
   rw [z,g1] at hx;cases hx
   rw [g2 y z'] at hy
   exact absurd (l.val _ _ hy) (Nat.lt_irrefl _)
  rw [g2 x z] at hx
  by_cases z' : y = jj
  ·rw [z',g1] at hy;cases hy
   exact absurd (l.val _ _ hx) (Nat.lt_irrefl _)
  rw [g2 y z'] at hy
  exact l.one _ _ _ hx hy
 by_cases z : i = k
 ·subst z
  rw [hh] at he;cases he
  exact ⟨N,jj,g1,hjj,fun m hm => occ _ (c m hm)⟩
 refine xe23 (l.road i h' (by lia) he) fun n x h1 h2 h3 => ?_
 exact ⟨n,x,by rw [g2 x fun q => by rw [q,b] at h1;cases h1];exact h1,h2,fun m hm => occ _ (h3 m hm)⟩
theorem lay_all {t : SetTable} (m : Nat) (hm : t.mask + 1 = 2 ^ m) (hs : List Int) (hk : hs.length ≤ t.mask + 1) : ∀ (rest : List Int) (done : List Int) (owner : Array (Option Nat)),hs = done ++ rest → Lays t hs owner done.length →
  ∃ owner',rest.foldl (layStep t.mask) (some (owner,done.length)) = some (owner',hs.length) ∧ Lays t hs owner' hs.length:=by
 intro rest
 induction rest with
 | nil => intro done owner e l;rw [List.append_nil] at e;subst e;exact ⟨owner,rfl,l⟩
 | cons h rest ih =>
  intro done owner e l
  refine xe12 (lay_step (h:=h) l m hm (by rw [e] at hk;simp at hk;lia) (by rw [e];simp)) fun owner' a b => ?_
  rw [List.foldl_cons,a]
  have:=ih (done ++ [h]) owner' (by rw [e];simp) (by simpa using b)
  simpa using this
theorem layClean_ok {t : SetTable} (m : Nat) (hm : t.mask + 1 = 2 ^ m) (hs : List Int) (hk : hs.length ≤ t.mask + 1) : ∃ owner,layClean t.mask hs.toArray = some owner ∧ Lays t hs owner hs.length:=by
 have l0 : Lays t hs (Array.replicate (t.mask + 1) none) 0:=by
  refine ⟨Array.size_replicate,fun j i h => ?_,fun j j' i h _ => ?_,fun i h hi _ => absurd hi (Nat.not_lt_zero _)⟩ <;>
  ·rw [Array.getElem?_replicate] at h
   split at h <;> cases h
 refine xe12 (lay_all m hm hs hk hs [] _ rfl l0) fun owner a b => ?_
 refine ⟨owner,?_,b⟩
 rw [layClean_eq,List.foldl_toArray]
 rw [show (some (Array.replicate (t.mask + 1) none,0) : Option (Array (Option Nat) × Nat)) = some (Array.replicate (t.mask + 1) none,([] : List Int).length) from rfl,a]
 rfl
noncomputable def liveOf (mask : Nat) (owner : Array (Option Nat)) : List (Nat × Nat):=(List.range (mask + 1)).filterMap fun j => (owner.getD j none).map (j,·)
theorem mem_live {mask : Nat} {owner : Array (Option Nat)} (hs : owner.size = mask + 1) {p : Nat × Nat} : p ∈ liveOf mask owner ↔ owner[p.1]? = some (some p.2):=by
 unfold liveOf
 rw [List.mem_filterMap]
 constructor
 ·intro zq12
  refine xe12 zq12 fun j hj e => ?_
  try clear zq12
  have hlt : j < owner.size:=by rw [hs];exact List.mem_range.mp hj
  have hd : owner.getD j none = owner[j]:=by simp [Array.getD,hlt]
  rw [hd] at e
  cases q : owner[j] with
  | none => rw [q] at e;cases e
  | some i => rw [q] at e;cases e;rw [Array.getElem?_eq_getElem hlt,q]
 intro h
 refine xe11 (Array.getElem?_eq_some_iff.mp h) fun h1 h2 => ?_
 refine ⟨p.1,List.mem_range.mpr (by exact xs94f ‹_› ‹_›),?_⟩
 have hd : owner.getD p.1 none = owner[p.1]:=by simp [Array.getD,h1]
 rw [hd,h2];rfl
theorem live_rise (mask : Nat) (owner : Array (Option Nat)) : (liveOf mask owner).Pairwise fun p q => p.1 < q.1:=by
 unfold liveOf
 rw [List.pairwise_filterMap]
 refine List.Pairwise.imp ?_ (List.pairwise_lt_range)
 intro a b hab x hx y hy
 cases qa : owner.getD a none <;> cases qb : owner.getD b none <;> simp_all
 subst hx;subst hy;exact hab
theorem perm_of {a b : List Nat} (ha : a.Nodup) (hb : b.Nodup) (h : ∀ x,x ∈ a ↔ x ∈ b) : a.Perm b:=(List.perm_ext_iff_of_nodup ha hb).mpr fun x => h x
theorem laid_ok {t : SetTable} (m : Nat) (h3 : 3 ≤ m) (hm : t.mask + 1 = 2 ^ m) (hs : List Int) (hk : hs.length ≤ t.mask) (finger moves : Nat) (led plain : Bool) :
  ∃ t' order,laid t.mask finger moves led plain hs.toArray = some (t',order) ∧ t'.mask = t.mask ∧ t'.led = led ∧ t'.plain = plain ∧ t'.moves = moves ∧ order.toList.Perm (List.range hs.length) ∧
   Laid t' (order.toList.filterMap (hs[·]?)) ∧ (order.toList.filterMap (hs[·]?)).length = hs.length:=by
 refine xe12 (layClean_ok m hm hs (by exact xs91c ‹_›)) fun owner a l => ?_
 let live:=liveOf t.mask owner
 let t' : SetTable:={ mask:=t.mask,place:=(live.map (·.1)).toArray,dummies:=#[],finger,led,moves,plain }
 have rise:=live_rise t.mask owner
 have memL : ∀ {p : Nat × Nat},p ∈ live ↔ owner[p.1]? = some (some p.2):=mem_live l.size
 have perm : (live.map (·.2)).Perm (List.range hs.length):=by
  refine perm_of ?_ List.nodup_range fun i => ?_
  ·refine List.pairwise_map.mpr (List.Pairwise.imp_of_mem (fun {p q} hp hq hlt e => ?_) rise)
   have h1:=memL.mp hp
   have h2:=memL.mp hq
   rw [e] at h1
   have:=l.one _ _ _ h1 h2
   lia
  constructor
  ·intro hi
   refine xe12 (List.mem_map.mp hi) fun p hp zq3 => ?_
   subst zq3
   exact List.mem_range.mpr (l.val _ _ (memL.mp hp))
  intro hi
  have hi':=List.mem_range.mp hi
  refine xe22 (l.road i hs[i] hi' (by simp [hi'])) fun n j h1 _ => ?_
  exact List.mem_map.mpr ⟨(j,i),memL.mpr h1,rfl⟩
 have lenL : live.length = hs.length:=by
  have:=perm.length_eq
  rw [List.length_map,List.length_range] at this
  exact this
 have all : ∀ i ∈ live.map (·.2),(hs[i]?).isSome:=fun i hi => by
  have:=List.mem_range.mp (perm.mem_iff.mp hi)
  simp [this]
 have fm : ∀ (xs : List Nat),(∀ i ∈ xs,(hs[i]?).isSome) → (xs.filterMap (hs[·]?)).length = xs.length ∧ ∀ k : Nat,(xs.filterMap (hs[·]?))[k]? = (xs[k]?).bind (hs[·]?):=by
  intro xs
  induction xs with
  | nil => intro _;exact ⟨rfl,fun k => by simp⟩
  | cons x xs ih =>
   intro h
   refine xe11 (Option.isSome_iff_exists.mp (h x (.head _))) fun v hv => ?_
   refine xe02 (ih fun i hi => h i (.tail _ hi)) fun i1 i2 => ?_
   rw [List.filterMap_cons,hv]
   refine ⟨by simp [i1],fun k => ?_⟩
   cases k with
   | zero => simp [hv]
   | succ k => simpa using i2 k
 refine xe02 (fm _ all) fun f1 f2 => ?_
 have pl : ∀ k j : Nat,t'.place[k]? = some j ↔ ∃ i,live[k]? = some (j,i):=fun k j => by
  rw [List.getElem?_toArray,List.getElem?_map]
  cases q : live[k]? with
  | none => simp
  | some p => simp only [Option.map_some,Option.some.injEq];exact ⟨fun e => ⟨p.2,by rw [← e]⟩,fun zm5 => xe11 zm5 fun i e => by rw [e]⟩
 have occ : ∀ j,OccO owner j → Occ t' j:=fun j zm6 => xe11 zm6 fun i h => by
  refine xe11 (List.getElem?_of_mem (memL (p:=(j,i)).mpr h)) fun k hk => ?_
  exact ⟨k,(pl k j).mpr ⟨i,hk⟩⟩
 have hlen : ((live.map (·.2)).filterMap (hs[·]?)).length = hs.length:=by rw [f1,List.length_map,lenL]
 refine ⟨t',(live.map (·.2)).toArray,?_,rfl,rfl,rfl,rfl,by simpa using perm,⟨⟨⟨m,h3,hm⟩,?_,?_,?_,rfl,?_⟩,?_⟩,by simpa using hlen⟩
 ·unfold laid
  rw [a]
  rfl
 ·refine rise_of fun k a b ha hb => ?_
  refine xe11 ((pl k a).mp ha) fun i hi => ?_
  refine xe11 ((pl (k + 1) b).mp hb) fun i' hi' => ?_
  refine xe11 (List.getElem?_eq_some_iff.mp hi) fun h1 e1 => ?_
  refine xe11 (List.getElem?_eq_some_iff.mp hi') fun h2 e2 => ?_
  have:=(List.pairwise_iff_getElem.mp rise) k (k + 1) h1 h2 (by exact xs43)
  rw [e1,e2] at this
  exact this
 ·show ((live.map (·.1)).toArray).size = _
  rw [show (List.filterMap (fun x => hs[x]?) (live.map (·.2)).toArray.toList) = (live.map (·.2)).filterMap (hs[·]?) from rfl,hlen]
  simp [lenL]
 ·rw [show (List.filterMap (fun x => hs[x]?) (live.map (·.2)).toArray.toList) = (live.map (·.2)).filterMap (hs[·]?) from rfl,hlen]
  exact hk
 ·intro k j hkj
  refine xe11 ((pl k j).mp hkj) fun i hi => ?_
  have:=memL.mp (List.mem_of_getElem? hi)
  have:=(Array.getElem?_eq_some_iff.mp this).1
  have:=l.size
  show j ≤ t.mask
  simp only at *
  lia
 intro k h hkh
 rw [show (List.filterMap (fun x => hs[x]?) (live.map (·.2)).toArray.toList) = (live.map (·.2)).filterMap (hs[·]?) from rfl,f2,List.getElem?_map] at hkh
 cases q : live[k]? with
 | none => rw [q] at hkh;cases hkh
 | some p =>
  rw [q] at hkh
  have hp:=memL.mp (List.mem_of_getElem? q)
  have hh : hs[p.2]? = some h:=hkh
  refine xe23 (l.road p.2 h (l.val _ _ hp) hh) fun n j h1 h2 h4 => ?_
  have ej : j = p.1:=l.one _ _ _ h1 hp
  subst ej
  refine ⟨n,p.1,(pl k p.1).mpr ⟨p.2,q⟩,?_,fun x hx => ?_⟩
  ·rw [nth_same t t' rfl];exact h2
  rw [nth_same t t' rfl];exact occ _ (h4 x hx)
theorem sizeAbove_go : ∀ fuel m n,n < 2 ^ (m + fuel) → ∃ k,sizeAbove.go n fuel (2 ^ m) = 2 ^ k ∧ m ≤ k ∧ n < 2 ^ k ∧ (k = m ∨ 2 ^ k ≤ 2 * n):=by
 intro fuel
 induction fuel with
 | zero => intro m n h;exact ⟨m,rfl,Nat.le_refl _,h,.inl rfl⟩
 | succ fuel ih =>
  intro m n h
  rw [show sizeAbove.go n (fuel + 1) (2 ^ m) = if 2 ^ m ≤ n then sizeAbove.go n fuel (2 ^ m * 2) else 2 ^ m from rfl]
  by_cases q : 2 ^ m ≤ n
  ·rw [if_pos q,← Nat.pow_succ]
   refine xe14 (ih (m + 1) n (by rw [show m + 1 + fuel = m + (fuel + 1) by lia];exact h)) fun k a b c d => ?_
   refine ⟨k,a,by exact xs88 ‹_›,c,.inr ?_⟩
   rcases d with rfl | d
   ·rw [Nat.pow_succ];lia
   exact d
  rw [if_neg q]
  exact ⟨m,rfl,Nat.le_refl _,by exact xs77 ‹_›,.inl rfl⟩
theorem sizeAbove_ok (n : Nat) (h : n < 2 ^ 60) : ∃ k,sizeAbove n = 2 ^ k ∧ 3 ≤ k ∧ n < 2 ^ k ∧ 2 ^ k ≤ 2 * n + 8:=by
 refine xe14 (sizeAbove_go 64 3 n (Nat.lt_of_lt_of_le h (Nat.pow_le_pow_right (by decide) (by decide)))) fun k a b c d => ?_
 refine ⟨k,a,b,c,?_⟩
 rcases d with rfl | d
 ·simp
 lia
theorem relaid_ok (t : SetTable) (hs : List Int) (wanted : Nat) (hw : wanted < 2 ^ 60) (hk : hs.length ≤ wanted) :
  ∃ t' order,t.relaid hs.toArray wanted = some (t',order) ∧ t'.led = t.led ∧ t'.plain = t.plain ∧ order.toList.Perm (List.range hs.length) ∧
   Laid t' (order.toList.filterMap (hs[·]?)) ∧ (order.toList.filterMap (hs[·]?)).length = hs.length ∧ sizeAbove wanted ≤ 2 * wanted + 8 ∧ wanted ≤ t'.mask:=by
 refine xe14 (sizeAbove_ok wanted hw) fun k e h3 hlt hle => ?_
 have hp : 0 < 2 ^ k:=Nat.two_pow_pos k
 refine xe28 (laid_ok (t:={ t with mask:=2 ^ k - 1 }) k h3 (by exact xs14 ‹_›) hs (by exact xs15b ‹_› ‹_›) t.finger (t.movedTo (2 ^ k - 1)) t.led t.plain) fun t' order a b c d f g i j => ?_
 refine ⟨t',order,?_,c,d,g,i,j,by rw [e];exact hle,by rw [b];exact xs15 ‹_›⟩
 unfold relaid
 rw [e]
 exact a
theorem fresh_laid (finger moves : Nat) (led : Bool) : Laid (SetTable.fresh finger moves led) [] :=
 ⟨⟨⟨3,by decide,rfl⟩,fun i j _ hj => absurd hj (Nat.not_lt_zero _),rfl,Nat.zero_le _,rfl,fun i j h => by simp [SetTable.fresh] at h⟩,fun i h hi => by simp at hi⟩
noncomputable def TX (g g' : Sg) : Prop:=∀ a o,g a = some o → o.cls = .type "tuple" → g' a = some o
theorem TX.trans {a b c : Sg} (h : TX a b) (k : TX b c) : TX a c:=fun x o e q => k x o (h x o e q) q
theorem Ext.tx {a b : Sg} (h : Ext a b) : TX a b:=fun x o e _ => h x o e
noncomputable def TXn (g g' : Sg) : Prop:=∀ a o,g a = some o → o.cls = .type "tuple" → (∀ es ep,o.data ≠ .dict es ep) → g' a = some o
theorem TX.n {g g' : Sg} (h : TX g g') : TXn g g':=fun a o e c _ => h a o e c
inductive All2 {α β : Type} (R : α → β → Prop) : List α → List β → Prop
 | nil : All2 R [] []
 | cons {a b l m} : R a b → All2 R l m → All2 R (a :: l) (b :: m)
theorem All2.length {α β : Type} {R : α → β → Prop} {l : List α} {m : List β} (h : All2 R l m) : l.length = m.length:=by
 induction h with
 | nil => rfl
 | cons _ _ ih => simp [ih]
theorem All2.imp {α β : Type} {R R' : α → β → Prop} (f : ∀ a b,R a b → R' a b) {l : List α} {m : List β} (h : All2 R l m) : All2 R' l m:=by
 induction h with
 | nil => exact .nil
 | cons h _ ih => exact .cons (f _ _ h) ih
theorem All2.get {α β : Type} {R : α → β → Prop} {l : List α} {m : List β} (h : All2 R l m) {i : Nat} {a : α} {b : β} (ha : l[i]? = some a) (hb : m[i]? = some b) : R a b:=by
 induction h generalizing i with
 | nil => simp at ha
 | cons h _ ih =>
  cases i with
  | zero => simp at ha hb;subst ha;subst hb;exact h
  | succ i => exact ih (by simpa using ha) (by simpa using hb)
theorem All2.get1 {α β : Type} {R : α → β → Prop} {l : List α} {m : List β} (h : All2 R l m) {i : Nat} {a : α} (ha : l[i]? = some a) : ∃ b,m[i]? = some b ∧ R a b:=by
 induction h generalizing i with
 | nil => simp at ha
 | cons h _ ih =>
  cases i with
  | zero => simp at ha;subst ha;exact ⟨_,rfl,h⟩
  | succ i => exact ih (by simpa using ha)
theorem All2.get2 {α β : Type} {R : α → β → Prop} {l : List α} {m : List β} (h : All2 R l m) {i : Nat} {b : β} (hb : m[i]? = some b) : ∃ a,l[i]? = some a ∧ R a b:=by
 induction h generalizing i with
 | nil => simp at hb
 | cons h _ ih =>
  cases i with
  | zero => simp at hb;subst hb;exact ⟨_,rfl,h⟩
  | succ i => exact ih (by simpa using hb)
theorem All2.append {α β : Type} {R : α → β → Prop} {l l' : List α} {m m' : List β} (h : All2 R l m) (k : All2 R l' m') : All2 R (l ++ l') (m ++ m'):=by
 induction h with
 | nil => exact k
 | cons h _ ih => exact .cons h ih
theorem All2.mem {α β : Type} {R : α → β → Prop} {l : List α} {m : List β} (h : All2 R l m) {b : β} (hb : b ∈ m) : ∃ a,a ∈ l ∧ R a b:=by
 refine xe11 (List.mem_iff_getElem?.mp hb) fun i hi => ?_
 refine xe12 (h.get2 hi) fun a ha r => ?_
 exact ⟨a,List.mem_of_getElem? ha,r⟩
theorem All2.split {α β : Type} {R : α → β → Prop} : ∀ {l l' : List α} {m : List β},All2 R (l ++ l') m → ∃ m₁ m₂,m = m₁ ++ m₂ ∧ All2 R l m₁ ∧ All2 R l' m₂
 | [],_,m,h => ⟨[],m,rfl,.nil,h⟩
 | a :: l,l',_,.cons h t => by
  refine xe23 (All2.split t) fun m₁ m₂ zq1 h1 h2 => ?_
  subst zq1
  exact ⟨_ :: m₁,m₂,rfl,.cons h h1,h2⟩
noncomputable def Quiet (s s' : Shared) : Prop:=Same s s' ∧ s'.heap = s.heap
theorem Quiet.refl (s : Shared) : Quiet s s:=⟨.refl s,rfl⟩
structure VK (prog : Program) (w : World) (K : Type) [DecidableEq K] where
 is : Sg → K → Value → Prop
 hash : K → Int
 dep : Nat
 inj : ∀ {g : Sg} {x y : K} {v : Value},is g x v → is g y v → x = y
 draws : K → Nat
 mono' : ∀ {g g' : Sg} {k : K} {v : Value},TXn g g' → is g k v → is g' k v
 pyHash' : ∀ {A : Around} {E : Value → Shared → Prop} {s : Shared} {k : K} {v : Value} {Q : Int → Shared → Prop},A.units + dep < cLine → is s.heap.get? k v → Q (hash k) { s with toks:=s.toks + draws k } →
  wpAny (model prog w) A (PySem.pyHash v) Q E s
 eqB : ∀ {A : Around} {E : Value → Shared → Prop} {s : Shared} {x y : K} {v u : Value} {Q : Bool → Shared → Prop},A.units + dep < cLine → is s.heap.get? x v → is s.heap.get? y u → Q (decide (x = y)) s →
  wpAny (model prog w) A (PySem.eqBool v u) Q E s
 quiet : ∀ {A : Around} {E : Value → Shared → Prop} {s : Shared} {k : K} {v : Value} {Q : Bool → Shared → Prop} {n : Nat},dep ≤ n → is s.heap.get? k v → Q true s → wpAny (model prog w) A (eqIsQuiet n v) Q E s
 cls : ∀ {A : Around} {E : Value → Shared → Prop} {s : Shared} {k : K} {v : Value} {Q : Bool → Shared → Prop} {n : Nat},dep ≤ n → is s.heap.get? k v → Q false s → wpAny (model prog w) A (ofAClassStatement n v) Q E s
 byv : ∀ {A : Around} {E : Value → Shared → Prop} {s : Shared} {k : K} {v : Value} {Q : Bool → Shared → Prop} {n : Nat},dep ≤ n → is s.heap.get? k v → (∀ b,Q b s) → wpAny (model prog w) A (hashByValue n v) Q E s
theorem VK.mono {prog : Program} {w : World} {K : Type} [DecidableEq K] (kd : VK prog w K) {g g' : Sg} {k : K} {v : Value} (h : TX g g') (x : kd.is g k v) : kd.is g' k v:=kd.mono' h.n x
theorem VK.pyHash {prog : Program} {w : World} {K : Type} [DecidableEq K] (kd : VK prog w K) {A : Around} {E : Value → Shared → Prop} {s : Shared} {k : K} {v : Value} {Q : Int → Shared → Prop} (hu : A.units + kd.dep < cLine) (hk : kd.is s.heap.get? k v) (h : ∀ s',Quiet s s' → Q (kd.hash k) s') :
  wpAny (model prog w) A (PySem.pyHash v) Q E s:=kd.pyHash' hu hk (h _ ⟨⟨rfl,rfl⟩,rfl⟩)
section
variable (prog : Program) (w : World)
noncomputable def intV : VK prog w Int where
 is:=fun _ i v => ∃ t,v = .int i t
 hash:=hashInt
 dep:=0
 inj:=fun ⟨t,h⟩ ⟨u,h'⟩ => by subst h;cases h';rfl
 draws:=fun _ => 1
 mono':=fun _ h => h
 pyHash':=fun hu zm2 h => xe11 zm2 fun t e => by subst e;exact wpAny_pyHash_int h
 eqB:=fun hu zm3 ⟨u,e'⟩ h => xe11 zm3 fun t e => by
  subst e;subst e'
  exact (intKind prog w).eqBool (intKind_is _ _ _ _) (intKind_is _ _ _ _) h
 quiet:=fun hn zm4 h => xe11 zm4 fun t e => by subst e;rw [eqIsQuiet_byValue _ rfl];exact wpAny_pure h
 cls:=fun {A E s k v Q n} hn zm5 h => xe11 zm5 fun t e => by subst e;cases n <;> exact wpAny_pure h
 byv:=fun hn zm6 h => xe11 zm6 fun t e => by subst e;unfold hashByValue;exact wpAny_pure (h _)
end
section
variable {prog : Program} {w : World} {K : Type} [DecidableEq K] (kd : VK prog w K)
noncomputable def tupIs (g : Sg) (ks : List K) (v : Value) : Prop:=∃ a items n,v = .ref a ∧ g a = some ({ cls:=.type "tuple",data:=.seq items n } : Obj) ∧ All2 (kd.is g) ks items.toList
noncomputable def tupHash (ks : List K) : Int:=reduceHash (Builtin.Tuple.tupleHashOf (ks.map kd.hash))
theorem all2_inj {g : Sg} {x y : List K} {l : List Value} (h : All2 (kd.is g) x l) : All2 (kd.is g) y l → x = y:=by
 induction h generalizing y with
 | nil => intro h2;cases h2;rfl
 | cons a _ ih =>
  intro h2
  cases h2 with
  | cons c d => rw [kd.inj a c,ih d]
variable {A : Around} {E : Value → Shared → Prop} {s : Shared}
noncomputable def tupDraws (ks : List K) : Nat:=(ks.map kd.draws).foldl (· + ·) 0 + 1
theorem tup_hash {ks : List K} {v : Value} {Q : Int → Shared → Prop} (hu : A.units + (kd.dep + 1) < cLine) (hk : tupIs kd s.heap.get? ks v) (h : Q (tupHash kd ks) { s with toks:=s.toks + tupDraws kd ks }) :
  wpAny (model prog w) A (PySem.pyHash v) Q E s:=by
 refine xe33 hk fun a items n zq2 ho hi => ?_
 try clear hk
 subst zq2
 have hT : s.TypeIs (.ref a) "tuple":=⟨_,ho,rfl⟩
 refine pyHash_slot (T:="tuple") hT F.slot_tuple_hash F.entry_tuple_hash (F.args_tuple_hash_1 _) (beq_builtin_none _) (.inr (by lia)) ?_
 show wpAny _ _ (Builtin.Tuple.tupleItemsOf (.ref a) >>= _) _ _ s
 refine wpAny_bind (wpAny_tupleItemsOf ho rfl ?_)
 refine wpAny_bind ?_
 rw [← Array.forIn_toList]
 refine wpAny_forIn_list _
  (fun rest (b : Array Int) s' => ∃ done left,ks = done ++ left ∧ All2 (kd.is s'.heap.get?) left rest ∧ b.toList = done.map kd.hash ∧ s' = { s with toks:=s.toks + (done.map kd.draws).foldl (· + ·) 0 })
  _ ?_ ?_ _ _ ⟨[],ks,rfl,hi,rfl,rfl⟩
 ·intro x rest b s' zq90
  refine xe24 zq90 fun done left zq437 hl hb zq438 => ?_
  try clear zq90
  subst zq437
  subst zq438
  cases hl with
  | @cons k _ ks' _ h1 hl' =>
   refine wpAny_bind (kd.pyHash' (by show A.units + 1 + kd.dep < cLine;lia) h1 ?_)
   have et : (List.map kd.draws (done ++ [k])).foldl (· + ·) 0 = (List.map kd.draws done).foldl (· + ·) 0 + kd.draws k:=by simp
   first
    | exact wpAny_pure ⟨done ++ [k],ks',by simp,hl',by simp [hb],by rw [et];simp [Nat.add_assoc]⟩
    | exact wpAny_bind (wpAny_pure (wpAny_pure ⟨done ++ [k],ks',by simp,hl',by simp [hb],by rw [et];simp [Nat.add_assoc]⟩))
 intro b s' zq91
 refine xe24 zq91 fun done left zq439 hl hb zq440 => ?_
 try clear zq91
 subst zq439
 subst zq440
 cases hl
 rw [List.append_nil] at h
 show wpAny _ _ (retInt (Builtin.Tuple.tupleHashOf b.toList)) _ _ _
 rw [hb]
 exact wpAny_bind (wpAny_mkInt (wpAny_pure ⟨_,_,rfl,by have h2:=h;unfold tupHash at h2;simpa [tupDraws,Nat.add_assoc] using h2⟩))
theorem tup_eqTree {x y : List K} {v u : Value} {P : PySem.Fin → Shared → Prop} (hu : A.units + kd.dep < cLine) (hx : tupIs kd s.heap.get? x v) (hy : tupIs kd s.heap.get? y u) (h : P (.done (.ret (.bool (decide (x = y))))) s) :
  wpAny (model prog w) A (Builtin.«tuple.__eq__» ⟨[v,u],[]⟩) P E s:=by
 refine xe33 hx fun a xs na zq85 hoa hia => ?_
 try clear hx
 subst zq85
 refine xe33 hy fun b ys nb zq3 hob hib => ?_
 try clear hy
 subst zq3
 have hTb : s.TypeIs (.ref b) "tuple":=⟨_,hob,rfl⟩
 show wpAny _ _ (isInstance (.ref b) (.type "tuple") >>= _) _ _ s
 refine wpAny_bind (wpAny_isInstance hTb isSubtype_tuple_tuple ?_)
 refine wpAny_bind (wpAny_tupleItemsOf hoa rfl ?_)
 refine wpAny_bind (wpAny_tupleItemsOf hob rfl ?_)
 refine wpAny_bind ?_
 refine wpAny_forIn_list _
  (fun rest r s' => r.1 = none ∧ s' = s ∧ ∃ x' y' xs' ys',rest = List.zip xs' ys' ∧ All2 (kd.is s.heap.get?) x' xs' ∧ All2 (kd.is s.heap.get?) y' ys' ∧ decide (x' = y') = decide (x = y) ∧ (xs'.length == ys'.length) = (xs.size == ys.size))
  _ ?_ ?_ _ _ ⟨rfl,rfl,x,y,xs.toList,ys.toList,rfl,hia,hib,rfl,by simp⟩
 ·intro zq92 rest r s' zq93
  obtain ⟨u,v⟩:=zq92
  refine xe03 zq93 fun hr zq441 zq442 => ?_
  try clear zq93
  subst zq441
  refine xe45 zq442 fun x' y' xs' ys' hz hx' hy' hdec hlen => ?_
  try clear zq442
  cases hx' with
  | nil => simp at hz
  | @cons k1 u' x'' xs'' h1 hx'' =>
   cases hy' with
   | nil => simp at hz
   | @cons k2 v' y'' ys'' h2 hy'' =>
    simp only [List.zip_cons_cons,List.cons.injEq,Prod.mk.injEq] at hz
    refine xe02 hz fun zq4 zq5 => ?_
    try clear hz
    refine xe02 zq4 fun zq6 zq7 => ?_
    try clear zq4
    subst zq6
    subst zq7
    subst zq5
    refine wpAny_bind (kd.eqB (x:=k1) (y:=k2) hu h1 h2 ?_)
    by_cases hk : k1 = k2
    ·subst hk
     rw [decide_eq_true rfl]
     refine wpAny_pure ⟨rfl,rfl,x'',y'',xs'',ys'',rfl,hx'',hy'',?_,by simpa using hlen⟩
     rw [← hdec]
     by_cases hxy : x'' = y''
     ·simp [hxy]
     simp [hxy]
    rw [decide_eq_false hk]
    have hf : decide (x = y) = false:=by rw [← hdec];simp [hk]
    rw [hf] at h
    exact wpAny_bind (wpAny_pure (wpAny_pure (wpAny_pure h)))
 intro zq94 s' zq95
 obtain ⟨r1,r2⟩:=zq94
 refine xe03 zq95 fun hr zq443 zq444 => ?_
 try clear zq95
 subst zq443
 refine xe45 zq444 fun x' y' xs' ys' hz hx' hy' hdec hlen => ?_
 try clear zq444
 simp only at hr
 subst hr
 refine wpAny_pure ?_
 have hfin : (xs.size == ys.size) = decide (x = y):=by
  rw [← hdec,← hlen]
  cases hx' with
  | nil =>
   cases hy' with
   | nil => simp
   | cons _ _ => simp
  | cons _ _ =>
   cases hy' with
   | nil => simp
   | cons _ _ => simp at hz
 show P (.done (.ret (.bool (xs.size == ys.size)))) s'
 rw [hfin];exact h
theorem tup_inj {g : Sg} {x y : List K} {v : Value} (hx : tupIs kd g x v) (hy : tupIs kd g y v) : x = y:=by
 refine xe33 hx fun a xs na zq86 hoa hia => ?_
 try clear hx
 subst zq86
 refine xe33 hy fun b ys nb e hob hib => ?_
 try clear hy
 injection e with zc;subst zc
 rw [hoa] at hob
 cases hob
 exact all2_inj kd hia hib
theorem tup_eqB {x y : List K} {v u : Value} {Q : Bool → Shared → Prop} (hu : A.units + (kd.dep + 1) < cLine) (hx : tupIs kd s.heap.get? x v) (hy : tupIs kd s.heap.get? y u) (h : Q (decide (x = y)) s) :
  wpAny (model prog w) A (eqBool v u) Q E s:=by
 have hx':=hx
 have hy':=hy
 refine xe33 hx' fun a xs na zq8 hoa hia => ?_
 try clear hx'
 subst zq8
 refine xe33 hy' fun b ys nb zq9 hob hib => ?_
 try clear hy'
 subst zq9
 unfold eqBool
 try with_reducible refine wpAny_holding ?_
 show wpAny _ _ (if (Value.ref a == Value.ref b) = true then _ else _) Q E s
 by_cases hab : (Value.ref a == Value.ref b) = true
 ·refine wp_pos hab ?_
  have e : a = b:=by have:=eq_of_beq hab;injection this
  subst e
  obtain rfl:=tup_inj kd hx hy
  exact wpAny_bind (wpAny_rule (wpAny_pure (by simpa using h)))
 refine wp_neg hab ?_
 have hTa : s.TypeIs (.ref a) "tuple":=⟨_,hoa,rfl⟩
 have hTb : s.TypeIs (.ref b) "tuple":=⟨_,hob,rfl⟩
 exact wpAny_bind (wpAny_richCompare_same_room (op:=.Eq) hTa hTb F.slot_tuple_eq
  (wpAny_call_entry F.slot_tuple_eq hTa F.entry_tuple_eq (tup_eqTree kd (by show A.units + 1 + kd.dep < cLine;lia) hx hy ⟨_,rfl,(fun e => nomatch e),wpAny_truthy_bool h⟩) (F.args_tuple_eq_2 _ _)) (by lia))
theorem tup_quiet {ks : List K} {v : Value} {Q : Bool → Shared → Prop} {n : Nat} (hn : kd.dep + 1 ≤ n) (hk : tupIs kd s.heap.get? ks v) (h : Q true s) : wpAny (model prog w) A (eqIsQuiet n v) Q E s:=by
 refine xe33 hk fun a items ep zq10 ho hi => ?_
 try clear hk
 subst zq10
 have hT : s.TypeIs (.ref a) "tuple":=⟨_,ho,rfl⟩
 refine xe11 (⟨n - 1,by exact xs14c ‹_›⟩ : ∃ m,n = m + 1) fun n zq87 => ?_
 subst zq87
 unfold eqIsQuiet
 refine wpAny_bind (wpAny_specialOf hT F.slot_tuple_eq.lookup ?_)
 refine wpAny_bind (wpAny_isInstance hT isSubtype_tuple_tuple ?_)
 refine wpAny_bind (wpAny_seqItems ho rfl ?_)
 refine wpAny_bind ?_
 show wpAny _ _ (forIn items _ _) _ _ s
 rw [← Array.forIn_toList]
 refine wpAny_forIn_list _ (fun rest r s' => r.1 = none ∧ s' = s ∧ ∀ v ∈ rest,∃ k,kd.is s.heap.get? k v) _ ?_ ?_ _ _ ⟨rfl,rfl,fun v hv => let ⟨k,_,r⟩:=hi.mem hv;⟨k,r⟩⟩
 ·intro v rest r s' zq96
  refine xe03 zq96 fun hr zq445 hall => ?_
  try clear zq96
  subst zq445
  refine xe11 (hall v List.mem_cons_self) fun k hk => ?_
  refine wpAny_bind (kd.quiet (by exact xs15 ‹_›) hk ?_)
  exact wpAny_pure ⟨rfl,rfl,fun u hu' => hall u (List.mem_cons_of_mem _ hu')⟩
 intro zq97 s' zq98
 obtain ⟨r1,r2⟩:=zq97
 refine xe03 zq98 fun hr zq446 _ => ?_
 try clear zq98
 subst zq446
 simp only at hr
 subst hr
 exact wpAny_pure h
end
section
variable {prog : Program} {w : World} {K : Type} [DecidableEq K] (kd : VK prog w K) {A : Around} {E : Value → Shared → Prop} {s : Shared}
set_option smartUnfolding false in
theorem tup_cls {ks : List K} {v : Value} {Q : Bool → Shared → Prop} {n : Nat} (hn : kd.dep + 1 ≤ n) (hk : tupIs kd s.heap.get? ks v) (h : Q false s) : wpAny (model prog w) A (ofAClassStatement n v) Q E s:=by
 refine xe33 hk fun a items ep zq11 ho hi => ?_
 try clear hk
 subst zq11
 have hT : s.TypeIs (.ref a) "tuple":=⟨_,ho,rfl⟩
 refine xe11 (⟨n - 1,by exact xs14c ‹_›⟩ : ∃ m,n = m + 1) fun n zq88 => ?_
 subst zq88
 change wpAny (model prog w) A (typeOf (.ref a) >>= _) Q E s
 refine wpAny_bind (wpAny_typeOf hT ?_)
 dsimp only
 refine wpAny_bind (wpAny_pure ?_)
 refine wpAny_bind (wpAny_seqItems ho rfl ?_)
 refine wpAny_bind ?_
 show wpAny _ _ (forIn items _ _) _ _ s
 rw [← Array.forIn_toList]
 refine wpAny_forIn_list _ (fun rest r s' => r.1 = none ∧ s' = s ∧ ∀ v ∈ rest,∃ k,kd.is s.heap.get? k v) _ ?_ ?_ _ _ ⟨rfl,rfl,fun v hv => let ⟨k,_,r⟩:=hi.mem hv;⟨k,r⟩⟩
 ·intro v rest r s' zq99
  refine xe03 zq99 fun hr zq447 hall => ?_
  try clear zq99
  subst zq447
  refine xe11 (hall v List.mem_cons_self) fun k hk => ?_
  refine wpAny_bind (kd.cls (by exact xs15 ‹_›) hk ?_)
  exact wpAny_pure ⟨rfl,rfl,fun u hu' => hall u (List.mem_cons_of_mem _ hu')⟩
 intro zq100 s' zq101
 obtain ⟨r1,r2⟩:=zq100
 refine xe03 zq101 fun hr zq448 _ => ?_
 try clear zq101
 subst zq448
 simp only at hr
 subst hr
 exact wpAny_pure h
theorem tup_byv {ks : List K} {v : Value} {Q : Bool → Shared → Prop} {n : Nat} (hn : kd.dep + 1 ≤ n) (hk : tupIs kd s.heap.get? ks v) (h : ∀ b,Q b s) : wpAny (model prog w) A (hashByValue n v) Q E s:=by
 refine xe33 hk fun a items ep zq12 ho hi => ?_
 try clear hk
 subst zq12
 have hT : s.TypeIs (.ref a) "tuple":=⟨_,ho,rfl⟩
 refine xe11 (⟨n - 1,by exact xs14c ‹_›⟩ : ∃ m,n = m + 1) fun n zq89 => ?_
 subst zq89
 refine wpAny_bind (wpAny_specialOf hT F.slot_tuple_hash.lookup ?_)
 refine wpAny_bind (wpAny_seqItems ho rfl ?_)
 refine wpAny_bind ?_
 show wpAny _ _ (forIn items _ _) _ _ s
 rw [← Array.forIn_toList]
 refine wpAny_forIn_list _ (fun rest r s' => (r.1 = none ∨ r.1 = some false) ∧ s' = s ∧ ∀ v ∈ rest,∃ k,kd.is s.heap.get? k v) _ ?_ ?_ _ _ ⟨.inl rfl,rfl,fun v hv => let ⟨k,_,r⟩:=hi.mem hv;⟨k,r⟩⟩
 ·intro v rest r s' zq102
  refine xe03 zq102 fun hr zq449 hall => ?_
  try clear zq102
  subst zq449
  refine xe11 (hall v List.mem_cons_self) fun k hk => ?_
  refine wpAny_bind (kd.byv (by exact xs15 ‹_›) hk fun b => ?_)
  cases b with
  | true =>
   exact wpAny_pure ⟨.inl rfl,rfl,fun u hu' => hall u (List.mem_cons_of_mem _ hu')⟩
  | false =>
   exact wpAny_pure (wpAny_pure (h _))
 intro zq103 s' zq104
 obtain ⟨r1,r2⟩:=zq103
 refine xe03 zq104 fun hr zq450 _ => ?_
 try clear zq104
 subst zq450
 rcases hr with hr | hr <;> simp only at hr <;> subst hr <;> exact wpAny_pure (h _)
noncomputable def tupV : VK prog w (List K) where
 is:=tupIs kd
 hash:=tupHash kd
 dep:=kd.dep + 1
 inj:=tup_inj kd
 draws:=tupDraws kd
 mono':=fun h zm13 => xe33 zm13 fun a items n e ho hi => ⟨a,items,n,e,h _ _ ho rfl (fun _ _ q => by cases q),hi.imp fun _ _ r => kd.mono' h r⟩
 pyHash':=tup_hash kd
 eqB:=tup_eqB kd
 quiet:=tup_quiet kd
 cls:=tup_cls kd
 byv:=tup_byv kd
end
section
variable {prog : Program} {w : World} {K : Type} [DecidableEq K] {kd : VK prog w K} {A : Around} {E : Value → Shared → Prop} {s : Shared}
noncomputable def Refs (kd : VK prog w K) : Prop:=∀ {g : Sg} {k : K} {v : Value},kd.is g k v → ∃ a,v = .ref a
theorem tup_refs (kd : VK prog w K) : Refs (tupV kd):=fun zm1 => xe32 zm1 fun a _ _ e _ => ⟨a,e⟩
noncomputable abbrev setObj (es : Array (Int × Value)) (ep : Nat) (t : SetTable) : Obj:={ cls:=.type "set",data:=.set es ep t }
noncomputable def ElemOf (kd : VK prog w K) (g : Sg) (k : K) (e : Int × Value) : Prop:=e.1 = kd.hash k ∧ kd.is g k e.2
theorem Refs.elems {kd : VK prog w K} (hr : Refs kd) {g : Sg} {S : List K} {l : List (Int × Value)} (h : All2 (ElemOf kd g) S l) : ∀ e ∈ l,∃ b,e.2 = .ref b:=fun e he => xe12 (h.mem he) fun _ _ r => hr r.2
noncomputable def byText (w : World) : Bool:=w.params.followText "set-order"
theorem search_quiet (hr : kd.dep ≤ 8) {k : K} {x : Value} (hx : kd.is s.heap.get? k x) {stored : List Value} (hst : ∀ v ∈ stored,∃ k',kd.is s.heap.get? k' v) {Q : Bool → Shared → Prop} (h : Q false s) :
  wpAny (model prog w) A (searchCouldBeSeen x stored) Q E s:=by
 refine wpAny_bind ?_
 refine wpAny_forIn_list _ (fun rest r s' => r.1 = none ∧ s' = s ∧ ∀ v ∈ rest,∃ k',kd.is s.heap.get? k' v) _ ?_ ?_ _ _ ⟨rfl,rfl,hst⟩
 ·intro v rest r s' zq3
  refine xe03 zq3 fun hr' zq16 hall => ?_
  try clear zq3
  subst zq16
  refine xe11 (hall v List.mem_cons_self) fun k' hk' => ?_
  have rest' : ∀ u ∈ rest,∃ k',kd.is s'.heap.get? k' u:=fun u hu' => hall u (List.mem_cons_of_mem _ hu')
  have done : wpAny (model prog w) A (pure (ForInStep.yield (none,()))) (fun (r : ForInStep (Option Bool × Unit)) s'_1 =>
    match r with
    | ForInStep.yield b' => b'.fst = none ∧ s'_1 = s' ∧ ∀ (v : Value),v ∈ rest → ∃ k',kd.is s'.heap.get? k' v
    | ForInStep.done b' => wpAny (model prog w) A (match b'.fst with | some r => pure r | none => pure false) Q E s'_1) E s':=wpAny_pure ⟨rfl,rfl,rest'⟩
  dsimp only
  refine wp_ite done ?_
  first
   | (refine wpAny_bind (kd.quiet hr hx ?_);refine wpAny_bind (kd.quiet hr hk' ?_);refine wpAny_bind (kd.cls hr hx ?_);refine wpAny_bind (kd.cls hr hk' ?_);exact done)
 intro zq4 s' zq5
 obtain ⟨r1,r2⟩:=zq4
 refine xe03 zq5 fun hr zq17 _ => ?_
 try clear zq5
 subst zq17
 simp only at hr
 subst hr
 exact wpAny_pure h
theorem isSame_self {v : Value} {Q : Bool → Shared → Prop} (hv : ∃ a,v = .ref a) (h : Q true s) : wpAny (model prog w) A (isSame v v) Q E s:=by
 refine xe11 hv fun a zq1 => ?_
 try clear hv
 subst zq1
 have e : isSame (.ref a) (.ref a) = pure true:=by unfold isSame;simp
 rw [e]
 exact wpAny_pure h
theorem search_from (hd : kd.dep ≤ 8) (hu : A.units + kd.dep < cLine) {a : Addr} {es : Array (Int × Value)} {ep : Nat} {t : SetTable} {S : List K} {k : K} {x : Value} {adding : Bool}
  (hr : ∀ e ∈ es.toList,∃ b,e.2 = .ref b) (ho : s.heap.get? a = some (setObj es ep t)) (hl : Laid t (es.toList.map (·.1))) (hS : All2 (ElemOf kd s.heap.get?) S es.toList) (hx : kd.is s.heap.get? k x)
  {N : Nat} (f : First t (kd.hash k) N) {Q : SetFound → Shared → Prop} (hin : ∀ i : Nat,S[i]? = some k → Q (.there (if adding then none else some i)) s) (hout : k ∉ S → Q (.free (nth t N (t.probeStart (kd.hash k))).j false) s) :
  ∀ (fuel n0 : Nat) (st : Option SetTable.Probe),n0 ≤ N → N - n0 < fuel → st.getD (t.probeStart (kd.hash k)) = nth t n0 (t.probeStart (kd.hash k)) →
   (∀ n i : Nat,n < n0 → t.place[i]? = some (nth t n (t.probeStart (kd.hash k))).j → S[i]? ≠ some k) →
   wpAny (model prog w) A (setSearchFrom a x (kd.hash k) adding fuel st) Q E s:=by
 intro fuel
 induction fuel with
 | zero => intro n0 st _ hf;exact absurd hf (Nat.not_lt_zero _)
 | succ fuel ih =>
  intro n0 st hn hf hst hno
  have hfit : t.fits es.size = true:=by have:=hl.fits;simpa using this
  have hlen : S.length = es.size:=by have:=hS.length;simpa using this
  have hat : ∀ (i : Nat) e,es[i]? = some e → ∃ k',S[i]? = some k' ∧ ElemOf kd s.heap.get? k' e:=fun i e he => by
   refine xe12 (hS.get2 (i:=i) (b:=e) (by rw [Array.getElem?_toList];exact he)) fun k' h1 h2 => ?_
   exact ⟨k',h1,h2⟩
  have hhash : ∀ (i : Nat) k',S[i]? = some k' → (es[i]?.map (·.1)).getD 0 = kd.hash k':=fun i k' hk => by
   refine xe12 (hS.get1 hk) fun e h1 h2 => ?_
   rw [Array.getElem?_toList] at h1
   rw [h1];exact h2.1
  refine wpAny_bind (wpAny_setState_of (o:=setObj es ep t) ho rfl hfit ?_)
  dsimp only
  refine wp_negB hl.stands ?_
  rw [hst]
  have pr:=probe_at hl.toClean (fun i => (es[i]?.map (·.1)).getD 0) (kd.hash k) f hn
  rcases pr with zq18 | zq19
  ·refine xe26 zq18 fun m i h1 h2 h3 h4 h5 h6 => ?_
   try clear zq18
   -- a candidate
   split
   ·rename_i met hm
    have em : met = .candidate (nth t m (t.probeStart (kd.hash k))).j i (nth t (m + 1) (t.probeStart (kd.hash k))):=Option.some.inj (hm.symm.trans h5)
    subst em
    dsimp only
    have hplace:=(Array.getElem?_eq_some_iff.mp h3).1
    have hi : i < es.size:=by have:=hl.size;simp at this;exact xs94f ‹_› ‹_›
    refine xe12 (hat i es[i] (Array.getElem?_eq_getElem hi)) fun k' hk1 hk2 => ?_
    have hsame : t.sameMemory t.moves t.mask = some true:=by unfold SetTable.sameMemory;simp
    have hslot : t.slot (nth t m (t.probeStart (kd.hash k))).j = .live i:=slot_live hl.toClean h3
    have hquiet : ∀ {Q : Bool → Shared → Prop},Q false s → wpAny (model prog w) A (searchCouldBeSeen x (List.map (fun x => x.snd) (Array.filter (fun x => x.fst == kd.hash k) es).toList)) Q E s:=fun h => by
     refine search_quiet hd hx (fun v hv => ?_) h
     refine xe12 (List.mem_map.mp hv) fun e he zq2 => ?_
     subst zq2
     rw [Array.toList_filter] at he
     refine xe11 (List.mem_iff_getElem?.mp (List.mem_filter.mp he).1) fun j hj => ?_
     refine xe12 (hat j e (by rw [← Array.getElem?_toList];exact hj)) fun k'' _ h'' => ?_
     exact ⟨k'',h''.2⟩
    have hnext : k' ≠ k → wpAny (model prog w) A (setSearchFrom a x (kd.hash k) adding fuel (some (nth t (m + 1) (t.probeStart (kd.hash k))))) Q E s:=fun hne => by
     refine ih (m + 1) _ ‹_› (by exact xs5 ‹_› ‹_› ‹_›) rfl fun n i' hn' hp hs => ?_
     by_cases q : n < n0
     ·exact hno n i' q hp hs
     by_cases q' : n = m
     ·subst q'
      have:=rise_inj hl.rise hp h3
      subst this
      rw [hk1] at hs;cases hs;exact hne rfl
     exact h6 n i' (by exact xs77b ‹_›) (by lia) hp (hhash i' k hs)
    have hei : es[i]? = some es[i]:=Array.getElem?_eq_getElem hi
    generalize t.led = bl
    revert bl
    refine boolAll ?_ fun key => ?_
    ·rw [hei]
     dsimp only
     refine wpAny_bind (wpAny_holding (kd.eqB hu hk2.2 hx ?_))
     refine wpAny_bind (wpAny_setState_of (o:=setObj es ep t) ho rfl hfit ?_)
     dsimp only
     by_cases heq : k' = k
     ·subst heq
      cases adding with
      | true =>
       simp only [Bool.and_self,if_true]
       exact wpAny_pure (hin i hk1)
      | false =>
       simp only [Bool.false_and,Bool.false_eq_true,if_false,hsame,if_true,hslot,hei]
       refine wpAny_bind (isSame_self (hr es[i] (Array.getElem_mem_toList _)) ?_)
       exact wpAny_bind (wpAny_pure (wpAny_pure (hin i hk1)))
     rw [decide_eq_false heq]
     simp only [Bool.and_false,Bool.false_eq_true,if_false,hsame,if_true,hslot,hei]
     refine wpAny_bind (isSame_self (hr es[i] (Array.getElem_mem_toList _)) ?_)
     exact wpAny_bind (wpAny_pure (hnext heq))
    refine wpAny_bind (hquiet ?_)
    exact key
   rename_i hm
   exact absurd (show t.probe (fun i => (es[i]?.map (·.1)).getD 0) (kd.hash k) (nth t n0 (t.probeStart (kd.hash k))) = some _ from h5) (hm _)
  refine xe02 zq19 fun h5 h6 => ?_
  try clear zq19
  split
  ·rename_i met hm
   have em : met = .empty (nth t N (t.probeStart (kd.hash k))).j none:=Option.some.inj (hm.symm.trans h5)
   subst em
   refine wpAny_pure (hout fun hk => ?_)
   refine xe11 (List.mem_iff_getElem?.mp hk) fun i hi => ?_
   obtain ⟨n,hn1,hn2⟩:=hl.before (i:=i) (h:=kd.hash k) (by
    refine xe12 (hS.get1 hi) fun e e1 e2 => ?_
    rw [List.getElem?_map,e1];exact congrArg some e2.1) f
   by_cases q : n < n0
   ·exact hno n i q hn2 hi
   exact h6 n i (by exact xs77b ‹_›) hn1 hn2 (hhash i k hi)
  rename_i hm
  exact absurd (show t.probe (fun i => (es[i]?.map (·.1)).getD 0) (kd.hash k) (nth t n0 (t.probeStart (kd.hash k))) = some _ from h5) (hm _)
end
section
variable {prog : Program} {w : World} {K : Type} [DecidableEq K] {kd : VK prog w K} {A : Around} {E : Value → Shared → Prop} {s : Shared}
variable {ι : Sd} {h₀ : Heap} {L a : Addr} {σ : Sg} {m : Str → Option Value} {S : List K} {k : K} {x : Value}
inductive SetAtEx (ld : Prop) (kd : VK prog w K) (g : Sg) (a : Addr) (S : List K) : Prop
 | ofx (es) (ep) (t) (h1 : g a = some (setObj es ep t)) (h2 : Laid t (es.toList.map (·.1))) (h3 : All2 (ElemOf kd g) S es.toList) (h4 : (t.led = true ∨ byText w = true)) (h5 : t.mask ≤ 8191 ∧ (ld → 5 * S.length < 3 * t.mask))
structure SetAt (ld : Prop) (kd : VK prog w K) (g : Sg) (a : Addr) (S : List K) : Prop where
 ex : SetAtEx ld kd g a S
 nd : S.Nodup
noncomputable abbrev SetIn (kd : VK prog w K) (g : Sg) (a : Addr) (S : List K) : Prop:=SetAt True kd g a S
theorem Own.txh {h : Heap} (O : Own ι h₀ L h σ) : TX σ h.get?:=fun a o e _ => O.get e
theorem ElemOf.mono {g g' : Sg} (h : TX g g') {k : K} {e : Int × Value} (x : ElemOf kd g k e) : ElemOf kd g' k e:=⟨x.1,kd.mono h x.2⟩
variable {ld : Prop}
theorem SetAt.heap {h : Heap} (O : Own ι h₀ L h σ) (x : SetAt ld kd σ a S) : SetAt ld kd h.get? a S:=by
 obtain ⟨es,ep,t,h1,h2,h3,h4,h5⟩:=x.ex
 exact ⟨⟨es,ep,t,O.get h1,h2,h3.imp fun _ _ r => r.mono O.txh,h4,h5⟩,x.nd⟩
theorem SetAt.move {g g' : Sg} (h : TX g g') (ha : ∀ o,g a = some o → g' a = some o) (x : SetAt ld kd g a S) : SetAt ld kd g' a S:=by
 obtain ⟨es,ep,t,h1,h2,h3,h4,h5⟩:=x.ex
 exact ⟨⟨es,ep,t,ha _ h1,h2,h3.imp fun _ _ r => r.mono h,h4,h5⟩,x.nd⟩
theorem upd_tx {o o' : Obj} (h : σ a = some o) (hc : o.cls ≠ .type "tuple") : TX σ (upd σ a o'):=fun b x e q => by
 have : b ≠ a:=fun z => by rw [z,h] at e;cases e;exact hc q
 rw [upd_ne this];exact e
theorem fresh_tx {o : Obj} (h : σ a = none) : TX σ (upd σ a o):=(Ext.upd h).tx
theorem byScan_ref {b : Addr} {es : Array (Int × Value)} : byScan (.ref b) es = false:=rfl
theorem set_find (hd : kd.dep ≤ 8) (hr : Refs kd) (hu : A.units + kd.dep < cLine) (hS : SetAt ld kd s.heap.get? a S) (hx : kd.is s.heap.get? k x) {Q : Option Nat → Shared → Prop}
  (hin : ∀ i : Nat,S[i]? = some k → Q (some i) s) (hout : k ∉ S → Q none s) : wpAny (model prog w) A (setFind a x (kd.hash k)) Q E s:=by
 obtain ⟨es,ep,t,h1,h2,h3,h4,h5⟩:=hS.ex
 refine xe11 (first h2.toClean (kd.hash k)) fun N f => ?_
 have hfit : t.fits es.size = true:=by have:=h2.fits;simpa using this
 refine xe11 (hr hx) fun b zq1 => ?_
 subst zq1
 unfold setFind
 refine wpAny_bind (wpAny_setState_of (o:=setObj es ep t) h1 rfl hfit ?_)
 dsimp only
 rw [byScan_ref]
 refine wpAny_bind (search_from hd hu (hr.elems h3) h1 h2 h3 hx f (fun i hi => ?_) (fun hn => ?_) _ 0 none (Nat.zero_le _) (by have:=f.le;lia) rfl fun n i h => absurd h (Nat.not_lt_zero _))
 ·exact wpAny_pure (hin i hi)
 exact wpAny_pure (hout hn)
theorem set_contains (hd : kd.dep ≤ 8) (hr : Refs kd) (hu : A.units + kd.dep < cLine) (hS : SetAt ld kd s.heap.get? a S) (hx : kd.is s.heap.get? k x) {Q : Bool → Shared → Prop}
  (h : ∀ s',Quiet s s' → Q (decide (k ∈ S)) s') : wpAny (model prog w) A (setContains a x) Q E s:=by
 refine wpAny_holding (wpAny_bind (kd.pyHash hu hx fun s' hq => ?_))
 refine wpAny_bind (set_find hd hr hu (hq.2 ▸ hS) (hq.2 ▸ hx) (fun i hi => ?_) fun hn => ?_)
 ·have:=h s' hq
  rw [decide_eq_true (List.mem_of_getElem? hi)] at this
  exact wpAny_pure this
 have:=h s' hq
 rw [decide_eq_false hn] at this
 exact wpAny_pure this
theorem set_store (F : Fr h₀ L s.heap m) (O : Own ι h₀ L s.heap σ) {es es' : Array (Int × Value)} {ep : Nat} {t t' : SetTable} (hg : σ a = some (setObj es ep t)) (hz : es'.size ≤ sizeLine) {Q : Unit → Shared → Prop}
  (h : ∀ s',Same s s' → Fr h₀ L s'.heap m → Own ι h₀ L s'.heap (upd σ a (setObj es' (ep + 1) t')) → Q () s') : wpAny (model prog w) A (storeSet a es' t') Q E s:=by
 have ho:=O.get hg
 refine wpAny_storeSet_of ho rfl (h _ ⟨rfl,rfl⟩ (frSet F O hg (Heap.SameBut.update ..)) (O.set hg (Heap.SameBut.update ..) ?_)) hz
 exact Heap.get?_update_self _ ho rfl
theorem all2_order {α β : Type} {R : α → β → Prop} {S : List α} {l : List β} (h : All2 R S l) : ∀ order : List Nat,(∀ i ∈ order,i < l.length) → All2 R (order.filterMap (S[·]?)) (order.filterMap (l[·]?))
 | [],_ => .nil
 | i :: order,hi => by
  have hil:=hi i (.head _)
  have e1 : l[i]? = some l[i]:=List.getElem?_eq_getElem hil
  refine xe12 (h.get2 e1) fun a e2 r => ?_
  rw [List.filterMap_cons,List.filterMap_cons,e1,e2]
  exact .cons r (all2_order h order fun j hj => hi j (.tail _ hj))
theorem map_order {α β : Type} (f : α → β) (l : List α) : ∀ order : List Nat,(order.filterMap (l[·]?)).map f = order.filterMap ((l.map f)[·]?)
 | [] => rfl
 | i :: order => by
  rw [List.filterMap_cons,List.filterMap_cons,List.getElem?_map]
  cases l[i]? with
  | none => exact map_order f l order
  | some x => exact congrArg _ (map_order f l order)
theorem order_perm {α : Type} (l : List α) {order : List Nat} (h : order.Perm (List.range l.length)) : (order.filterMap (l[·]?)).Perm l:=by
 have:=h.filterMap (l[·]?)
 rwa [List.filterMap_getElem?_range_length] at this
theorem arr_order {α : Type} (es : Array α) (order : Array Nat) : (order.filterMap (es[·]?)).toList = order.toList.filterMap (es.toList[·]?):=by
 rw [Array.toList_filterMap]
 simp only [Array.getElem?_toList]
theorem relay_parts {es : Array (Int × Value)} {g : Sg} (h3 : All2 (ElemOf kd g) S es.toList) {order : Array Nat} (hp : order.toList.Perm (List.range (es.toList.map (·.1)).length)) :
  All2 (ElemOf kd g) (order.toList.filterMap (S[·]?)) (order.filterMap (es[·]?)).toList ∧ (order.toList.filterMap (S[·]?)).Perm S ∧ (order.filterMap (es[·]?)).toList.map (·.1) = order.toList.filterMap ((es.toList.map (·.1))[·]?) ∧ (order.filterMap (es[·]?)).size = es.size:=by
 rw [List.length_map] at hp
 have hb : ∀ i ∈ order.toList,i < es.toList.length:=fun i hi => List.mem_range.mp (hp.mem_iff.mp hi)
 refine ⟨?_,?_,?_,?_⟩
 ·rw [arr_order];exact all2_order h3 _ hb
 ·exact order_perm S (by rw [h3.length];exact hp)
 ·rw [arr_order];exact map_order _ _ _
 rw [← Array.length_toList,arr_order,(order_perm es.toList hp).length_eq,Array.length_toList]
theorem set_relay (F : Fr h₀ L s.heap m) (O : Own ι h₀ L s.heap σ) (hS : SetAt ld kd σ a S) {wanted : Nat} (hw0 : S.length ≤ wanted) (hw : 0 < wanted → 5 * S.length < 3 * wanted) (hw' : wanted ≤ 4096) {Q : Unit → Shared → Prop}
  (h : ∀ s' S' o,Same s s' → Fr h₀ L s'.heap m → Own ι h₀ L s'.heap (upd σ a o) → SetIn kd (upd σ a o) a S' → S'.Perm S → (∀ es ep t,o = setObj es ep t → wanted ≤ t.mask) → Q () s') : wpAny (model prog w) A (setRelay a wanted) Q E s:=by
 obtain ⟨es,ep,t,h1,h2,h3,h4,h5⟩:=hS.ex
 have hfit : t.fits es.size = true:=by have:=h2.fits;simpa using this
 have hlen : S.length = es.size:=by have:=h3.length;simpa using this
 refine xe28 (relaid_ok t (es.toList.map (·.1)) wanted (Nat.lt_of_le_of_lt hw' (by decide)) (by rw [List.length_map,Array.length_toList,← hlen];exact hw0)) fun t' order r1 r2 r3 r4 r5 r6 r7 r8 => ?_
 refine xe04 (relay_parts h3 r4) fun p1 p2 p3 p4 => ?_
 have hmask : t'.mask ≤ 8191:=by
  refine xe14 (sizeAbove_ok wanted (Nat.lt_of_le_of_lt hw' (by decide))) fun k' e _ _ hle => ?_
  have hk : k' ≤ 13:=by
   rcases Nat.lt_or_ge 13 k' with q | q
   ·have : 2 ^ 14 ≤ 2 ^ k':=Nat.pow_le_pow_right (by decide) q
    have : (2 : Nat) ^ 14 = 16384:=by decide
    lia
   exact q
  have h13 : 2 ^ k' ≤ 2 ^ 13:=Nat.pow_le_pow_right (by decide) hk
  have hm : t'.mask = SetTable.sizeAbove wanted - 1:=by
   unfold SetTable.relaid SetTable.laid at r1
   simp only [Option.bind_eq_bind,Option.bind_eq_some_iff] at r1
   refine xe12 r1 fun owner _ _ => ?_
   clear r1
   rename_i r1
   cases r1;rfl
  have : (2 : Nat) ^ 13 = 8192:=by decide
  exact xs61 ‹_› ‹_› ‹_›
 have hts : TX σ (upd σ a (setObj (order.filterMap (es[·]?)) (ep + 1) t')):=upd_tx h1 (by simp)
 refine wpAny_bind (wpAny_setState_of (o:=setObj es ep t) (O.get h1) rfl hfit ?_)
 dsimp only
 rw [if_neg (show ¬ SetTable.sizeAbove wanted > sizeLine by rw [sizeLine_eq];lia)]
 have er : t.relaid (es.map (·.1)) wanted = some (t',order):=by
  have : es.map (·.1) = (es.toList.map (·.1)).toArray:=by rw [← Array.toList_map]
  rw [this];exact r1
 have step : wpAny (model prog w) A (storeSet a (order.filterMap (es[·]?)) t') Q E s:=by
  refine set_store F O h1 (by rw [p4,← hlen,sizeLine_eq];lia) fun s' S' F' O' => h s' _ _ S' F' O' ⟨⟨_,_,_,upd_self ..,?_,p1.imp fun _ _ r => r.mono hts,?_,hmask,?_⟩,p2.nodup_iff.mpr hS.nd⟩ p2 fun _ _ _ e => by cases e;exact r8
  ·rw [p3];exact r5
  ·rw [r2];exact h4
  intro _;rw [p2.length_eq]
  have h7 : 7 ≤ t'.mask:=by
   refine xe12 r5.pow fun q q3 qe => ?_
   have : 2 ^ 3 ≤ 2 ^ q:=Nat.pow_le_pow_right (by decide) q3
   lia
  rcases Nat.eq_zero_or_pos wanted with z | z
  ·lia
  have:=hw z;lia
 rw [er]
 refine wpAny_bind ?_
 show wpAny (model prog w) A (if ((order.filterMap (es[·]?)).size != es.size) = true then _ else pure (order.filterMap (es[·]?),t')) _ _ _
 rw [if_neg (by simp [p4])]
 exact wpAny_pure step
theorem set_addHashed (hd : kd.dep ≤ 8) (hr : Refs kd) (hu : A.units + kd.dep < cLine) (F : Fr h₀ L s.heap m) (O : Own ι h₀ L s.heap σ) (hS : SetIn kd σ a S) (hx : kd.is σ k x) (hn : S.length < 1024) {Q : Bool → Shared → Prop}
  (hin : k ∈ S → Q false s)
  (hout : ∀ s' S' o,k ∉ S → Same s s' → Fr h₀ L s'.heap m → Own ι h₀ L s'.heap (upd σ a o) → SetIn kd (upd σ a o) a S' → S'.Perm (k :: S) → Q true s') :
  wpAny (model prog w) A (setAddHashed a x (kd.hash k)) Q E s:=by
 obtain ⟨es,ep,t,h1,h2,h3,h4,h5⟩:=hS.ex
 refine xe11 (first h2.toClean (kd.hash k)) fun N f => ?_
 have hfit : t.fits es.size = true:=by have:=h2.fits;simpa using this
 have hlen : S.length = es.size:=by have:=h3.length;simpa using this
 have g1:=O.get h1
 have h3' : All2 (ElemOf kd s.heap.get?) S es.toList:=h3.imp fun _ _ r => r.mono O.txh
 have hx' : kd.is s.heap.get? k x:=kd.mono O.txh hx
 refine xe11 (hr hx) fun b zq2 => ?_
 subst zq2
 refine wpAny_holding ?_
 refine wpAny_bind (wpAny_setState_of (o:=setObj es ep t) g1 rfl hfit ?_)
 dsimp only
 rw [byScan_ref]
 refine wpAny_bind (search_from hd hu (hr.elems h3') g1 h2 h3' hx' f (fun i hi => ?_) (fun hk => ?_) _ 0 none (Nat.zero_le _) (by have:=f.le;lia) rfl fun n i h => absurd h (Nat.not_lt_zero _))
 ·exact wpAny_pure (hin (List.mem_of_getElem? hi))
 dsimp only
 refine wpAny_bind (wpAny_setState_of (o:=setObj es ep t) g1 rfl hfit ?_)
 -- the new slot
 have h6:=h5.2 trivial
 have h7 : 7 ≤ t.mask:=by
  refine xe12 h2.pow fun q q3 qe => ?_
  have : 2 ^ 3 ≤ 2 ^ q:=Nat.pow_le_pow_right (by decide) q3
  lia
 have hl2:=put_laid h2 f (by rw [List.length_map,Array.length_toList,← hlen];lia)
 refine xe07 (put_place h2.toClean (nth t N (t.probeStart (kd.hash k))).j) fun _ _ pp pm pl _ ppl => ?_
 generalize (t.put (nth t N (t.probeStart (kd.hash k))).j).1 = t1 at hl2 pm pl ppl ⊢
 generalize (t.put (nth t N (t.probeStart (kd.hash k))).j).2 = p at hl2 pp ⊢
 have hp : p ≤ es.size:=by
  rw [pp]
  have:=(below_spec t.place (nth t N (t.probeStart (kd.hash k))).j h2.rise).2.2
  rw [h2.size,List.length_map,Array.length_toList] at this
  exact this
 have hmapins : (SetTable.insertAt es p (kd.hash k,Value.ref b)).toList.map (·.1) = (es.toList.map (·.1)).take p ++ kd.hash k :: (es.toList.map (·.1)).drop p:=by
  rw [SetTable.toList_insertAt,List.map_append,List.map_cons,List.map_take,List.map_drop]
 have hszins : (SetTable.insertAt es p (kd.hash k,Value.ref b)).size = S.length + 1:=by
  rw [← Array.length_toList,(SetTable.insertAt_perm es p _).length_eq,Array.toList_push,List.length_append,Array.length_toList,hlen];rfl
 have hlaid : ∀ t2 : SetTable,t2.place = t1.place → t2.mask = t1.mask → t2.dummies = t1.dummies → Laid t2 ((SetTable.insertAt es p (kd.hash k,Value.ref b)).toList.map (·.1)):=fun t2 e1 e2 e3 => by
  rw [hmapins]
  have occ : ∀ j,Occ t2 j ↔ Occ t1 j:=fun j => by unfold Occ;rw [e1]
  refine ⟨⟨e2 ▸ hl2.pow,e1 ▸ hl2.rise,e1 ▸ hl2.size,e2 ▸ hl2.room,e3 ▸ hl2.dum,fun i j hij => e2 ▸ hl2.inb i j (e1 ▸ hij)⟩,fun i h hi => ?_⟩
  refine xe23 (hl2.road i h hi) fun n j a1 a2 a3 => ?_
  exact ⟨n,j,e1 ▸ a1,by rw [nth_same t1 t2 e2];exact a2,fun q hq => by rw [nth_same t1 t2 e2];exact (occ _).mpr (a3 q hq)⟩
 have hall : ∀ g : Sg,TX σ g → All2 (ElemOf kd g) (S.take p ++ k :: S.drop p) (SetTable.insertAt es p (kd.hash k,Value.ref b)).toList:=fun g hg => by
  rw [SetTable.toList_insertAt]
  have hS' : All2 (ElemOf kd g) (S.take p ++ S.drop p) es.toList:=by rw [List.take_append_drop];exact h3.imp fun _ _ r => r.mono hg
  refine xe23 hS'.split fun m₁ m₂ e1 e2 e3 => ?_
  have hl1 : m₁.length = p:=by rw [← e2.length,List.length_take];lia
  have : es.toList.take p = m₁:=by rw [e1,← hl1];simp
  have : es.toList.drop p = m₂:=by rw [e1,← hl1];simp
  rw [‹es.toList.take p = m₁›,‹es.toList.drop p = m₂›]
  exact e2.append (.cons ⟨rfl,kd.mono hg hx⟩ e3)
 have hperm : (S.take p ++ k :: S.drop p).Perm (k :: S):=by
  have:=List.perm_middle (a:=k) (l₁:=S.take p) (l₂:=S.drop p)
  rwa [List.take_append_drop] at this
 have hnd : (S.take p ++ k :: S.drop p).Nodup:=hperm.nodup_iff.mpr (List.nodup_cons.mpr ⟨hk,hS.nd⟩)
 have main : ∀ t2 : SetTable,t2.place = t1.place → t2.mask = t1.mask → t2.dummies = t1.dummies → t2.led = t1.led →
   wpAny (model prog w) A (do
    storeSet a (SetTable.insertAt es p (kd.hash k,Value.ref b)) t2
    if !false && t2.tooFull then setRelay a (SetTable.grown (es.size + 1))
    return true) Q E s:=fun t2 e1 e2 e3 e4 => by
  have hts : TX σ (upd σ a (setObj (SetTable.insertAt es p (kd.hash k,Value.ref b)) (ep + 1) t2)):=upd_tx h1 (by simp)
  refine wpAny_bind (set_store F O h1 (by rw [hszins,sizeLine_eq];lia) fun s' S' F' O' => ?_)
  have raw : SetAt False kd (upd σ a (setObj (SetTable.insertAt es p (kd.hash k,Value.ref b)) (ep + 1) t2)) a (S.take p ++ k :: S.drop p) :=
   ⟨⟨_,_,_,upd_self ..,hlaid t2 e1 e2 e3,hall _ hts,by rw [e4,pl];exact h4,by rw [e2,pm];exact h5.1,fun z => z.elim⟩,hnd⟩
  have hlen2 : (S.take p ++ k :: S.drop p).length = S.length + 1:=by rw [hperm.length_eq];rfl
  by_cases full : t2.tooFull = true
  ·refine wp_pos (by simpa using full) ?_
   have hg : SetTable.grown (es.size + 1) = (S.length + 1) * 4:=by unfold SetTable.grown;rw [if_neg (by lia),hlen]
   rw [hg]
   refine wpAny_bind (set_relay F' O' raw (by lia) (fun _ => by lia) (by lia) fun s'' S'' o S2 F2 O2 h2' p2 _ => ?_)
   have eu : upd (upd σ a (setObj (SetTable.insertAt es p (kd.hash k,Value.ref b)) (ep + 1) t2)) a o = upd σ a o:=by funext z;unfold upd;split <;> rfl
   rw [eu] at O2 h2'
   exact wpAny_pure (hout s'' S'' o hk (S'.trans S2) F2 O2 h2' (p2.trans hperm))
  refine wp_neg (by simpa using full) ?_
  refine wpAny_pure (hout s' _ _ hk S' F' O' ⟨?_,hnd⟩ hperm)
  obtain ⟨es',ep',t',a1,a2,a3,a4,a5,_⟩:=raw.ex
  refine ⟨es',ep',t',a1,a2,a3,a4,a5,fun _ => ?_⟩
  rw [upd_self] at a1
  cases a1
  rw [hlen2]
  have hsz2 : t2.place.size = S.length + 1:=by
   have:=(hlaid t2 e1 e2 e3).size
   rw [List.length_map,Array.length_toList,hszins] at this
   exact this
  have hd2 : t2.dummies = #[]:=(hlaid t2 e1 e2 e3).dum
  unfold SetTable.tooFull SetTable.fill at full
  rw [hsz2,hd2] at full
  simp at full
  lia
 by_cases hpl : t1.plain = true
 ·refine wp_pos hpl ?_
  refine wpAny_bind (kd.byv hd (kd.mono O.txh hx) fun bv => ?_)
  cases bv with
  | true => exact main t1 rfl rfl rfl rfl
  | false => exact main _ rfl rfl rfl rfl
 refine wp_neg hpl ?_
 refine wpAny_bind (wpAny_pure ?_)
 exact main t1 rfl rfl rfl rfl
end
theorem all2_perm {α β : Type} {R : α → β → Prop} {l l' : List β} (p : l'.Perm l) : ∀ {S : List α},All2 R S l → ∃ S' : List α,S'.Perm S ∧ All2 R S' l':=by
 induction p with
 | nil => intro S h;exact ⟨S,.refl _,h⟩
 | cons x p ih =>
  intro S h
  cases h with
  | cons r t => refine xe12 (ih t) fun S' p' h' => ?_;exact ⟨_ :: S',p'.cons _,.cons r h'⟩
 | swap x y l =>
  intro S h
  cases h with
  | cons r t => cases t with
   | cons r' t' => exact ⟨_ :: _ :: _,List.Perm.swap ..,.cons r' (.cons r t')⟩
 | trans p q ih ih' =>
  intro S h
  refine xe12 (ih' h) fun S1 p1 h1 => ?_
  refine xe12 (ih h1) fun S2 p2 h2 => ?_
  exact ⟨S2,p2.trans p1,h2⟩
theorem erase_perm {α : Type} : ∀ (l : List α) (i : Nat) (x : α),l[i]? = some x → (x :: l.eraseIdx i).Perm l
 | [],i,x,h => by simp at h
 | y :: l,0,x,h => by simp at h;subst h;simp
 | y :: l,i + 1,x,h => by
  have:=erase_perm l i x (by simpa using h)
  exact (List.Perm.swap y x _).trans (this.cons y)
theorem pick_s {α : Type} {next : Nat → Nat} {f k : Nat} {left : List α} {out : Array α} {x : α} (e : left[next k % left.length]? = some x) : pickOrder.go next (f + 1) k left out = pickOrder.go next f (k + 1) (left.eraseIdx (next k % left.length)) (out.push x) :=
 congrArg (fun z => pickOrder.go.match_1 (motive:=fun _ => Array α) z (fun x => pickOrder.go next f (k + 1) (left.eraseIdx (next k % left.length)) (out.push x)) fun _ => out) e
theorem pick_perm {α : Type} (next : Nat → Nat) : ∀ (fuel k : Nat) (left : List α) (out : Array α),fuel = left.length → (pickOrder.go next fuel k left out).toList.Perm (out.toList ++ left):=by
 intro fuel
 induction fuel with
 | zero => intro k left out h;cases left with
  | nil => exact .of_eq (List.append_nil _).symm
  | cons _ _ => simp at h
 | succ fuel ih =>
  intro k left out h
  have hl : 0 < left.length:=by lia
  have hi : next k % left.length < left.length:=Nat.mod_lt _ hl
  have e : left[next k % left.length]? = some left[next k % left.length]:=List.getElem?_eq_getElem hi
  rw [pick_s e]
  have hlen : (left.eraseIdx (next k % left.length)).length = fuel:=by rw [List.length_eraseIdx_of_lt hi];exact xs20 ‹_›
  refine (ih _ _ _ hlen.symm).trans ?_
  rw [Array.toList_push,List.append_assoc]
  exact List.Perm.append_left _ (erase_perm left _ _ e)
section
variable {prog : Program} {w : World} {K : Type} [DecidableEq K] {kd : VK prog w K} {A : Around} {E : Value → Shared → Prop} {s : Shared}
variable {ι : Sd} {h₀ : Heap} {L a : Addr} {σ : Sg} {m : Str → Option Value} {S : List K} {k : K} {x : Value} {ld : Prop}
theorem draw_perm {α : Type} : ∀ (n : Nat) (xs : List α) (s : Shared) {Q : List α → Shared → Prop},n = xs.length → (∀ s' ys,Quiet s s' → ys.Perm xs → Q ys s') → wpAny (model prog w) A (drawOrder n xs) Q E s
 | 0,xs,s,Q,h,k => by
  cases xs with
  | nil => exact wpAny_pure (k s _ (.refl s) (.refl _))
  | cons _ _ => simp at h
 | n + 1,[],s,Q,h,k => by simp at h
 | n + 1,x :: xs,s,Q,h,k => by
  refine wpAny_bind (fun Γ p hΓ => ?_)
  show Sem.wp _ Γ (choose .order (x :: xs).length) _ _ p s
  unfold choose
  refine ⟨by simp,?_⟩
  generalize hj : (model prog w).w.draws Source.order (s.drawn.get Source.order) % (x :: xs).length = j
  have hlt : j < (x :: xs).length:=by rw [← hj];exact Nat.mod_lt _ (by simp)
  have e : (x :: xs)[j]? = some (x :: xs)[j]:=List.getElem?_eq_getElem hlt
  have main : wpAny (model prog w) A (match (x :: xs)[j]? with
    | some x_1 => do
     let __do_lift ← drawOrder n ((x :: xs).eraseIdx j)
     pure (x_1 :: __do_lift)
    | none => unsupported "internal:drawOrder") Q E { s with drawn:=s.drawn.bump Source.order }:=by
   rw [e]
   refine wpAny_bind (draw_perm n _ _ (by rw [List.length_eraseIdx_of_lt hlt];simp at h ⊢;omega +splitDisjunctions) fun s' ys q p => ?_)
   exact wpAny_pure (k s' _ ⟨⟨q.1.1,q.1.2⟩,q.2⟩ ((p.cons _).trans (erase_perm _ _ _ e)))
  exact main
theorem set_walk {g : Sg} (G : Ext g s.heap.get?) (hS : SetAt ld kd g a S) {Q : Array (Int × Value) → Shared → Prop}
  (h : ∀ s' es S',Quiet s s' → S'.Perm S → All2 (ElemOf kd g) S' es.toList → Q es s') : wpAny (model prog w) A (setWalk a) Q E s:=by
 obtain ⟨es,ep,t,h1,h2,h3,h4,h5⟩:=hS.ex
 have h1:=G _ _ h1
 have hfit : t.fits es.size = true:=by have:=h2.fits;simpa using this
 have fin : ∀ s' es',Quiet s s' → es'.toList.Perm es.toList → Q es' s':=fun s' es' q p => by
  refine xe12 (all2_perm p h3) fun S' p' h' => ?_
  exact h s' es' S' q p' h'
 refine wpAny_bind (wpAny_setState_of (o:=setObj es ep t) h1 rfl hfit ?_)
 refine wpAny_bind (wpAny_bind (wpAny_askSetting (wpAny_pure ?_)))
 show wpAny (model prog w) A (if byText w = true then _ else _) _ _ _
 by_cases hb : byText w = true
 ·refine wp_pos hb ?_
  refine wpAny_bind (wpAny_askSetting (wpAny_pure (fin s _ (.refl s) ?_)))
  have:=pick_perm ((model prog w).w.params.setOrder a ep) es.size 0 es.toList #[] (by rfl)
  simpa [pickOrder] using this
 refine wp_neg hb ?_
 have hled : t.led = true:=h4.resolve_right hb
 split
 ·refine wpAny_bind (draw_perm _ _ s (by rfl) fun s' ys q p => wpAny_pure (fin s' _ q (by simpa using p)))
 refine wpAny_bind ?_
 show wpAny (model prog w) A (if (!t.led && decide (es.size > 1)) = true then _ else pure _) _ _ _
 rw [if_neg (by simp [hled])]
 exact wpAny_pure (wpAny_pure (fin s es (.refl s) (.refl _)))
noncomputable def Loud (kd : VK prog w K) : Prop:=∀ {g : Sg} {k : K} {v : Value},kd.is g k v → ∃ b items n,v = .ref b ∧ g b = some ({ cls:=.type "tuple",data:=.seq items n } : Obj)
theorem tup_loud (kd : VK prog w K) : Loud (tupV kd):=fun zm1 => xe33 zm1 fun a items n e ho _ => ⟨a,items,n,e,ho⟩
theorem sets_loud (lo : Loud kd) {others : List Addr} (hS : SetAt ld kd s.heap.get? a S) (hne : S ≠ []) {Q : Bool → Shared → Prop} (h : Q false s) : wpAny (model prog w) A (setsQuiet (a :: others)) Q E s:=by
 rcases hS.ex with ⟨es,ep,t,h1,h2,h3,h4,h5⟩
 have hfit : t.fits es.size = true:=by have:=h2.fits;simpa using this
 refine xe21 (List.exists_cons_of_ne_nil hne) fun k S' zq2 => ?_
 subst zq2
 rcases es with ⟨l⟩
 cases h3 with
 | @cons _ e _ l' r t' =>
  refine wpAny_bind ?_
  rw [List.forIn_cons]
  refine wpAny_bind ?_
  refine wpAny_bind (wpAny_setEntries_of (o:=setObj _ ep t) h1 rfl hfit ?_)
  refine wpAny_bind ?_
  rw [List.forIn_toArray,List.forIn_cons]
  rcases e with ⟨eh,ev⟩
  refine xe32 (lo r.2) fun b items n e ho => ?_
  simp only at e
  subst e
  refine wpAny_bind ?_
  refine wpAny_bind (wpAny_specialOf (⟨_,ho,rfl⟩ : s.TypeIs (.ref b) "tuple") F.slot_tuple_eq.lookup ?_)
  exact wpAny_pure (wpAny_pure (wpAny_pure (wpAny_pure (wpAny_pure h))))
theorem set_walkUnseen (lo : Loud kd) {others : List Addr} {filled : Option Addr} {g : Sg} (G : Ext g s.heap.get?) (hS : SetAt ld kd g a S) {Q : Array (Int × Value) → Shared → Prop}
  (h : ∀ s' es S',Quiet s s' → S'.Perm S → All2 (ElemOf kd g) S' es.toList → Q es s') : wpAny (model prog w) A (setWalkUnseen a others filled) Q E s:=by
 rcases hS.ex with ⟨es,ep,t,h1,h2,h3,h4,h5⟩
 have h1:=G _ _ h1
 have hfit : t.fits es.size = true:=by have:=h2.fits;simpa using this
 refine wpAny_bind (wpAny_setState_of (o:=setObj es ep t) h1 rfl hfit ?_)
 dsimp only
 refine wpAny_bind (wpAny_bind (wpAny_askSetting (wpAny_pure ?_)))
 split
 ·exact set_walk G hS h
 rename_i hc
 have hne : S ≠ []:=fun z => by
  have:=h3.length
  rw [z] at this
  simp at this
  lia
 refine wpAny_bind (sets_loud lo (hS.move G.tx fun o z => G _ _ z) hne ?_)
 exact set_walk G hS h
theorem upd_upd (σ : Sg) (a : Addr) (o o' : Obj) : upd (upd σ a o) a o' = upd σ a o':=by funext z;unfold upd;split <;> rfl
theorem upd_eq {σ : Sg} {a : Addr} {o : Obj} (h : σ a = some o) : upd σ a o = σ:=by funext z;unfold upd;split <;> simp_all
noncomputable def del (σ : Sg) (a : Addr) : Sg:=fun b => if b = a then none else σ b
theorem del_ext (σ : Sg) (a : Addr) : Ext (del σ a) σ:=fun b o e => by unfold del at e;split at e <;> first | cases e | exact e
theorem del_upd (σ : Sg) (a : Addr) (o : Obj) : Ext (del σ a) (upd σ a o):=fun b x e => by
 unfold del at e
 split at e
 ·cases e
 rename_i h;rw [upd_ne h];exact e
theorem SetAt.del {b : Addr} {ob : Obj} (h : σ b = some ob) (hc : ob.cls ≠ .type "tuple") (hab : a ≠ b) (x : SetAt ld kd σ a S) : SetAt ld kd (Mine.del σ b) a S:=by
 have ne : ∀ {c : Addr},c ≠ b → Mine.del σ b c = σ c:=fun {c} hn => by unfold Mine.del;rw [if_neg hn]
 refine x.move (fun c o e q => ?_) fun o e => by rw [ne hab];exact e
 rw [ne fun z => by rw [z,h] at e;cases e;exact hc q];exact e
theorem set_fresh (F : Fr h₀ L s.heap m) (O : Own ι h₀ L s.heap σ) (kd : VK prog w K) {Q : Value → Shared → Prop}
  (h : ∀ s' b o,σ b = none → Same s s' → Fr h₀ L s'.heap m → Own ι h₀ L s'.heap (upd σ b o) → SetIn kd (upd σ b o) b [] → o.cls = .type "set" → Q (.ref b) s') : wpAny (model prog w) A (newSet (.type "set")) Q E s:=by
 refine wpAny_bind (wpAny_bind (wpAny_askSetting (wpAny_pure ?_)))
 dsimp only
 have hn : σ s.heap.objs.size = none:=O.fresh (Nat.le_refl _)
 refine wpAny_bind (wpAny_alloc (wpAny_pure (h _ _ _ hn ⟨rfl,rfl⟩ (F.push _) (O.push F _) ⟨⟨#[],0,_,upd_self ..,fresh_laid 0 0 _,.nil,?_,(by show (7 : Nat) ≤ 8191;decide),fun _ => by show 5 * 0 < 3 * 7;decide⟩,.nil⟩ rfl)))
 show (!(byText w)) = true ∨ byText w = true
 cases byText w <;> simp
theorem set_roomFor (F : Fr h₀ L s.heap m) (O : Own ι h₀ L s.heap σ) (hS : SetIn kd σ a S) {more : Nat} (hc : S.length + more < 1024) {Q : Unit → Shared → Prop}
  (h : ∀ s' S' o,Same s s' → Fr h₀ L s'.heap m → Own ι h₀ L s'.heap (upd σ a o) → SetIn kd (upd σ a o) a S' → S'.Perm S → (∀ es ep t,o = setObj es ep t → 5 * (S.length + more) < 3 * t.mask) → Q () s') :
  wpAny (model prog w) A (setRoomFor a more) Q E s:=by
 rcases hS.ex with ⟨es,ep,t,h1,h2,h3,h4,h5⟩
 have hfit : t.fits es.size = true:=by have:=h2.fits;simpa using this
 have hlen : S.length = es.size:=by have:=h3.length;simpa using this
 have hps : t.place.size = S.length:=by have:=h2.size;rw [List.length_map,Array.length_toList] at this;lia
 have h7 : 7 ≤ t.mask:=by
  refine xe12 (h2.pow) fun q q3 qe => ?_
  have : 2 ^ 3 ≤ 2 ^ q:=Nat.pow_le_pow_right (by decide) q3
  lia
 refine wpAny_bind (wpAny_setState_of (o:=setObj es ep t) (O.get h1) rfl hfit ?_)
 dsimp only
 unfold SetTable.roomFor SetTable.fill
 rw [hps,h2.dum]
 by_cases hq : (S.length + (#[] : Array Nat).size + more) * 5 ≥ t.mask * 3
 ·rw [if_pos hq]
  have hq' : (S.length + more) * 5 ≥ t.mask * 3:=by simpa using hq
  refine set_relay F O hS (by lia) (fun _ => by have:=h5.2 trivial;lia) (by lia) fun s' S' o q1 q2 q3 q4 q5 q6 => h s' S' o q1 q2 q3 q4 q5 fun es ep t e => by have:=q6 es ep t e;lia
 rw [if_neg hq]
 have hq' : (S.length + more) * 5 < t.mask * 3:=by simpa using hq
 refine wpAny_pure (h s S (setObj es ep t) (.refl s) F (by rw [upd_eq h1];exact O) (by rw [upd_eq h1];exact hS) (.refl _) fun es' ep' t' e => ?_)
 cases e;lia
theorem all2_len {α β : Type} {R : α → β → Prop} {l : List α} {es : Array β} (h : All2 R l es.toList) : l.length = es.size:=by have:=h.length;simpa using this
theorem set_addTurn (hd : kd.dep ≤ 8) (hr : Refs kd) (hu : A.units + kd.dep < cLine) {o : Addr} {ob : Obj} (hao : a ≠ o) {each : Sem Unit} (hO : σ o = some ob)
  (heach : ∀ (s' : Shared) {Q : Unit → Shared → Prop},s'.heap.get? o = some ob → Q () s' → wpAny (model prog w) A each Q E s') {ep : Nat} {es : Array (Int × Value)} {t : SetTable} (hep : ob = setObj es ep t) (hf : t.fits es.size = true)
  {P : ForInStep Unit → Shared → Prop} {e : Int × Value} {oc : Obj} (r : ElemOf kd σ k e) (F : Fr h₀ L s.heap m) (O : Own ι h₀ L s.heap (upd σ a oc)) (hS : SetIn kd (upd σ a oc) a S) (tx : ∀ oc : Obj,oc.cls ≠ .type "tuple" → TX σ (upd σ a oc)) (hc : S.length < 1024)
  (h : ∀ s' S' oc',Same s s' → Fr h₀ L s'.heap m → Own ι h₀ L s'.heap (upd σ a oc') → SetIn kd (upd σ a oc') a S' → S'.length ≤ S.length + 1 → (∀ k',k' ∈ S' ↔ k' ∈ S ∨ k' = k) → P (.yield ()) s') :
  wpAny (model prog w) A (do
    let _ ← holding [e.2] (setAddHashed a e.2 e.1)
    each
    if (← setState o).2.1 != ep then unsupported "set.changed-during-merge"
    pure (ForInStep.yield ())) P E s:=by
 have next : ∀ (s' : Shared) S' oc',Same s s' → Fr h₀ L s'.heap m → Own ι h₀ L s'.heap (upd σ a oc') → SetIn kd (upd σ a oc') a S' → S'.length ≤ S.length + 1 → (∀ k',k' ∈ S' ↔ k' ∈ S ∨ k' = k) →
   wpAny (model prog w) A (do
    each
    if (← setState o).2.1 != ep then unsupported "set.changed-during-merge"
    pure (ForInStep.yield ())) P E s':=fun s' S' oc' q F' O' hS' hl hm => by
  have go : s'.heap.get? o = some ob:=O'.get (by rw [upd_ne (Ne.symm hao)];exact hO)
  refine wpAny_bind (heach s' go ?_)
  refine wpAny_bind (wpAny_setState_of (ep:=ep) (es:=es) (t:=t) go (by rw [hep]) hf ?_)
  refine wp_neg (by simp) ?_
  exact wpAny_pure (h s' S' oc' q F' O' hS' hl hm)
 have cls_of : ∀ {oc : Obj} {S' : List K},SetIn kd (upd σ a oc) a S' → oc.cls ≠ .type "tuple":=fun hS => by
  rcases hS.ex with ⟨_,_,_,h1,_⟩
  rw [upd_self] at h1;cases h1;simp
 refine wpAny_bind (wpAny_holding ?_)
 rw [r.1]
 refine set_addHashed hd hr hu F O hS (kd.mono (tx oc (cls_of hS)) r.2) hc (fun hk => ?_) (fun s' S' o' hk q F' O' hS' p => ?_)
 ·exact next s S oc (.refl s) F O hS (by lia) fun k' => ⟨.inl,fun z => z.elim id fun z => z ▸ hk⟩
 rw [upd_upd] at O' hS'
 refine next s' S' o' q F' O' hS' (by have:=p.length_eq;simp at this;lia) fun k' => ?_
 rw [p.mem_iff,List.mem_cons]
 exact ⟨fun z => z.elim .inr .inl,fun z => z.elim .inr .inl⟩
theorem Laid.same {t t2 : SetTable} {hs : List Int} (l : Laid t hs) (e1 : t2.place = t.place) (e2 : t2.mask = t.mask) (e3 : t2.dummies = t.dummies) : Laid t2 hs:=by
 have occ : ∀ j,Occ t2 j ↔ Occ t j:=fun j => by unfold Occ;rw [e1]
 refine ⟨⟨e2 ▸ l.pow,e1 ▸ l.rise,e1 ▸ l.size,e2 ▸ l.room,e3 ▸ l.dum,fun i j hij => e2 ▸ l.inb i j (e1 ▸ hij)⟩,fun i h hi => ?_⟩
 refine xe23 (l.road i h hi) fun n j a1 a2 a3 => ?_
 exact ⟨n,j,e1 ▸ a1,by rw [nth_same t t2 e2];exact a2,fun q hq => by rw [nth_same t t2 e2];exact (occ _).mpr (a3 q hq)⟩
theorem set_merge (hd : kd.dep ≤ 8) (hr : Refs kd) (lo : Loud kd) (hu : A.units + kd.dep < cLine) {o : Addr} {T : List K} (hao : a ≠ o) (F : Fr h₀ L s.heap m) (O : Own ι h₀ L s.heap σ) (hS : SetIn kd σ a S) (hT : SetIn kd σ o T) (hc : S.length + T.length < 1024)
  {each : Sem Unit} (heach : ∀ (s' : Shared) {Q : Unit → Shared → Prop},(∃ ob,σ o = some ob ∧ s'.heap.get? o = some ob) → Q () s' → wpAny (model prog w) A each Q E s') {Q : Unit → Shared → Prop}
  (h : ∀ s' S' ob,Same s s' → Fr h₀ L s'.heap m → Own ι h₀ L s'.heap (upd σ a ob) → SetIn kd (upd σ a ob) a S' → (∀ k,k ∈ S' ↔ k ∈ S ∨ k ∈ T) → Q () s') : wpAny (model prog w) A (setMerge a o each) Q E s:=by
 obtain ⟨eo,epo,to,o1,o2,o3,o4',o5⟩:=hT.ex
 have o4:=And.intro o4' trivial
 have hfo : to.fits eo.size = true:=by have:=o2.fits;simpa using this
 have hlo : T.length = eo.size:=all2_len o3
 have cS : ∃ oc,σ a = some oc ∧ oc.cls ≠ .type "tuple":=by
  obtain ⟨es,ep,t,h1,_⟩:=hS.ex
  exact ⟨_,h1,by simp⟩
 refine xe12 cS fun oc hoc hcls => ?_
 try clear cS
 unfold setMerge
 refine wp_neg (by simpa using hao) ?_
 refine wpAny_bind (wpAny_setState_of (o:=setObj eo epo to) (O.get o1) rfl hfo ?_)
 dsimp only
 by_cases he : eo.isEmpty = true
 ·refine wp_pos he ?_
  have hT0 : T = []:=List.eq_nil_of_length_eq_zero (by rw [hlo];simpa using he)
  subst hT0
  exact wpAny_pure (h s S oc (.refl s) F (by rw [upd_eq hoc];exact O) (by rw [upd_eq hoc];exact hS) fun k => by simp)
 refine wp_neg he ?_
 refine wpAny_bind (set_roomFor F O hS (more:=eo.size) (by lia) fun s₁ S₁ o₁ q₁ F₁ O₁ hS₁ p₁ room => ?_)
 obtain ⟨es₁,ep₁,t₁,c1,c2,c3,c4,c5⟩:=hS₁.ex
 have e₁ : o₁ = setObj es₁ ep₁ t₁:=by rw [upd_self] at c1;exact Option.some.inj c1
 have hroom:=room _ _ _ e₁
 have tx₁ : TX σ (upd σ a o₁):=upd_tx hoc hcls
 have hf₁ : t₁.fits es₁.size = true:=by have:=c2.fits;simpa using this
 have hl₁ : S₁.length = es₁.size:=all2_len c3
 have o1' : upd σ a o₁ o = some (setObj eo epo to):=by rw [upd_ne (Ne.symm hao)];exact o1
 refine wpAny_bind (wpAny_setState_of (o:=setObj es₁ ep₁ t₁) (O₁.get c1) rfl hf₁ ?_)
 dsimp only
 unfold SetTable.road
 have hfill : t₁.fill = S₁.length:=by
  unfold SetTable.fill
  rw [c2.dum]
  have:=c2.size
  simp [this,hl₁]
 have tx₂ : ∀ o₂,TX σ (upd σ a o₂):=fun o₂ => upd_tx hoc hcls
 by_cases hz : (t₁.fill != 0) = true
 ·rw [if_pos hz]
  refine wpAny_bind (set_walkUnseen lo (g:=Mine.del σ a) ((del_upd σ a o₁).trans fun b x e => O₁.get e) (hT.del hoc hcls (Ne.symm hao)) fun s₂ es₂ T₂ q₂ p₂ a₂ => ?_)
  have F₂ : Fr h₀ L s₂.heap m:=q₂.2 ▸ F₁
  have O₂ : Own ι h₀ L s₂.heap (upd σ a o₁):=q₂.2 ▸ O₁
  refine wpAny_bind ?_
  rw [← Array.forIn_toList]
  refine wpAny_forIn_list _ (fun rest _ s' => ∃ (T' : List K) (S' : List K) (oc : Obj),All2 (ElemOf kd σ) T' rest ∧ Same s s' ∧ Fr h₀ L s'.heap m ∧ Own ι h₀ L s'.heap (upd σ a oc) ∧ SetIn kd (upd σ a oc) a S' ∧ S'.length + T'.length < 1024 ∧ (∀ k,(k ∈ S' ∨ k ∈ T') ↔ k ∈ S ∨ k ∈ T)) _ ?_ ?_ _ _
   ⟨T₂,S₁,o₁,a₂.imp (fun _ _ r => r.mono (del_ext σ a).tx),(q₁.trans q₂.1),F₂,O₂,hS₁,by rw [p₁.length_eq,p₂.length_eq];exact hc,fun k => by rw [p₁.mem_iff,p₂.mem_iff]⟩
  ·intro e rest _ s' zq3
   refine xe37 zq3 fun T' S' oc hT' q' F' O' hS' hc' hm' => ?_
   try clear zq3
   cases hT' with
   | @cons k _ T' _ r hT' =>
    simp only [List.length_cons] at hc'
    refine set_addTurn hd hr hu hao o1 (fun s' {Q} g hQ => heach s' ⟨_,o1,g⟩ hQ) rfl hfo r F' O' hS' (fun oc h => upd_tx hoc hcls) (by lia) fun s'' S'' oc'' q'' F'' O'' hS'' hl hm => ?_
    refine ⟨T',S'',oc'',hT',q'.trans q'',F'',O'',hS'',by lia,fun x => ?_⟩
    rw [hm,← hm' x,List.mem_cons]
    constructor
    ·rintro ((z | z) | z)
     ·exact .inl z
     ·exact .inr (.inl z)
     exact .inr (.inr z)
    rintro (z | z | z)
    ·exact .inl (.inl z)
    ·exact .inl (.inr z)
    exact .inr z
  intro _ s' zq4
  refine xe37 zq4 fun T' S' oc hT' q' F' O' hS' hc' hm' => ?_
  try clear zq4
  cases hT'
  exact wpAny_pure (h s' S' oc q' F' O' hS' fun k => by rw [← hm' k];simp)
 rw [if_neg hz]
 have hz' : S₁.length = 0:=by simpa [hfill] using hz
 have hS0 : S = []:=List.eq_nil_of_length_eq_zero (by rw [← p₁.length_eq];exact hz')
 subst hS0
 have hcell : upd σ a o₁ a = some (setObj es₁ ep₁ t₁):=c1
 by_cases hm : (t₁.mask == to.mask && to.dummies.isEmpty) = true
 ·rw [if_pos hm]
  refine set_store F₁ O₁ hcell (by rw [← hlo,sizeLine_eq];lia) fun s' q' F' O' => ?_
  rw [upd_upd] at O'
  have tx' : TX σ (upd σ a (setObj eo (ep₁ + 1) { to with finger:=t₁.finger,led:=t₁.led && to.led,moves:=t₁.moves,plain:=t₁.plain && to.plain })):=tx₂ _
  refine h s' T _ (q₁.trans q') F' O' ⟨⟨_,_,_,upd_self ..,o2.same rfl rfl rfl,o3.imp fun _ _ r => r.mono tx',?_,o5.1,o5.2⟩,hT.nd⟩ fun k => by simp
  show (t₁.led && to.led) = true ∨ byText w = true
  rcases c4 with z | z
  ·rcases o4.1 with y | y
   ·exact .inl (by simp [z,y])
   exact .inr y
  exact .inr z
 rw [if_neg hm]
 dsimp only
 refine xe12 c2.pow fun mm m3 hmm => ?_
 refine xe28 (laid_ok (t:=t₁) mm m3 hmm (eo.toList.map (·.1)) (by rw [List.length_map,Array.length_toList];simp at hroom;lia) t₁.finger t₁.moves (t₁.led && to.led) (t₁.plain && to.plain)) fun t' order r1 r2 r3 r4 r5 r6 r7 r8 => ?_
 refine xe04 (relay_parts o3 r6) fun u1 u2 u3 u4 => ?_
 have er : SetTable.laid t₁.mask t₁.finger t₁.moves (t₁.led && to.led) (t₁.plain && to.plain) (eo.map (·.1)) = some (t',order):=by
  have : eo.map (·.1) = (eo.toList.map (·.1)).toArray:=by rw [← Array.toList_map]
  rw [this];exact r1
 rw [er]
 refine wpAny_bind ?_
 show wpAny (model prog w) A (if ((order.filterMap (eo[·]?)).size != eo.size) = true then _ else pure (order.filterMap (eo[·]?),t')) _ _ _
 rw [if_neg (by simp [u4])]
 refine wpAny_pure ?_
 dsimp only
 refine set_store F₁ O₁ hcell (by rw [u4,← hlo,sizeLine_eq];lia) fun s' q' F' O' => ?_
 rw [upd_upd] at O'
 have tx' : TX σ (upd σ a (setObj (order.filterMap (eo[·]?)) (ep₁ + 1) t')):=tx₂ _
 refine h s' _ _ (q₁.trans q') F' O' ⟨⟨_,_,_,upd_self ..,by rw [u3];exact r7,u1.imp fun _ _ r => r.mono tx',?_,by rw [r2];exact c5.1,fun _ => ?_⟩,u2.nodup_iff.mpr hT.nd⟩ fun k => by rw [u2.mem_iff];simp
 ·rw [r3]
  rcases c4 with z | z
  ·rcases o4.1 with y | y
   ·exact .inl (by simp [z,y])
   exact .inr y
  exact .inr z
 rw [u2.length_eq,r2]
 simp at hroom
 lia
end
section
variable {prog : Program} {w : World} {K : Type} [DecidableEq K] {kd : VK prog w K} {A : Around} {E : Value → Shared → Prop} {s : Shared}
variable {ι : Sd} {h₀ : Heap} {L a : Addr} {σ : Sg} {m : Str → Option Value} {S T : List K} {k : K} {x : Value} {ld : Prop}
theorem SetAt.obj (x : SetAt ld kd σ a S) : ∃ es ep t,σ a = some (setObj es ep t) ∧ es.size = S.length ∧ t.fits es.size = true:=by
 obtain ⟨es,ep,t,h1,h2,h3,_⟩:=x.ex
 exact ⟨es,ep,t,h1,(all2_len h3).symm,by have:=h2.fits;simpa using this⟩
theorem SetAt.typeIs (O : Own ι h₀ L s.heap σ) (x : SetAt ld kd σ a S) : s.TypeIs (.ref a) "set":=by
 refine xe32 x.obj fun es ep t h1 _ => ?_
 exact ⟨_,O.get h1,rfl⟩
theorem SetAt.noDict (O : Own ι h₀ L s.heap σ) (x : SetAt ld kd σ a S) : ∀ b,Value.ref a = .ref b → ∃ ob,s.heap.get? b = some ob ∧ ob.dict = none:=fun b e => by
 injection e with e;subst e
 refine xe32 x.obj fun es ep t h1 _ => ?_
 exact ⟨_,O.get h1,rfl⟩
theorem meth_set {name : Str} {id : String} {pl : Sem Bool} {Q : Value × List Value → Shared → Prop} (O : Own ι h₀ L s.heap σ) (hS : SetAt ld kd σ a S) (sl : Slot "set" name id) (ht : typeOf (.builtin id) = pure (.type "method_descriptor")) (h : Q (.builtin id,[.ref a]) s) :
  wpAny (model prog w) A (getMethod (.ref a) name pl) Q E s :=
 getMethod_builtin (hS.typeIs O) PySem.F.plainAttrs_set sl ht (hS.noDict O) h
theorem sadd (hd : kd.dep ≤ 8) (hr : Refs kd) (hu : A.units + 1 + kd.dep < cLine) (F : Fr h₀ L s.heap m) (O : Own ι h₀ L s.heap σ) (hS : SetIn kd σ a S) (hx : kd.is σ k x) (hn : S.length < 1024) {Q : Value → Shared → Prop}
  (h : ∀ s' S' o,Same s s' → Fr h₀ L s'.heap m → Own ι h₀ L s'.heap (upd σ a o) → SetIn kd (upd σ a o) a S' → (∀ k',k' ∈ S' ↔ k' ∈ S ∨ k' = k) → o.cls ≠ .type "tuple" → Q .none s') :
  wpAny (model prog w) A (call (.builtin "set.add") [.ref a,x]) Q E s:=by
 refine xe32 hS.obj fun es ep t h1 _ => ?_
 refine wpAny_call_entry PySem.F.slot_set_add (hS.typeIs O) PySem.F.entry_set_add ?_ (PySem.F.args_set_add_2 _ _)
 unfold Builtin.«set.add» Builtin.Frozenset.oneOther
 simp only [List.isEmpty_nil,bind_assoc]
 refine wpAny_bind (wpAny_pure ?_)
 try dsimp only
 refine wpAny_bind (wpAny_pure ?_)
 try dsimp only
 refine wpAny_bind ?_
 refine wpAny_holding ?_
 refine wpAny_bind (kd.pyHash (by exact hu) (kd.mono O.txh hx) fun s' hq => ?_)
 have F' : Fr h₀ L s'.heap m:=hq.2 ▸ F
 have O' : Own ι h₀ L s'.heap σ:=hq.2 ▸ O
 refine set_addHashed hd hr (by exact hu) F' O' hS hx hn (fun hk => ?_) (fun s'' S' o hk q F'' O'' hS' p => ?_)
 ·exact wpAny_pure ⟨_,rfl,h s' S (setObj es ep t) hq.1 F' (by rw [upd_eq h1];exact O') (by rw [upd_eq h1];exact hS) (fun k' => ⟨.inl,fun z => z.elim id fun z => z ▸ hk⟩) (by simp)⟩
 refine wpAny_pure ⟨_,rfl,h s'' S' o (hq.1.trans q) F'' O'' hS' (fun k' => ?_) ?_⟩
 ·rw [p.mem_iff,List.mem_cons];exact ⟨fun z => z.elim .inr .inl,fun z => z.elim .inr .inl⟩
 refine xe32 hS'.obj fun _ _ _ e _ => ?_
 rw [upd_self] at e;cases e;simp
theorem scontains (hd : kd.dep ≤ 8) (hr : Refs kd) (hu : A.units + 1 + kd.dep < cLine) (O : Own ι h₀ L s.heap σ) (hS : SetAt ld kd σ a S) (hx : kd.is σ k x) {Q : Bool → Shared → Prop}
  (h : ∀ s',Quiet s s' → Q (decide (k ∈ S)) s') : wpAny (model prog w) A (contains (.ref a) x) Q E s:=by
 have hT:=hS.typeIs O
 refine xe11 (hr hx) fun b zq1 => ?_
 subst zq1
 unfold contains
 try with_reducible refine wpAny_holding ?_
 refine wpAny_bind (wpAny_specialOf hT PySem.F.slot_set_contains.lookup ?_)
 rw [if_neg (by rw [beq_builtin_none];exact Bool.false_ne_true)]
 refine wpAny_bind (wpAny_callSpecialUnlessNone?_slot (name:=Str.ofString "__contains__") hT PySem.F.slot_set_contains
  (wpAny_call_entry PySem.F.slot_set_contains hT entry_set_contains ?_ (PySem.F.args_set_contains_2 _ _)))
 unfold Builtin.«frozenset.__contains__» Builtin.Frozenset.oneOther
 simp only [List.isEmpty_nil,bind_assoc]
 refine wpAny_bind (wpAny_pure ?_)
 try dsimp only
 refine wpAny_bind (wpAny_pure ?_)
 try dsimp only
 refine wpAny_bind (wpAny_tryCatch ?_)
 refine set_contains hd hr (by exact hu) (hS.heap O) (kd.mono O.txh hx) fun s' q => ?_
 refine wpAny_pure ⟨_,rfl,?_⟩
 exact wpAny_truthy_bool (h s' q)
theorem sin (hd : kd.dep ≤ 8) (hr : Refs kd) (hu : A.units + 1 + kd.dep < cLine) (O : Own ι h₀ L s.heap σ) (hS : SetAt ld kd σ a S) (hx : kd.is σ k x) {Q : Value → Shared → Prop}
  (h : ∀ s',Quiet s s' → Q (.bool (decide (k ∈ S))) s') : wpAny (model prog w) A (compareOp .In x (.ref a)) Q E s:=by
 exact wpAny_bind (scontains hd hr hu O hS hx fun s' q => wpAny_pure (h s' q))
theorem snotin (hd : kd.dep ≤ 8) (hr : Refs kd) (hu : A.units + 1 + kd.dep < cLine) (O : Own ι h₀ L s.heap σ) (hS : SetAt ld kd σ a S) (hx : kd.is σ k x) {Q : Value → Shared → Prop}
  (h : ∀ s',Quiet s s' → Q (.bool (!decide (k ∈ S))) s') : wpAny (model prog w) A (compareOp .NotIn x (.ref a)) Q E s:=by
 exact wpAny_bind (scontains hd hr hu O hS hx fun s' q => wpAny_pure (h s' q))
theorem sub_set_set : isSubtype (.type "set") (.type "set") = pure true:=by kernel_rfl
theorem sub_tuple_set : isSubtype (.type "tuple") (.type "set") = pure false:=by kernel_rfl
theorem sub_tuple_fset : isSubtype (.type "tuple") (.type "frozenset") = pure false:=by kernel_rfl
theorem isAnySet_set {b : Addr} (hT : s.TypeIs (.ref b) "set") {Q : Bool → Shared → Prop} (h : Q true s) : wpAny (model prog w) A (Builtin.Frozenset.isAnySet (.ref b)) Q E s:=by
 unfold Builtin.Frozenset.isAnySet
 refine wpAny_bind (wpAny_isInstance hT sub_set_set ?_)
 exact wpAny_pure h
theorem epoch_of {ob : Obj} {es : Array (Int × Value)} {ep : Nat} {t : SetTable} (ho : s.heap.get? a = some ob) (e : ob = setObj es ep t) (hf : t.fits es.size = true) {Q : Nat → Shared → Prop} (h : Q ep s) : wpAny (model prog w) A (setEpoch a) Q E s :=
 wpAny_setEpoch_of (o:=ob) (es:=es) (t:=t) ho (by rw [e]) hf h
theorem unchanged_of {id : String} {ob : Obj} {es : Array (Int × Value)} {ep : Nat} {t : SetTable} (ho : s.heap.get? a = some ob) (e : ob = setObj es ep t) (hf : t.fits es.size = true) {Q : Unit → Shared → Prop} (h : Q () s) :
  wpAny (model prog w) A (Builtin.Frozenset.unchanged id a ep) Q E s:=by
 refine wpAny_bind (epoch_of ho e hf ?_)
 refine wp_neg (by simp) ?_
 exact wpAny_pure h
theorem supdate (hd : kd.dep ≤ 8) (hr : Refs kd) (lo : Loud kd) (hu : A.units + 1 + kd.dep < cLine) {o : Addr} (hao : a ≠ o) (F : Fr h₀ L s.heap m) (O : Own ι h₀ L s.heap σ) (hS : SetIn kd σ a S) (hT : SetIn kd σ o T) (hc : S.length + T.length < 1024) {Q : Value → Shared → Prop}
  (h : ∀ s' S' ob,Same s s' → Fr h₀ L s'.heap m → Own ι h₀ L s'.heap (upd σ a ob) → SetIn kd (upd σ a ob) a S' → (∀ k,k ∈ S' ↔ k ∈ S ∨ k ∈ T) → ob.cls ≠ .type "tuple" → Q .none s') :
  wpAny (model prog w) A (call (.builtin "set.update") [.ref a,.ref o]) Q E s:=by
 refine xe33 hT.obj fun es ep t o1 _ hf => ?_
 refine wpAny_call_entry PySem.F.slot_set_update (hS.typeIs O) PySem.F.entry_set_update ?_ (PySem.F.args_set_update_2 _ _)
 unfold Builtin.«set.update» Builtin.Frozenset.manyOthers
 refine wpAny_bind (wpAny_pure ?_)
 try dsimp only
 refine wpAny_bind ?_
 rw [List.forIn_cons]
 refine wpAny_bind ?_
 refine wpAny_bind ?_
 refine wpAny_bind (isAnySet_set (hT.typeIs O) ?_)
 refine wpAny_bind (wpAny_pure ?_)
 refine wpAny_bind (epoch_of (O.get o1) rfl hf ?_)
 refine set_merge hd hr lo (by exact hu) hao F O hS hT hc (fun s' {Q} zm1 hQ => xe12 zm1 fun ob e1 e2 => ?_) fun s' S' ob q F' O' hS' hm => ?_
 ·rw [o1] at e1;cases e1
  exact unchanged_of e2 rfl hf hQ
 refine wpAny_pure ?_
 dsimp only
 refine wpAny_pure (wpAny_pure ⟨_,rfl,h s' S' ob q F' O' hS' hm ?_⟩)
 refine xe32 hS'.obj fun _ _ _ e _ => ?_
 rw [upd_self] at e;cases e;simp
theorem sizeOf_of (O : Own ι h₀ L s.heap σ) (hS : SetAt ld kd σ a S) {Q : Nat → Shared → Prop} (h : Q S.length s) : wpAny (model prog w) A (Builtin.Frozenset.sizeOf a) Q E s:=by
 refine xe33 hS.obj fun es ep t o1 o2 hf => ?_
 refine wpAny_bind (wpAny_setEntries_of (o:=setObj es ep t) (O.get o1) rfl hf ?_)
 rw [o2]
 exact wpAny_pure h
theorem entry_set_difference : entryFor table "set.difference" = some Builtin.«frozenset.difference» :=
 entryFor_alias (id':="frozenset.difference") (by kernel_rfl) rfl (by decide +kernel) (by kernel_rfl)
theorem baseOf_set (hT : s.TypeIs (.ref a) "set") {Q : Value → Shared → Prop} (h : Q (.type "set") s) : wpAny (model prog w) A (Builtin.Frozenset.baseOf a) Q E s:=by
 refine wpAny_bind (wpAny_isInstance hT sub_set_set ?_)
 exact wpAny_pure h
theorem diff_turn (hd : kd.dep ≤ 8) (hr : Refs kd) (hu : A.units + kd.dep < cLine) {o b : Addr} {ob oc : Obj} {R : List K} {e : Int × Value} {each : Sem Unit} (F : Fr h₀ L s.heap m) (O : Own ι h₀ L s.heap (upd σ b ob)) (hb : σ b = none) (hT : SetIn kd σ o T) (hR : SetIn kd (upd σ b ob) b R) (hc : R.length < 1024) (r : ElemOf kd σ k e)
  (ha : σ a = some oc) (heach : ∀ (s' : Shared) {Q : Unit → Shared → Prop},s'.heap.get? a = some oc → Q () s' → wpAny (model prog w) A each Q E s') {P : ForInStep Unit → Shared → Prop}
  (h : ∀ s' R' ob',Same s s' → Fr h₀ L s'.heap m → Own ι h₀ L s'.heap (upd σ b ob') → SetIn kd (upd σ b ob') b R' → R'.length ≤ R.length + 1 → (∀ k',k' ∈ R' ↔ k' ∈ R ∨ (k' = k ∧ k ∉ T)) → P (.yield ()) s') :
  wpAny (model prog w) A (do
    holding [e.2] do
     let q ← setFind o e.2 e.1
     let there ← pure q.isSome
     if !there then
      let _ ← setAddHashed b e.2 e.1
    each
    pure (ForInStep.yield PUnit.unit)) P E s:=by
 have ext : ∀ ob,Ext σ (upd σ b ob):=fun ob => Ext.upd hb
 have next : ∀ (s' : Shared) R' ob',Same s s' → Fr h₀ L s'.heap m → Own ι h₀ L s'.heap (upd σ b ob') → SetIn kd (upd σ b ob') b R' → R'.length ≤ R.length + 1 → (∀ k',k' ∈ R' ↔ k' ∈ R ∨ (k' = k ∧ k ∉ T)) →
   wpAny (model prog w) A (do
    each
    pure (ForInStep.yield ())) P E s':=fun s' R' ob' q F' O' hR' hl' hm' =>
  wpAny_bind (heach s' (O'.get (ext ob' _ _ ha)) (wpAny_pure (h s' R' ob' q F' O' hR' hl' hm')))
 refine wpAny_bind (wpAny_holding ?_)
 rw [r.1]
 have hTo : SetIn kd s.heap.get? o T:=SetAt.move O.txh (fun _ e => O.get e) (SetAt.move (ext ob).tx (fun _ e => ext ob _ _ e) hT)
 refine wpAny_bind (set_find hd hr hu hTo (kd.mono ((ext ob).tx.trans O.txh) r.2) (fun i hi => ?_) fun hn => ?_)
 ·refine wpAny_bind (wpAny_pure ?_)
  have hk:=List.mem_of_getElem? hi
  exact wpAny_pure (next s R ob (.refl s) F O hR (by lia) fun k' => ⟨.inl,fun z => z.elim id fun z => absurd hk z.2⟩)
 refine wpAny_bind (wpAny_pure ?_)
 refine wpAny_bind (set_addHashed hd hr hu F O hR (kd.mono (ext ob).tx r.2) hc (fun hk => ?_) (fun s' R' o' hk q F' O' hR' p => ?_))
 ·exact wpAny_pure (next s R ob (.refl s) F O hR (by lia) fun k' => ⟨.inl,fun z => z.elim id fun z => z.1 ▸ hk⟩)
 rw [upd_upd] at O' hR'
 refine wpAny_pure (next s' R' o' q F' O' hR' (by have:=p.length_eq;simp at this;lia) fun k' => ?_)
 rw [p.mem_iff,List.mem_cons]
 exact ⟨fun z => z.elim (fun z => .inr ⟨z,hn⟩) .inl,fun z => z.elim .inr fun z => .inl z.1⟩
theorem sdiff (hd : kd.dep ≤ 8) (hr : Refs kd) (lo : Loud kd) (hu : A.units + 1 + kd.dep < cLine) {o : Addr} (F : Fr h₀ L s.heap m) (O : Own ι h₀ L s.heap σ) (hS : SetIn kd σ a S) (hT : SetIn kd σ o T) (hc : S.length < 1024) (hq : S.length / 4 ≤ T.length) {Q : Value → Shared → Prop}
  (h : ∀ s' b R ob,σ b = none → Same s s' → Fr h₀ L s'.heap m → Own ι h₀ L s'.heap (upd σ b ob) → SetIn kd (upd σ b ob) b R → (∀ k,k ∈ R ↔ k ∈ S ∧ k ∉ T) → ob.cls = .type "set" → Q (.ref b) s') :
  wpAny (model prog w) A (call (.builtin "set.difference") [.ref a,.ref o]) Q E s:=by
 refine xe33 hS.obj fun es ep t o1 _ hf => ?_
 have hu' : A.in1.units + kd.dep < cLine:=hu
 refine wpAny_call_entry PySem.F.slot_set_difference (hS.typeIs O) entry_set_difference ?_ (PySem.F.args_set_difference_2 _ _)
 unfold Builtin.«frozenset.difference» Builtin.Frozenset.manyOthers
 refine wpAny_bind (wpAny_pure ?_)
 try dsimp only
 refine wpAny_bind ?_
 refine wpAny_bind (isAnySet_set (hT.typeIs O) ?_)
 simp only [Bool.not_true,Bool.false_eq_true,if_false,Bool.false_and,if_true]
 unfold Builtin.Frozenset.addrOf
 refine wpAny_bind (wpAny_pure ?_)
 refine wpAny_bind (sizeOf_of O hT ?_)
 refine wpAny_bind (sizeOf_of O hS ?_)
 refine wp_neg (by lia) ?_
 refine wpAny_bind (baseOf_set (hS.typeIs O) ?_)
 refine wpAny_bind (set_fresh F O kd fun s₁ b ob hb q₁ F₁ O₁ hR₁ hcls => ?_)
 refine wpAny_bind (wpAny_pure ?_)
 have hae : a ≠ b:=fun z => by rw [z,hb] at o1;cases o1
 have ext : ∀ ob,Ext σ (upd σ b ob):=fun ob => Ext.upd hb
 refine wpAny_bind (epoch_of (O₁.get (ext ob _ _ o1)) rfl hf ?_)
 refine wpAny_bind (wpAny_holding ?_)
 refine wpAny_bind (set_walkUnseen lo (g:=σ) ((ext ob).trans fun c x e => O₁.get e) hS fun s₂ es₂ S₂ q₂ p₂ a₂ => ?_)
 have F₂ : Fr h₀ L s₂.heap m:=q₂.2 ▸ F₁
 have O₂ : Own ι h₀ L s₂.heap (upd σ b ob):=q₂.2 ▸ O₁
 refine wpAny_bind ?_
 rw [← Array.forIn_toList]
 refine wpAny_forIn_list _ (fun rest _ s' => ∃ (S' : List K) (R : List K) (ob : Obj),All2 (ElemOf kd σ) S' rest ∧ Same s s' ∧ Fr h₀ L s'.heap m ∧ Own ι h₀ L s'.heap (upd σ b ob) ∧ SetIn kd (upd σ b ob) b R ∧ R.length + S'.length ≤ S.length ∧ (∀ k,(k ∈ R ∨ (k ∈ S' ∧ k ∉ T)) ↔ k ∈ S ∧ k ∉ T)) _ ?_ ?_ _ _
  ⟨S₂,[],ob,a₂,q₁.trans q₂.1,F₂,O₂,hR₁,by simp [p₂.length_eq],fun k => by simp [p₂.mem_iff]⟩
 ·intro e rest _ s' zq2
  refine xe37 zq2 fun S' R ob hS' q' F' O' hR hl hm => ?_
  try clear zq2
  cases hS' with
  | @cons k _ S' _ r hS' =>
   simp only [List.length_cons] at hl
   refine diff_turn hd hr hu' (a:=a) F' O' hb hT hR (by lia) r o1 (fun s' {Q} g hQ => unchanged_of g rfl hf hQ) fun s'' R' ob' q'' F'' O'' hR'' hl'' hm'' => ?_
   refine ⟨S',R',ob',hS',q'.trans q'',F'',O'',hR'',by lia,fun k' => ?_⟩
   rw [hm'',← hm k',List.mem_cons]
   constructor
   ·rintro ((z | ⟨rfl,z⟩) | ⟨z,z'⟩)
    ·exact .inl z
    ·exact .inr ⟨.inl rfl,z⟩
    exact .inr ⟨.inr z,z'⟩
   rintro (z | ⟨rfl | z,z'⟩)
   ·exact .inl (.inl z)
   ·exact .inl (.inr ⟨rfl,z'⟩)
   exact .inr ⟨z,z'⟩
 intro _ s' zq3
 refine xe37 zq3 fun S' R ob hS' q' F' O' hR hl hm => ?_
 try clear zq3
 cases hS'
 refine wpAny_pure (wpAny_pure ?_)
 refine wpAny_bind (wpAny_holding ?_)
 refine wpAny_bind (wpAny_pure ?_)
 refine wpAny_pure (wpAny_pure ?_)
 refine ⟨_,rfl,h s' b R ob hb q' F' O' hR (fun k => by rw [← hm k];simp) ?_⟩
 refine xe32 hR.obj fun _ _ _ e _ => ?_
 rw [upd_self] at e;cases e;rfl
end
section
variable {prog : Program} {w : World} {K : Type} [DecidableEq K]
noncomputable def VK.hk (kd : VK prog w K) (hd : kd.dep ≤ 8) : HeapKind prog w K where
 is h k a:=kd.is h.get? k (.ref a)
 hash:=kd.hash
 draws:=kd.draws
 room A:=A.units + kd.dep < cLine
 inj x y:=kd.inj x y
 keeps x ho hq hs:=kd.mono' (fun c o' e _ n => (hs.2 c (fun q => by subst q;rw [ho] at e;cases e;exact n _ _ hq)).trans e) x
 pyHash hu x h:=kd.pyHash' hu x h
 eqBool hu x y h:=kd.eqB hu x y h
 quiet x h:=kd.quiet hd x h
inductive DHEx (kd : VK prog w K) (σ : Sg) (d : Addr) (f : K → Option Value) : Prop
 | ofx (o) (es) (ep) (xs) (h1 : σ d = some o) (h2 : o.ExactDict) (h3 : o.data = .dict es ep) (h4 : es.toList = xs.map (fun x : K × Addr × Value => (⟨kd.hash x.1,.ref x.2.1,x.2.2⟩ : DictEntry))) (h5 : (∀ x ∈ xs,kd.is σ x.1 (.ref x.2.1))) (h6 : (xs.map (·.1)).Nodup) (h7 : ∀ k,(atKey xs k).map (·.2) = f k)
structure DH (kd : VK prog w K) (σ : Sg) (d : Addr) (f : K → Option Value) : Prop where
 low : (d == sysModules) = false
 ex : DHEx kd σ d f
variable {kd : VK prog w K} {A : Around} {E : Value → Shared → Prop} {s : Shared} {ι : Sd} {h₀ : Heap} {L a d : Addr} {σ σ' : Sg} {m : Str → Option Value} {k : K} {x : Value} {f : K → Option Value}
theorem DH.heap (O : Own ι h₀ L s.heap σ) (hd : kd.dep ≤ 8) (D : DH kd σ d f) : ∃ xs,s.heap.DictOfH (kd.hk hd) d xs ∧ ∀ k,(atKey xs k).map (·.2) = f k:=by
 obtain ⟨o,es,ep,xs,h1,h2,h3,h4,h5,h6,h7⟩:=D.ex
 exact ⟨xs,⟨o,es,ep,O.get h1,h2,h3,h4,fun x hx => kd.mono O.txh (h5 x hx),h6⟩,h7⟩
theorem DH.move (h : TX σ σ') (ha : ∀ o,σ d = some o → σ' d = some o) (D : DH kd σ d f) : DH kd σ' d f:=by
 obtain ⟨o,es,ep,xs,h1,h2,h3,h4,h5,h6,h7⟩:=D.ex
 exact ⟨D.low,o,es,ep,xs,ha _ h1,h2,h3,h4,fun x hx => kd.mono h (h5 x hx),h6,h7⟩
theorem DH.cell (D : DH kd σ d f) : ∃ o,σ d = some o ∧ o.cls = .type "dict" ∧ o.dict = none:=by
 obtain ⟨o,es,ep,xs,h1,h2,h3,h4,h5,h6,h7⟩:=D.ex
 exact ⟨o,h1,h2.1,h2.2.1⟩
theorem DH.typeIs (O : Own ι h₀ L s.heap σ) (D : DH kd σ d f) : s.TypeIs (.ref d) "dict":=xe13 (D.cell) fun o h1 h2 _ => ⟨o,O.get h1,h2⟩
theorem DH.noDict (O : Own ι h₀ L s.heap σ) (D : DH kd σ d f) : ∀ b,Value.ref d = .ref b → ∃ ob,s.heap.get? b = some ob ∧ ob.dict = none:=fun b e => by
 injection e with e;subst e
 refine xe13 D.cell fun o h1 _ h2 => ?_
 exact ⟨_,O.get h1,h2⟩
noncomputable def mapSet (f : K → Option Value) (k : K) (v : Value) : K → Option Value:=fun x => if x = k then some v else f x
theorem atKey_stored (xs : List (K × Addr × Value)) (k : K) (a : Addr) (v : Value) (x : K) : (atKey (storedH xs k a v) x).map (·.2) = if x = k then some v else (atKey xs x).map (·.2):=by
 cases h : atKey xs k with
 | none =>
  rw [storedH_new h]
  unfold atKey at h ⊢
  by_cases hx : x = k
  ·subst hx
   rw [Option.map_eq_none_iff] at h
   simp [h]
  have : ¬ k = x:=fun q => hx q.symm
  simp [hx,this]
 | some p =>
  rw [storedH_old h]
  have key : ∀ ys : List (K × Addr × Value),(atKey (ys.map (putAt k v)) x).map (·.2) = if x = k then (atKey ys x).map (fun _ => v) else (atKey ys x).map (·.2):=by
   intro ys
   induction ys with
   | nil => simp [atKey]
   | cons y ys ih =>
    unfold atKey at ih ⊢
    rw [List.map_cons,List.find?_cons,List.find?_cons]
    have e1 : (putAt k v y).1 = y.1:=by unfold putAt;split <;> rfl
    rw [e1]
    by_cases hy : y.1 = x
    ·simp only [hy,decide_true,Option.map_some]
     unfold putAt
     by_cases hk : x = k
     ·rw [if_pos (hy.trans hk),if_pos hk]
     rw [if_neg (fun q => hk (hy.symm.trans q)),if_neg hk]
    simp only [hy,decide_false]
    exact ih
  rw [key]
  split
  ·rename_i hx;subst hx;rw [h];rfl
  rfl
theorem keys_len {xs : List (K × Addr × Value)} (hn : (xs.map (·.1)).Nodup) (hf : ∀ k,(atKey xs k).map (·.2) = f k) {U : List K} (hU : ∀ k,f k ≠ none → k ∈ U) : xs.length ≤ U.length:=by
 have hsub : ∀ k ∈ xs.map (·.1),k ∈ U:=fun k hk => by
  refine hU k ?_
  rw [← hf k]
  refine xe12 (List.mem_map.mp hk) fun y hy zq1 => ?_
  subst zq1
  refine xe11 (List.mem_iff_getElem?.mp hy) fun j hj => ?_
  rw [atKey_of_get hn (p:=y.2) hj]
  simp
 have : ∀ (l U : List K),l.Nodup → (∀ k ∈ l,k ∈ U) → l.length ≤ U.length:=by
  intro l
  induction l with
  | nil => intro U _ _;exact Nat.zero_le _
  | cons y l ih =>
   intro U hn hs
   rw [List.nodup_cons] at hn
   have:=ih (U.erase y) hn.2 fun k hk => (List.mem_erase_of_ne (fun q => by subst q;exact hn.1 hk)).mpr (hs k (.tail _ hk))
   have hy:=hs y (.head _)
   rw [List.length_erase_of_mem hy] at this
   have:=List.length_pos_of_mem hy
   exact xs21 ‹_› ‹_›
 have:=this _ U hn hsub
 rwa [List.length_map] at this
theorem dnew (F : Fr h₀ L s.heap m) (O : Own ι h₀ L s.heap σ) (hb : sysModules < h₀.objs.size) (kd : VK prog w K) {o : Obj} (ho : o = { cls:=.type "dict",data:=.dict #[] }) :
  σ s.heap.objs.size = none ∧ Fr h₀ L (s.heap.push o) m ∧ Own ι h₀ L (s.heap.push o) (upd σ s.heap.objs.size o) ∧ DH kd (upd σ s.heap.objs.size o) s.heap.objs.size (fun _ => none):=by
 subst ho
 exact ⟨O.fresh (Nat.le_refl _),F.push _,O.push F _,F.notModules hb,_,#[],0,[],upd_self ..,⟨rfl,rfl,rfl⟩,rfl,rfl,(fun x hx => by cases hx),.nil,fun k => rfl⟩
theorem din (hd : kd.dep ≤ 8) (hr : Refs kd) (hu : A.units + 1 + kd.dep < cLine) (O : Own ι h₀ L s.heap σ) (D : DH kd σ d f) (hx : kd.is σ k x) {Q : Value → Shared → Prop}
  (h : ∀ s',Quiet s s' → Q (.bool (f k).isSome) s') : wpAny (model prog w) A (compareOp .In x (.ref d)) Q E s:=by
 refine xe12 (D.heap O hd) fun xs D' hf => ?_
 refine xe11 (hr hx) fun b zq2 => ?_
 subst zq2
 refine wpAny_in_heap (knd:=kd.hk hd) (k:=k) hu (kd.mono O.txh hx) D.low D' ?_
 have : (atKey xs k).isSome = (f k).isSome:=by rw [← hf k];simp
 rw [this]
 exact h _ ⟨⟨rfl,rfl⟩,rfl⟩
theorem dget (hd : kd.dep ≤ 8) (hr : Refs kd) (hu : A.units + 1 + kd.dep < cLine) (O : Own ι h₀ L s.heap σ) (D : DH kd σ d f) (hx : kd.is σ k x) {v : Value} (hv : f k = some v) {Q : Value → Shared → Prop}
  (h : ∀ s',Quiet s s' → Q v s') : wpAny (model prog w) A (getItem (.ref d) x) Q E s:=by
 refine xe12 (D.heap O hd) fun xs D' hf => ?_
 refine xe11 (hr hx) fun b zq296 => ?_
 subst zq296
 rw [← hf k] at hv
 refine xe12 (Option.map_eq_some_iff.mp hv) fun p hp zq3 => ?_
 subst zq3
 exact wpAny_getItem_heap (knd:=kd.hk hd) (k:=k) hu (kd.mono O.txh hx) D' hp (h _ ⟨⟨rfl,rfl⟩,rfl⟩)
theorem dmiss (hd : kd.dep ≤ 8) (hr : Refs kd) (hu : A.units + 1 + kd.dep < cLine) (hh : A.handled = none) (F : Fr h₀ L s.heap m) (O : Own ι h₀ L s.heap σ) (D : DH kd σ d f) (hx : kd.is σ k x) (hv : f k = none) {Q : Value → Shared → Prop}
  (h : ∀ h' e s',Heap.NewExc s.heap h' e "KeyError" → s'.heap = h' → Same s s' → E (.ref e) s') : wpAny (model prog w) A (getItem (.ref d) x) Q E s:=by
 refine xe12 (D.heap O hd) fun xs D' hf => ?_
 refine xe11 (hr hx) fun b zq297 => ?_
 subst zq297
 rw [← hf k] at hv
 exact wpAny_getItem_missing_heap (knd:=kd.hk hd) (k:=k) hu (kd.mono O.txh hx) D.low hh D' (Option.map_eq_none_iff.mp hv) fun h' e ne => h h' e _ ne rfl ⟨rfl,rfl⟩
theorem dget2 (hd : kd.dep ≤ 8) (hr : Refs kd) (hu : A.units + 1 + kd.dep < cLine) (O : Own ι h₀ L s.heap σ) (D : DH kd σ d f) (hx : kd.is σ k x) {v : Value} {Q : Value → Shared → Prop}
  (h : ∀ s',Quiet s s' → Q ((f k).getD v) s') : wpAny (model prog w) A (call (.builtin "dict.get") [.ref d,x,v]) Q E s:=by
 refine xe12 (D.heap O hd) fun xs D' hf => ?_
 refine xe11 (hr hx) fun b zq298 => ?_
 subst zq298
 refine wpAny_call_entry PySem.F.slot_dict_get (D.typeIs O) PySem.F.entry_dict_get ?_ (PySem.F.args_dict_get_3 _ _ _)
 show wpAny _ _ (dictGet d (.ref b) >>= _) _ _ s
 refine wpAny_bind (wpAny_dictGet_heap (knd:=kd.hk hd) (k:=k) hu (kd.mono O.txh hx) D' ?_)
 have h':=h { s with toks:=s.toks + kd.draws k } ⟨⟨rfl,rfl⟩,rfl⟩
 rw [← hf k] at h'
 cases hq : (atKey xs k).map (·.2) with
 | some v' =>
  rw [hq] at h'
  exact wpAny_pure ⟨v',rfl,h'⟩
 | none =>
  rw [hq] at h'
  exact wpAny_bind (wpAny_missed_other D.low (wpAny_pure ⟨v,rfl,h'⟩))
theorem DH.back (O : Own ι h₀ L s.heap σ) (hd : kd.dep ≤ 8) (D : DH kd σ d f) {h' : Heap} {xs : List (K × Addr × Value)} (D' : h'.DictOfH (kd.hk hd) d xs) (hs : Heap.SameBut d s.heap h') (F : Fr h₀ L s.heap m)
  (hk : ∀ x ∈ xs,kd.is σ x.1 (.ref x.2.1)) {f' : K → Option Value} (hf : ∀ k,(atKey xs k).map (·.2) = f' k) :
  ∃ o,Fr h₀ L h' m ∧ Own ι h₀ L h' (upd σ d o) ∧ DH kd (upd σ d o) d f' ∧ o.cls = .type "dict":=by
 refine xe13 D.cell fun oo h1 h2 h3 => ?_
 refine xe36 D' fun o es ep e1 e2 e3 e4 e5 e6 => ?_
 try clear D'
 refine ⟨o,frSet F O h1 hs,O.set h1 hs e1,⟨D.low,o,es,ep,xs,upd_self ..,e2,e3,e4,fun x hx => ?_,e6,hf⟩,e2.1⟩
 exact kd.mono (upd_tx h1 (by rw [h2];simp)) (hk x hx)
theorem storedH_keys {xs : List (K × Addr × Value)} {P : K → Addr → Prop} (hk : ∀ x ∈ xs,P x.1 x.2.1) {k : K} {a : Addr} {v : Value} (h : P k a) : ∀ x ∈ storedH xs k a v,P x.1 x.2.1:=by
 intro x hx
 unfold storedH at hx
 split at hx
 ·refine xe12 (List.mem_map.mp hx) fun y hy zq4 => ?_
  subst zq4
  unfold putAt
  split <;> exact hk y hy
 rcases List.mem_append.mp hx with hx | hx
 ·exact hk x hx
 simp only [List.mem_singleton] at hx;subst hx;exact h
theorem DH.heap' (O : Own ι h₀ L s.heap σ) (hd : kd.dep ≤ 8) (D : DH kd σ d f) : ∃ xs,s.heap.DictOfH (kd.hk hd) d xs ∧ (∀ k,(atKey xs k).map (·.2) = f k) ∧ (∀ x ∈ xs,kd.is σ x.1 (.ref x.2.1)) ∧ (xs.map (·.1)).Nodup:=by
 obtain ⟨o,es,ep,xs,h1,h2,h3,h4,h5,h6,h7⟩:=D.ex
 exact ⟨xs,⟨o,es,ep,O.get h1,h2,h3,h4,fun x hx => kd.mono O.txh (h5 x hx),h6⟩,h7,h5,h6⟩
theorem dset (hd : kd.dep ≤ 8) (hr : Refs kd) (hu : A.units + 1 + kd.dep < cLine) (F : Fr h₀ L s.heap m) (O : Own ι h₀ L s.heap σ) (D : DH kd σ d f) (hx : kd.is σ k x) {v : Value} (hU : ∃ U : List K,U.length ≤ 5000 ∧ ∀ k,f k ≠ none → k ∈ U) {Q : Unit → Shared → Prop}
  (h : ∀ s' o,Same s s' → Fr h₀ L s'.heap m → Own ι h₀ L s'.heap (upd σ d o) → DH kd (upd σ d o) d (mapSet f k v) → o.cls = .type "dict" → Q () s') : wpAny (model prog w) A (setItem (.ref d) x v) Q E s:=by
 refine xe14 (D.heap' O hd) fun xs D' hf hk hn => ?_
 refine xe11 (hr hx) fun b zq299 => ?_
 subst zq299
 refine xe12 hU fun U hU1 hU2 => ?_
 try clear hU
 have hl:=keys_len hn hf hU2
 refine wpAny_setItem_heap (knd:=kd.hk hd) (k:=k) hu (kd.mono O.txh hx) D' (fun h' D'' hs => ?_) (by rw [sizeLine_eq];lia)
 refine xe14 (D.back O hd D'' hs F (storedH_keys (P:=fun k a => kd.is σ k (.ref a)) hk hx) (f':=mapSet f k v) fun y => by rw [atKey_stored,hf];rfl) fun o F' O' D3 hc => ?_
 exact h _ o ⟨rfl,rfl⟩ F' O' D3 hc
theorem dsetdef (hd : kd.dep ≤ 8) (hr : Refs kd) (hu : A.units + 1 + kd.dep < cLine) (F : Fr h₀ L s.heap m) (O : Own ι h₀ L s.heap σ) (D : DH kd σ d f) (hx : kd.is σ k x) {v : Value} (hU : ∃ U : List K,U.length ≤ 5000 ∧ ∀ k,f k ≠ none → k ∈ U) {Q : Value → Shared → Prop}
  (hthere : ∀ s' u,Quiet s s' → f k = some u → Q u s')
  (hnew : ∀ s' o,f k = none → Same s s' → Fr h₀ L s'.heap m → Own ι h₀ L s'.heap (upd σ d o) → DH kd (upd σ d o) d (mapSet f k v) → o.cls = .type "dict" → Q v s') : wpAny (model prog w) A (call (.builtin "dict.setdefault") [.ref d,x,v]) Q E s:=by
 refine xe14 (D.heap' O hd) fun xs D' hf hk hn => ?_
 refine xe11 (hr hx) fun b zq300 => ?_
 subst zq300
 refine xe12 hU fun U hU1 hU2 => ?_
 try clear hU
 have hl:=keys_len hn hf hU2
 refine wpAny_call_entry PySem.F.slot_dict_setdefault (D.typeIs O) PySem.F.entry_dict_setdefault ?_ (PySem.F.args_dict_setdefault_3 _ _ _)
 refine wpAny_bind ?_
 refine wpAny_bind (wpAny_notOrdered_dict (D.typeIs O) ?_)
 refine wpAny_pure ?_
 show wpAny _ _ (if (d == sysModules) = true then _ else (dictSetDefault d (.ref b) v >>= _)) _ _ s
 rw [if_neg (by rw [D.low];exact Bool.false_ne_true)]
 refine wpAny_bind ?_
 unfold dictSetDefault
 try with_reducible refine wpAny_holding ?_
 have hxh : kd.is s.heap.get? k (.ref b):=kd.mono O.txh hx
 refine wpAny_bind (kd.pyHash' hu hxh ?_)
 refine xe36 D' fun o es ep ho hc hdt he his hn' => ?_
 try clear D'
 refine wpAny_bind (wpAny_dictFind_heap (knd:=kd.hk hd) (k:=k) (s:={ s with toks:=s.toks + kd.draws k }) hu hxh ho hdt he his hn' ?_ ?_)
 ·intro hno
  have hnone:=atKey_none_of_get hno
  refine wpAny_bind (wpAny_rule (wpAny_bind (wpAny_updateDictKeys (hz:=by have e:=size_of_entries he;rw [sizeLine_eq];lia) (s:={ s with toks:=s.toks + kd.draws k }) ho hdt (wpAny_pure ?_))))
  have e : Heap.DictOfH (kd.hk hd) (s.heap.update d (fun o => o.mapDictKeys (·.push ⟨kd.hash k,.ref b,v⟩))) d (storedH xs k b v):=by
   refine ⟨_,_,ep + 1,Heap.get?_update_self _ ho (Obj.isFreed_of_dict (Obj.data_mapDictKeys hdt _)),hc.mapDictKeys _,Obj.data_mapDictKeys hdt _,?_,?_,?_⟩
   ·rw [storedH_new hnone];simp [he,entryOfKey];rfl
   ·exact storedH_keys (P:=fun k a => (kd.hk hd).is _ k a) (fun x hx => (kd.hk hd).keeps (his x hx) ho hdt (Heap.SameBut.update ..)) ((kd.hk hd).keeps hxh ho hdt (Heap.SameBut.update ..))
   rw [storedH_new hnone,List.map_append,List.nodup_append]
   refine ⟨hn,by simp,fun y hy z hz e => ?_⟩
   simp only [List.map_cons,List.map_nil,List.mem_singleton] at hz
   subst hz;subst e
   exact not_mem_keys_of_get hno hy
  refine xe14 (D.back O hd e (Heap.SameBut.update ..) F (storedH_keys (P:=fun k a => kd.is σ k (.ref a)) hk hx) (f':=mapSet f k v) fun y => by rw [atKey_stored,hf];rfl) fun o' F' O' D3 hc' => ?_
  exact wpAny_pure ⟨_,rfl,hnew _ o' (by rw [← hf k,hnone];rfl) ⟨rfl,rfl⟩ F' O' D3 hc'⟩
 intro j p hj
 refine wpAny_bind (wpAny_dictEntries (s:={ s with toks:=s.toks + kd.draws k }) ho hdt ?_)
 rw [entry_at he j,hj]
 refine wpAny_bind (wpAny_rule (wpAny_pure ?_))
 exact wpAny_pure ⟨_,rfl,hthere _ p.2 ⟨⟨rfl,rfl⟩,rfl⟩ (by rw [← hf k,atKey_of_get hn hj];rfl)⟩
end
section
variable {prog : Program} {w : World} {A : Around} {E : Value → Shared → Prop} {s : Shared} {ι : Sd} {h₀ : Heap} {L a d : Addr} {σ σ' : Sg} {m : Str → Option Value} {k : Str} {t : Tok} {x : Value} {f : Str → Option Value}
inductive DSEx (prog : Program) (w : World) (σ : Sg) (d : Addr) (f : Str → Option Value) : Prop
 | ofx (o) (kvs) (h1 : σ d = some o) (h2 : o.IsDictOf (strKind prog w) kvs) (h3 : ∀ k,valueAt kvs k = f k)
structure DS (prog : Program) (w : World) (σ : Sg) (d : Addr) (f : Str → Option Value) : Prop where
 low : (d == sysModules) = false
 ex : DSEx prog w σ d f
theorem DS.move (ha : ∀ o,σ d = some o → σ' d = some o) (D : DS prog w σ d f) : DS prog w σ' d f:=by
 rcases D.ex with ⟨o,kvs,h1,h2,h3⟩
 exact ⟨D.low,o,kvs,ha _ h1,h2,h3⟩
theorem DS.cell (D : DS prog w σ d f) : ∃ o,σ d = some o ∧ o.cls = .type "dict" ∧ o.dict = none:=by
 rcases D.ex with ⟨o,kvs,h1,⟨es,ep,h2,_⟩,_⟩
 exact ⟨o,h1,h2.1,h2.2.1⟩
theorem DS.heap (O : Own ι h₀ L s.heap σ) (D : DS prog w σ d f) : ∃ kvs,s.heap.DictOf (strKind prog w) d kvs ∧ valueAt kvs = f:=by
 rcases D.ex with ⟨o,kvs,h1,h2,h3⟩
 exact ⟨kvs,Heap.dictOf_iff.mpr ⟨o,O.get h1,h2⟩,funext h3⟩
theorem DS.map (O : Own ι h₀ L s.heap σ) (D : DS prog w σ d f) : s.heap.MapOf (strKind prog w) d f:=by
 refine xe12 (D.heap O) fun kvs h1 zq301 => ?_
 subst zq301
 exact h1.mapOf
theorem DS.typeIs (O : Own ι h₀ L s.heap σ) (D : DS prog w σ d f) : s.TypeIs (.ref d) "dict":=xe13 (D.cell) fun o h1 h2 _ => ⟨o,O.get h1,h2⟩
theorem DS.noDict (O : Own ι h₀ L s.heap σ) (D : DS prog w σ d f) : ∀ b,Value.ref d = .ref b → ∃ ob,s.heap.get? b = some ob ∧ ob.dict = none:=fun b e => by
 injection e with e;subst e
 refine xe13 D.cell fun o h1 _ h2 => ?_
 exact ⟨_,O.get h1,h2⟩
theorem valueAt_stored (kvs : List (Str × Value)) (k : Str) (v : Value) (x : Str) : valueAt (stored kvs k v) x = if x = k then some v else valueAt kvs x:=by
 have e : ∀ y : Str × Value,(if y.1 = k then (y.1,v) else y).1 = y.1:=fun y => by split <;> rfl
 unfold stored
 split
 ·rename_i hk
  have key : ∀ ys : List (Str × Value),valueAt (ys.map fun kv => if kv.1 = k then (kv.1,v) else kv) x = if x = k then (valueAt ys x).map (fun _ => v) else valueAt ys x:=by
   intro ys
   induction ys with
   | nil => simp [valueAt]
   | cons y ys ih =>
    unfold valueAt at ih ⊢
    rw [List.map_cons,List.find?_cons,List.find?_cons,e y]
    by_cases hy : y.1 = x
    ·simp only [hy,decide_true,Option.map_some]
     by_cases hk : x = k
     ·rw [if_pos hk,if_pos hk]
     rw [if_neg hk,if_neg hk]
    simp only [hy,decide_false]
    exact ih
  rw [key]
  split
  ·rename_i hx;subst hx
   refine xe12 (List.any_eq_true.mp hk) fun y hy hyk => ?_
   unfold valueAt
   cases hf : kvs.find? fun kv => decide (kv.1 = x) with
   | none => exact absurd (of_decide_eq_true hyk) (by simpa using List.find?_eq_none.mp hf y hy)
   | some z => rfl
  rfl
 rename_i hk
 unfold valueAt
 by_cases hx : x = k
 ·subst hx
  have : kvs.find? (fun kv => decide (kv.1 = x)) = none:=by
   rw [List.find?_eq_none]
   intro y hy hyk
   exact hk (List.any_eq_true.mpr ⟨y,hy,hyk⟩)
  simp [this]
 have : ¬ k = x:=fun q => hx q.symm
 simp [hx,this]
noncomputable def smapSet (f : Str → Option Value) (k : Str) (v : Value) : Str → Option Value:=fun x => if x = k then some v else f x
theorem skeys_len {kvs : List (Str × Value)} (hn : (kvs.map (·.1)).Nodup) {U : List Str} (hU : ∀ k,valueAt kvs k ≠ none → k ∈ U) : kvs.length ≤ U.length:=by
 have:=keys_len (K:=Str) (xs:=kvs.map fun p => (p.1,0,p.2)) (f:=valueAt kvs) (by rw [List.map_map];exact hn) (fun k => by
  unfold atKey valueAt
  rw [List.find?_map]
  simp only [Option.map_map]
  rfl) hU
 rwa [List.length_map] at this
theorem snew (F : Fr h₀ L s.heap m) (O : Own ι h₀ L s.heap σ) (hb : sysModules < h₀.objs.size) (prog : Program) (w : World) {o : Obj} (ho : o = { cls:=.type "dict",data:=.dict #[] }) :
  σ s.heap.objs.size = none ∧ Fr h₀ L (s.heap.push o) m ∧ Own ι h₀ L (s.heap.push o) (upd σ s.heap.objs.size o) ∧ DS prog w (upd σ s.heap.objs.size o) s.heap.objs.size (fun _ => none):=by
 subst ho
 have:=Heap.DictOf.new (knd:=strKind prog w) s.heap
 refine xe12 (Heap.dictOf_iff.mp this) fun o h1 h2 => ?_
 rw [Heap.get?_push_size _ rfl] at h1
 cases h1
 exact ⟨O.fresh (Nat.le_refl _),F.push _,O.push F _,F.notModules hb,_,[],upd_self ..,h2,fun k => rfl⟩
theorem DS.back (F : Fr h₀ L s.heap m) (O : Own ι h₀ L s.heap σ) (D : DS prog w σ d f) {h' : Heap} {kvs : List (Str × Value)} (D' : h'.DictOf (strKind prog w) d kvs) (hs : Heap.SameBut d s.heap h') {f' : Str → Option Value} (hf : ∀ k,valueAt kvs k = f' k) :
  ∃ o,Fr h₀ L h' m ∧ Own ι h₀ L h' (upd σ d o) ∧ DS prog w (upd σ d o) d f' ∧ o.cls = .type "dict":=by
 refine xe13 D.cell fun oo h1 h2 h3 => ?_
 refine xe12 (Heap.dictOf_iff.mp D') fun o e1 e2 => ?_
 exact ⟨o,frSet F O h1 hs,O.set h1 hs e1,⟨D.low,o,kvs,upd_self ..,e2,hf⟩,xe22 (e2) fun _ _ e3 _ => e3.1⟩
theorem sdin (O : Own ι h₀ L s.heap σ) (D : DS prog w σ d f) {Q : Value → Shared → Prop}
  (h : ∀ s',Quiet s s' → Q (.bool (f k).isSome) s') : wpAny (model prog w) A (compareOp .In (.str k t) (.ref d)) Q E s :=
 wpAny_in_of (knd:=strKind prog w) (strKind_is _ _ _ _) D.low (D.map O) (h _ ⟨⟨rfl,rfl⟩,rfl⟩)
theorem sdget (O : Own ι h₀ L s.heap σ) (D : DS prog w σ d f) {v : Value} (hv : f k = some v) {Q : Value → Shared → Prop}
  (h : ∀ s',Quiet s s' → Q v s') : wpAny (model prog w) A (getItem (.ref d) (.str k t)) Q E s :=
 wpAny_getItem_of (knd:=strKind prog w) (strKind_is _ _ _ _) (D.map O) hv (h _ ⟨⟨rfl,rfl⟩,rfl⟩)
theorem sdget2 (O : Own ι h₀ L s.heap σ) (D : DS prog w σ d f) {v : Value} {Q : Value → Shared → Prop}
  (h : ∀ s',Quiet s s' → Q ((f k).getD v) s') : wpAny (model prog w) A (call (.builtin "dict.get") [.ref d,.str k t,v]) Q E s:=by
 refine wpAny_call_entry PySem.F.slot_dict_get (D.typeIs O) PySem.F.entry_dict_get ?_ (PySem.F.args_dict_get_3 _ _ _)
 show wpAny _ _ (dictGet d (.str k t) >>= _) _ _ s
 refine wpAny_bind (wpAny_dictGet_of (knd:=strKind prog w) (strKind_is _ _ _ _) (D.map O) ?_)
 have h':=h { s with toks:=s.toks + 1 } ⟨⟨rfl,rfl⟩,rfl⟩
 cases hq : f k with
 | some v' =>
  rw [hq] at h'
  exact wpAny_pure ⟨v',rfl,h'⟩
 | none =>
  rw [hq] at h'
  exact wpAny_bind (wpAny_missed_other D.low (wpAny_pure ⟨v,rfl,h'⟩))
theorem DS.room (O : Own ι h₀ L s.heap σ) (D : DS prog w σ d f) (hU : ∃ U : List Str,U.length ≤ 5000 ∧ ∀ k,f k ≠ none → k ∈ U) : ∃ kvs,s.heap.DictOf (strKind prog w) d kvs ∧ valueAt kvs = f ∧ kvs.length ≤ 5000:=by
 refine xe12 (D.heap O) fun kvs h1 zq5 => ?_
 subst zq5
 refine xe12 hU fun U hU1 hU2 => ?_
 try clear hU
 refine ⟨kvs,h1,rfl,?_⟩
 refine xe12 (Heap.dictOf_iff.mp h1) fun o _ zq302 => ?_
 refine xe21 zq302 fun _ _ h3 => ?_
 try clear zq302
 have:=skeys_len h3.2.2.2.2 hU2
 exact xs82 ‹_› ‹_›
theorem sdset (F : Fr h₀ L s.heap m) (O : Own ι h₀ L s.heap σ) (D : DS prog w σ d f) {v : Value} (hU : ∃ U : List Str,U.length ≤ 5000 ∧ ∀ k,f k ≠ none → k ∈ U) {Q : Unit → Shared → Prop}
  (h : ∀ s' o,Same s s' → Fr h₀ L s'.heap m → Own ι h₀ L s'.heap (upd σ d o) → DS prog w (upd σ d o) d (smapSet f k v) → o.cls = .type "dict" → Q () s') : wpAny (model prog w) A (setItem (.ref d) (.str k t) v) Q E s:=by
 refine xe13 (D.room O hU) fun kvs D' zq6 hl => ?_
 subst zq6
 refine wpAny_setItem_pairs (knd:=strKind prog w) (strKind_is _ _ _ _) D' (fun h' D'' hs => ?_) (by rw [sizeLine_eq];lia)
 refine xe14 (D.back F O D'' hs (f':=smapSet (valueAt kvs) k v) fun y => by rw [valueAt_stored];rfl) fun o F' O' D3 hc => ?_
 exact h _ o ⟨rfl,rfl⟩ F' O' D3 hc
theorem sdsetdef (F : Fr h₀ L s.heap m) (O : Own ι h₀ L s.heap σ) (D : DS prog w σ d f) {v : Value} (hU : ∃ U : List Str,U.length ≤ 5000 ∧ ∀ k,f k ≠ none → k ∈ U) {Q : Value → Shared → Prop}
  (hthere : ∀ s' u,Quiet s s' → f k = some u → Q u s')
  (hnew : ∀ s' o,f k = none → Same s s' → Fr h₀ L s'.heap m → Own ι h₀ L s'.heap (upd σ d o) → DS prog w (upd σ d o) d (smapSet f k v) → o.cls = .type "dict" → Q v s') : wpAny (model prog w) A (call (.builtin "dict.setdefault") [.ref d,.str k t,v]) Q E s:=by
 refine xe13 (D.room O hU) fun kvs D' zq7 hl => ?_
 subst zq7
 have hkey : (strKind prog w).is k (.str k t) = true:=strKind_is _ _ _ _
 refine wpAny_call_entry PySem.F.slot_dict_setdefault (D.typeIs O) PySem.F.entry_dict_setdefault ?_ (PySem.F.args_dict_setdefault_3 _ _ _)
 refine wpAny_bind ?_
 refine wpAny_bind (wpAny_notOrdered_dict (D.typeIs O) ?_)
 refine wpAny_pure ?_
 show wpAny _ _ (if (d == sysModules) = true then _ else (dictSetDefault d (.str k t) v >>= _)) _ _ s
 rw [if_neg (by rw [D.low];exact Bool.false_ne_true)]
 refine wpAny_bind ?_
 cases hf : valueAt kvs k with
 | some u =>
  refine wpAny_dictSetDefault_of (knd:=strKind prog w) hkey D'.mapOf (fun u' hu' => ?_) (fun hn => by rw [hf] at hn;cases hn) ?_
  ·rw [hf] at hu';cases hu'
   exact wpAny_pure ⟨_,rfl,hthere _ u ⟨⟨rfl,rfl⟩,rfl⟩ hf⟩
  intro o es ep ho hd
  refine xe36 D' fun o' es' ep' ho' _ hd' _ hp _ => ?_
  try clear D'
  rw [ho] at ho';cases ho';rw [hd] at hd';cases hd'
  have e1:=hp.length;have e2 : es.toList.length = es.size:=by simp
  rw [sizeLine_eq];lia
 | none =>
  have D'':=D'
  refine xe36 D' fun o es ep ho hc hd hk hp hn => ?_
  try clear D'
  have hes : es.size ≤ sizeLine:=by
   have e1:=hp.length;have e2 : es.toList.length = es.size:=by simp
   rw [sizeLine_eq];lia
  have hall : ∀ kv ∈ kvs,¬ kv.1 = k:=fun kv hkv q => by
   unfold valueAt at hf
   rw [Option.map_eq_none_iff,List.find?_eq_none] at hf
   exact hf kv hkv (by simpa using q)
  unfold dictSetDefault
  try with_reducible refine wpAny_holding ?_
  refine wpAny_bind ((strKind prog w).pyHash hkey ?_)
  refine wpAny_bind (wpAny_dictFind_of (s:={ s with toks:=s.toks + 1 }) hkey ho hd hk ?_)
  have hidx : (es.findIdx? fun e => (strKind prog w).is k e.key) = none:=by
   have : (es.findIdx? fun e => (strKind prog w).is k e.key) = kvs.findIdx? fun kv => decide (kv.1 = k):=by
    rw [← hp.findIdx k];obtain ⟨l⟩:=es;simp
   rw [this,List.findIdx?_eq_none_iff]
   intro kv hkv;simpa using hall kv hkv
  rw [hidx]
  refine wpAny_bind (wpAny_rule (wpAny_bind (wpAny_updateDictKeys (hz:=hes) (s:={ s with toks:=s.toks + 1 }) ho hd (wpAny_pure ?_))))
  have hany : ¬ (kvs.any fun kv => decide (kv.1 = k)) = true:=by
   rw [List.any_eq_true];intro zq303;refine xe12 zq303 fun kv hkv he => ?_;try clear zq303
   exact hall kv hkv (of_decide_eq_true he)
  have e : Heap.DictOf (strKind prog w) (s.heap.update d (fun o => o.mapDictKeys (·.push ⟨(strKind prog w).hash k,.str k t,v⟩))) d (stored kvs k v):=by
   refine ⟨_,_,ep + 1,Heap.get?_update_self _ ho (Obj.isFreed_of_dict (Obj.data_mapDictKeys hd _)),hc.mapDictKeys _,Obj.data_mapDictKeys hd _,hk.push hkey _,?_,?_⟩
   ·rw [stored,if_neg hany]
    have:=hp.append hkey ((strKind prog w).hash k) v
    obtain ⟨l⟩:=es
    simpa using this
   rw [stored,if_neg hany,List.map_append,List.nodup_append]
   refine ⟨hn,by simp,fun y hy z hz q => ?_⟩
   simp only [List.map_cons,List.map_nil,List.mem_singleton] at hz
   subst hz;subst q
   refine xe12 (List.mem_map.mp hy) fun kv hkv zq8 => ?_
   subst zq8
   exact hall kv hkv rfl
  refine xe14 (D.back F O e (Heap.SameBut.update ..) (f':=smapSet (valueAt kvs) k v) fun y => by rw [valueAt_stored];rfl) fun o' F' O' D3 hc' => ?_
  exact wpAny_pure ⟨_,rfl,hnew _ o' hf ⟨rfl,rfl⟩ F' O' D3 hc'⟩
end
theorem seti_slot : Slot "set_iterator" "__next__" "set_iterator.__next__" :=
 .of (owner:="set_iterator") (n:="__next__") (by kernel_rfl) (by decide +kernel) (by decide +kernel) (by decide +kernel)
  (by first | exact .inl (by decide +kernel) | exact .inr (by decide +kernel)) (by rw [isSubtype_type];kernel_rfl)
theorem seti_self : Slot "set_iterator" "__iter__" "set_iterator.__iter__" :=
 .of (owner:="set_iterator") (n:="__iter__") (by kernel_rfl) (by decide +kernel) (by decide +kernel) (by decide +kernel)
  (by first | exact .inl (by decide +kernel) | exact .inr (by decide +kernel)) (by rw [isSubtype_type];kernel_rfl)
theorem seti_entry : entryFor table "set_iterator.__next__" = some Builtin.«set_iterator.__next__»:=entryFor_of_tree (by kernel_rfl)
theorem seti_self_entry : entryFor table "set_iterator.__iter__" = some Builtin.«dict_keyiterator.__iter__» :=
 entryFor_alias (id':="dict_keyiterator.__iter__") (by kernel_rfl) rfl (by decide +kernel) (by kernel_rfl)
theorem seti_owner : Manifest.owners.lookup (String.ofList ['r','o','t','a','r','e','t','i','_','t','e','s'].reverse) = some Manifest.sig_set_iterator:=by kernel_rfl
theorem seti_args (a : Value) : argsOk "set_iterator.__next__" ⟨[a],[]⟩:=by
 unfold argsOk;rw [signature?_of (id:="set_iterator.__next__") (n:=['_','_','t','x','e','n','_','_']) (o:=['r','o','t','a','r','e','t','i','_','t','e','s']) (by kernel_rfl) seti_owner];kernel_rfl
theorem seti_self_args (a : Value) : argsOk "set_iterator.__iter__" ⟨[a],[]⟩:=by
 unfold argsOk;rw [signature?_of (id:="set_iterator.__iter__") (n:=['_','_','r','e','t','i','_','_']) (o:=['r','o','t','a','r','e','t','i','_','t','e','s']) (by kernel_rfl) seti_owner];kernel_rfl
theorem set_iter_entry : entryFor table "set.__iter__" = some Builtin.«frozenset.__iter__» :=
 entryFor_alias (id':="frozenset.__iter__") (by kernel_rfl) rfl (by decide +kernel) (by kernel_rfl)
inductive Walked (w : World) (h : Heap) (a : Addr) (es : Array (Int × Value)) (ep : Nat) (t : SetTable) (vs : List Value) (i : Nat) : Value → List Addr → Prop
 | text (x : Int) (tk : Tok) : byText w = true → vs = (pickOrder (w.params.setOrder a ep) es).toList.map (·.2) → Walked w h a es ep t vs i (.int x tk) []
 | slot (x : Nat) (tk : Tok) : byText w = false → (!t.plain && decide (es.size > 1)) = false → t.led = true → vs = es.toList.map (·.2) → (∀ j,j < i → ∀ p,t.place[j]? = some p → p < x) → (∀ j,i ≤ j → ∀ p,t.place[j]? = some p → x ≤ p) → Walked w h a es ep t vs i (.int x tk) []
 | drawn (T : Addr) (order : List Nat) (c : Nat) : byText w = false → h.get? T = some ({ cls:=.type "tuple",data:=.seq (order.map fun j : Nat => Value.int j 0).toArray c } : Obj) → vs = order.filterMap (fun j => (es[j]?).map (·.2)) → (∀ j ∈ order,j < es.size) → Walked w h a es ep t vs i (.ref T) [T]
structure SetIt (w : World) (I a : Addr) (es : Array (Int × Value)) (ep : Nat) (t : SetTable) (vs : List Value) (ts : List Addr) (i : Nat) (h : Heap) : Prop where
 set : h.get? a = some (setObj es ep t)
 it : ∃ first o,h.get? I = some o ∧ o.cls = .type "set_iterator" ∧ o.data = .fields #[first,.int i 0,.ref a,.int es.size 0,.int ep 0] ∧ Walked w h a es ep t vs i first ts
theorem SetIt.typeIs {w : World} {I a : Addr} {es ep t vs ts i} {s : Shared} (x : SetIt w I a es ep t vs ts i s.heap) : s.TypeIs (.ref I) "set_iterator":=xe23 (x.it) fun _ o h1 h2 _ => ⟨o,h1,h2⟩
section
variable {prog : Program} {w : World} {A : Around} {E : Value → Shared → Prop} {s : Shared} {I a : Addr} {es : Array (Int × Value)} {ep : Nat} {t : SetTable} {vs : List Value} {ts : List Addr} {i : Nat}
theorem Walked.move {h h' : Heap} {first : Value} (x : Walked w h a es ep t vs i first ts) (k : ∀ b ∈ ts,∀ o,h.get? b = some o → h'.get? b = some o) : Walked w h' a es ep t vs i first ts:=by
 cases x with
 | text x tk h1 h2 => exact .text x tk h1 h2
 | slot x tk h1 h2 h3 h4 h5 h6 => exact .slot x tk h1 h2 h3 h4 h5 h6
 | drawn T order c h1 h2 h3 h4 => exact .drawn T order c h1 (k T (.head _) _ h2) h3 h4
theorem SetIt.at' {h h' : Heap} (x : SetIt w I a es ep t vs ts i h) (k : ∀ b ∈ I :: a :: ts,∀ o,h.get? b = some o → h'.get? b = some o) : SetIt w I a es ep t vs ts i h':=by
 refine xe24 x.it fun f o h1 h2 h3 h4 => ?_
 exact ⟨k a (by simp) _ x.set,f,o,k I (by simp) _ h1,h2,h3,h4.move fun b hb => k b (by simp [hb])⟩
theorem byText_ask {Q : Bool → Shared → Prop} (h : Q (byText w) s) : wpAny (model prog w) A setsByText Q E s:=by
 exact wpAny_bind (wpAny_askSetting (wpAny_pure h))
theorem set_next (hh : A.handled = none) (hf : t.fits es.size = true) (hr : Rise t.place) (hsz : t.place.size = es.size) (hneI : a ≠ I) (hts : I ∉ ts) (hx : SetIt w I a es ep t vs ts i s.heap) (hvs : vs.length = es.size) {Q : Option Value → Shared → Prop}
  (hitem : ∀ v h',vs[i]? = some v → SetIt w I a es ep t vs ts (i + 1) h' → (∀ b o,b ≠ I → s.heap.get? b = some o → h'.get? b = some o) → Q (some v) { s with heap:=h' })
  (hdone : ∀ h',vs[i]? = none → (∀ b o,b ≠ I → s.heap.get? b = some o → h'.get? b = some o) → Q none { s with heap:=h' }) :
  wpAny (model prog w) A (pyNext (.ref I)) Q E s:=by
 refine xe24 (id hx.it) fun first o ho hc hd hw => ?_
 have hset:=hx.set
 refine wpAny_bind (wpAny_attempt (wpAny_callSpecial?_slot (name:=Str.ofString "__next__") hx.typeIs seti_slot
  (wpAny_call_entry seti_slot hx.typeIs seti_entry ?_ (seti_args _))))
 refine wpAny_bind (wpAny_pure ?_)
 refine wpAny_bind (wpAny_fieldsOf ho hd ?_)
 dsimp only
 refine wpAny_bind (wpAny_setEntries_of (o:=setObj es ep t) hset rfl hf ?_)
 refine wp_neg (by simp) ?_
 have two : ∀ {E' : Value → Shared → Prop} (v : Value) (f' : Value),vs[i]? = some v → (∀ h' : Heap,(∀ b o,b ≠ I → s.heap.get? b = some o → h'.get? b = some o) → Walked w h' a es ep t vs (i + 1) f' ts) →
   wpAny (model prog w) A.in1 (do setField (.ref I) 0 f';setField (.ref I) 1 (rawInt ((i : Int) + 1));ret v) (fun (fin : PySem.Fin) s' => ∃ v,fin = .done (.ret v) ∧ wpAny (model prog w) A (pure (some v)) Q E s') E' s:=fun v f' hv hk => by
  refine wpAny_bind (wpAny_setField ho hd (by simp) ?_)
  have ho₁:=Heap.get?_update_self (Obj.mapFields (·.setIfInBounds 0 f')) ho (Obj.isFreed_of_fields (Obj.data_mapFields hd _))
  refine wpAny_bind (wpAny_setField ho₁ (Obj.data_mapFields hd _) (by simp) ?_)
  have ho₂:=Heap.get?_update_self (Obj.mapFields (·.setIfInBounds 1 (rawInt ((i : Int) + 1)))) ho₁ (Obj.isFreed_of_fields (Obj.data_mapFields (Obj.data_mapFields hd _) _))
  have oth : ∀ b o',b ≠ I → s.heap.get? b = some o' → ((s.heap.update I (Obj.mapFields (·.setIfInBounds 0 f'))).update I (Obj.mapFields (·.setIfInBounds 1 (rawInt ((i : Int) + 1))))).get? b = some o' :=
   fun b o' hb e => (Heap.get?_update_other _ _ (Ne.symm hb)).trans ((Heap.get?_update_other _ _ (Ne.symm hb)).trans e)
  refine wpAny_pure ⟨_,rfl,wpAny_pure (hitem v _ hv ⟨oth a _ hneI hset,f',_,ho₂,(Obj.cls_mapFields ..).trans ((Obj.cls_mapFields ..).trans hc),?_,hk _ oth⟩ oth)⟩
  rw [Obj.data_mapFields (Obj.data_mapFields hd _)]
  simp [rawInt]
 have stop : ∀ {P : PySem.Fin → Shared → Prop} {E' : Value → Shared → Prop} (s' : Shared) {fs : Array Value} {o' : Obj},s'.heap.get? I = some o' → o'.data = .fields fs → 2 < fs.size → s'.gens = s.gens → s'.os = s.os → s'.drawn = s.drawn → s'.toks = s.toks → (∀ b o,b ≠ I → s.heap.get? b = some o → s'.heap.get? b = some o) →
   (∀ h' ex,(∀ b o,b ≠ I → s.heap.get? b = some o → h'.get? b = some o) → Shared.TypeIs { s with heap:=h' } (.ref ex) "StopIteration" → E' (.ref ex) { s with heap:=h' }) →
   wpAny (model prog w) A.in1 (do setField (.ref I) 2 .none;raiseNew (← newExc (.type "StopIteration") [])) P E' s':=fun s' fs o' ho' hd' hs' e1 e2 e3 e4 hk k => by
  obtain ⟨h1,g1,d1,t1,os1⟩:=s'
  simp only at e1 e2 e3 e4
  subst e1;subst e2;subst e3;subst e4
  refine wpAny_bind (wpAny_setField ho' hd' ‹_› ?_)
  refine wpAny_bind ?_
  simp only [newExc,newTuple]
  refine wpAny_bind (wpAny_newObj_type ?_ (by size_fits))
  refine wpAny_bind (m:=firstArgMember _ _) (wpAny_of_eq (a:=Value.none) (by first | rfl | (simp only [firstArgMember];rfl)) ?_)
  refine wpAny_newObj_type ?_ (by size_fits)
  refine wpAny_bind (wpAny_handled ?_)
  rw [show A.in1.handled = none from hh]
  refine wpAny_bind (wpAny_pure (wpAny_throw (k _ _ (fun b o hb e => ?_) ⟨_,Heap.get?_push_size _ rfl,rfl⟩)))
  exact ((((Heap.SameBut.update ..).extBut.push _).push _) : Heap.ExtBut I _ _) b o hb (hk b o hb e)
 cases hw with
 | text x tk h1 h2 =>
  refine wpAny_bind ?_
  refine wpAny_bind (wpAny_setState_of (o:=setObj es ep t) hset rfl hf ?_)
  refine wpAny_bind (byText_ask ?_)
  refine wp_pos h1 ?_
  refine wp_neg (by simp) ?_
  refine wpAny_bind ?_
  refine wpAny_bind (wpAny_setState_of (o:=setObj es ep t) hset rfl hf ?_)
  refine wpAny_bind (byText_ask ?_)
  refine wp_pos h1 ?_
  refine wpAny_bind (wpAny_askSetting (wpAny_pure (wpAny_pure ?_)))
  have e1 : (pickOrder (w.params.setOrder a ep) es)[i]?.map (·.2) = vs[i]?:=by rw [h2,List.getElem?_map,Array.getElem?_toList]
  show wpAny (model prog w) A.in1 (match ((pickOrder (w.params.setOrder a ep) es)[(i : Int).toNat]?.map fun e => (e.2,x.toNat)) with
   | some (x,next) => do setField (.ref I) 0 (rawInt next);setField (.ref I) 1 (rawInt ((i : Int) + 1));ret x
   | none => do setField (.ref I) 2 .none;raiseNew (← newExc (.type "StopIteration") [])) _ _ s
  rw [Int.toNat_natCast]
  cases hq : (pickOrder (w.params.setOrder a ep) es)[i]? with
  | some e =>
   rw [hq] at e1
   exact two e.2 (rawInt (x.toNat : Nat)) e1.symm fun h' _ => .text _ _ h1 h2
  | none =>
   rw [hq] at e1
   refine stop s ho hd (by simp) rfl rfl rfl rfl (fun b o _ e => e) fun h' ex hk hT => ?_
   exact wpAny_bind (wpAny_isInstance (b:=true) hT isSubtype_stop (wpAny_pure (hdone _ e1.symm hk)))
 | slot x tk h1 h2 h3 h4 h5 h6 =>
  refine wpAny_bind ?_
  refine wpAny_bind (wpAny_setState_of (o:=setObj es ep t) hset rfl hf ?_)
  dsimp only
  refine wpAny_bind (byText_ask ?_)
  rw [h1]
  show wpAny (model prog w) A.in1 (if (!t.plain && decide (es.size > 1)) = true then _ else _) _ _ s
  rw [if_neg (by rw [h2];exact Bool.false_ne_true)]
  refine wpAny_bind ?_
  show wpAny (model prog w) A.in1 (if (!t.led && !es.isEmpty) = true then _ else pure ()) _ _ s
  rw [if_neg (by simp [h3])]
  refine wpAny_pure ?_
  rw [Int.toNat_natCast]
  refine xe03 (below_spec t.place x hr) fun b1 b2 b3 => ?_
  have hb : i ≤ es.size → SetTable.below t.place x = i:=fun hi => by
   rcases Nat.lt_trichotomy (SetTable.below t.place x) i with q | q | q
   ·have hlt : SetTable.below t.place x < t.place.size:=by lia
    have:=b2 _ (Nat.le_refl _) hlt
    have:=h5 _ q _ (of_getD hlt)
    lia
   ·exact q
   have hlt : i < t.place.size:=by exact xs80 ‹_› ‹_›
   have:=b1 _ q
   have:=h6 i (Nat.le_refl _) _ (of_getD hlt)
   lia
  by_cases hi : i < es.size
  ·have e:=hb (Nat.le_of_lt hi)
   have hpl : i < t.place.size:=by exact xs94e ‹_› ‹_›
   have ev : vs[i]? = some es[i].2:=by rw [h4,List.getElem?_map,Array.getElem?_toList,Array.getElem?_eq_getElem hi];rfl
   rw [e,Array.getElem?_eq_getElem hi,Array.getElem?_eq_getElem hpl]
   refine wpAny_pure ?_
   refine two es[i].2 (rawInt ((t.place[i] + 1 : Nat) : Int)) ev fun h' _ => .slot (t.place[i] + 1) _ h1 h2 h3 h4 (fun j hj p hp => ?_) fun j hj p hp => ?_
   ·rcases Nat.lt_or_ge j i with q | q
    ·have h7:=hr j i q hpl;rw [(getD_of hp).1,(getD_of (Array.getElem?_eq_getElem hpl)).1] at h7;exact xs91b ‹_›
    have : j = i:=by exact xs64 ‹_› ‹_›
    subst this
    rw [Array.getElem?_eq_getElem hpl] at hp;cases hp;exact xs43
   have h7:=hr i j ‹_› (getD_of hp).2;rw [(getD_of hp).1,(getD_of (Array.getElem?_eq_getElem hpl)).1] at h7
   assumption
  have ev : vs[i]? = none:=List.getElem?_eq_none (by lia)
  have hbs : SetTable.below t.place x = es.size:=by
   rcases Nat.lt_or_ge (SetTable.below t.place x) t.place.size with q | q
   ·have:=b2 _ (Nat.le_refl _) q
    have:=h5 _ (by lia) _ (of_getD q)
    lia
   lia
  rw [hbs,Array.getElem?_eq_none (Nat.le_refl _)]
  refine wpAny_pure ?_
  refine stop s ho hd (by simp) rfl rfl rfl rfl (fun b o _ e => e) fun h' ex hk hT => ?_
  exact wpAny_bind (wpAny_isInstance (b:=true) hT isSubtype_stop (wpAny_pure (hdone _ ev hk)))
 | drawn T order c h1 h2 h3 h4 =>
  refine wpAny_bind (wpAny_seqItems h2 rfl ?_)
  dsimp only
  have hTI : T ≠ I:=fun q => hts (q ▸ .head _)
  have hall : ∀ l : List Nat,(∀ j ∈ l,j < es.size) → l.filterMap (fun j => (es[j]?).map (·.2)) = l.map (fun j => (es.getD j default).2):=by
   intro l
   induction l with
   | nil => intro _;rfl
   | cons j l ih =>
    intro hl
    have hj:=hl j (.head _)
    rw [List.filterMap_cons,Array.getElem?_eq_getElem hj]
    rw [ih fun j hj => hl j (.tail _ hj)]
    simp [Array.getD,hj]
  rw [hall order h4] at h3
  have ev : vs[i]? = order[i]?.map (fun j => (es.getD j default).2):=by rw [h3,List.getElem?_map]
  rw [Int.toNat_natCast,List.getElem?_toArray,List.getElem?_map]
  cases hq : order[i]? with
  | some j =>
   rw [hq] at ev
   have hj:=h4 j (List.mem_of_getElem? hq)
   refine wpAny_bind ?_
   refine wpAny_bind (wpAny_setState_of (o:=setObj es ep t) hset rfl hf ?_)
   dsimp only
   rw [if_neg (by simp),Int.toNat_natCast,Array.getElem?_eq_getElem hj]
   refine wpAny_pure ?_
   refine wpAny_bind (wpAny_setField ho hd (by simp) ?_)
   have ho₂:=Heap.get?_update_self (Obj.mapFields (·.setIfInBounds 1 (rawInt ((i : Int) + 1)))) ho (Obj.isFreed_of_fields (Obj.data_mapFields hd _))
   have oth : ∀ b o',b ≠ I → s.heap.get? b = some o' → (s.heap.update I (Obj.mapFields (·.setIfInBounds 1 (rawInt ((i : Int) + 1))))).get? b = some o':=fun b o' hb e => (Heap.get?_update_other _ _ (Ne.symm hb)).trans e
   have ev' : vs[i]? = some es[j].2:=by rw [ev];simp [Array.getD,hj]
   refine wpAny_pure ⟨_,rfl,wpAny_pure (hitem _ _ ev' ⟨oth a _ hneI hset,_,_,ho₂,(Obj.cls_mapFields ..).trans hc,?_,.drawn T order c h1 (oth T _ hTI h2) (by rw [h3,hall order h4]) h4⟩ oth)⟩
   rw [Obj.data_mapFields hd]
   simp [rawInt]
  | none =>
   rw [hq] at ev
   refine wpAny_bind (wpAny_setField ho hd (by simp) ?_)
   have ho₂:=Heap.get?_update_self (Obj.mapFields (·.setIfInBounds 0 (rawInt 0))) ho (Obj.isFreed_of_fields (Obj.data_mapFields hd _))
   refine stop _ ho₂ (Obj.data_mapFields hd _) (by simp) rfl rfl rfl rfl (fun b o' hb e => (Heap.get?_update_other _ _ (Ne.symm hb)).trans e) fun h' ex hk hT => ?_
   exact wpAny_bind (wpAny_isInstance (b:=true) hT isSubtype_stop (wpAny_pure (hdone _ ev hk)))
theorem walks_set (hh : A.handled = none) (hf : t.fits es.size = true) (hr : Rise t.place) (hsz : t.place.size = es.size) (hneI : a ≠ I) (hts : I ∉ ts) (hvs : vs.length = es.size) :
  Walks prog w A I (I :: a :: ts) [I] es.size (fun i v => vs[i]? = some v) (fun i h => SetIt w I a es ep t vs ts i h) where
 sub:=fun b hb => by simp at hb;simp [hb]
 frame:=fun i h h' x k => x.at' k
 item:=fun i s Q E hi hx hQ => set_next hh hf hr hsz hneI hts hx hvs (fun v h' hv hx' hk => hQ v h' s.toks hv hx' fun b o hb e => hk b o (by simpa using hb) e) fun h' hn hk => by
  rw [List.getElem?_eq_none_iff] at hn;lia
 done:=fun s Q E hx hQ => set_next hh hf hr hsz hneI hts hx hvs (fun v h' hv hx' hk => by
  refine xe11 (List.getElem?_eq_some_iff.mp hv) fun hlt _ => ?_;lia) fun h' hn hk => hQ h' s.toks fun b o hb e => hk b o (by simpa using hb) e
 self:=fun i s Q E hx hQ => by
  refine wpAny_pyIter_slot hx.typeIs seti_self (wpAny_call_entry seti_self hx.typeIs seti_self_entry ?_ (seti_self_args _))
  exact wpAny_pure ⟨_,rfl,"set_iterator",_,hx.typeIs,seti_slot.lookup,hQ⟩
end
section
variable {prog : Program} {w : World} {K : Type} [DecidableEq K] {kd : VK prog w K} {A : Around} {E : Value → Shared → Prop} {s : Shared} {ι : Sd} {h₀ : Heap} {L a d : Addr} {σ σ' : Sg} {m : Str → Option Value} {k : K} {x : Value} {S : List K} {ld : Prop}
theorem set_iter (F : Fr h₀ L s.heap m) (O : Own ι h₀ L s.heap σ) (hS : SetAt ld kd σ a S) {Q : Value → Shared → Prop}
  (h : ∀ s' I es ep t vs ts S',σ a = some (setObj es ep t) → S'.Perm S → All2 (kd.is σ) S' vs → vs.length = es.size → t.fits es.size = true → Rise t.place → t.place.size = es.size → a ≠ I → I ∉ ts → s.heap.objs.size ≤ I → (∀ b ∈ ts,s.heap.objs.size ≤ b) →
   Same s s' → (∀ b o,s.heap.get? b = some o → s'.heap.get? b = some o) → SetIt w I a es ep t vs ts 0 s'.heap → Q (.ref I) s') : wpAny (model prog w) A (pyIter (.ref a)) Q E s:=by
 obtain ⟨es,ep,t,h1,h2,h3,h4,h5⟩:=hS.ex
 have hf : t.fits es.size = true:=by have:=h2.fits;simpa using this
 have hT:=hS.typeIs O
 have hlen : S.length = es.size:=by have:=h3.length;simpa using this
 refine wpAny_pyIter_slot hT PySem.F.slot_set_iter (wpAny_call_entry PySem.F.slot_set_iter hT set_iter_entry ?_ (PySem.F.args_set_iter_1 _))
 refine wpAny_bind ?_
 show wpAny _ _ (Builtin.Frozenset.addrOf (.ref a)) _ _ s
 refine wpAny_pure ?_
 refine wpAny_bind (sizeOf_of O hS ?_)
 rw [hlen]
 refine wpAny_bind ?_
 refine wpAny_bind (wpAny_setState_of (o:=setObj es ep t) (O.get h1) rfl hf ?_)
 refine wpAny_bind (byText_ask ?_)
 refine wpAny_pure ?_
 have vals : ∀ {S' : List K} {l : List (Int × Value)},All2 (ElemOf kd σ) S' l → All2 (kd.is σ) S' (l.map (·.2)):=fun h => by
  induction h with
  | nil => exact .nil
  | cons r _ ih => exact .cons r.2 ih
 have mk : ∀ (s₁ : Shared) (first : Value) (vs : List Value) (ts : List Addr) (S' : List K),Same s s₁ → (∀ b o,s.heap.get? b = some o → s₁.heap.get? b = some o) → s.heap.objs.size ≤ s₁.heap.objs.size →
   S'.Perm S → All2 (kd.is σ) S' vs → (∀ b ∈ ts,s.heap.objs.size ≤ b ∧ b < s₁.heap.objs.size) → Walked w s₁.heap a es ep t vs 0 first ts → wpAny (model prog w) A.in1 (do
    let r ← newFields "set_iterator" [first,rawInt 0,.ref a,rawInt es.size,rawInt (← setEpoch a)]
    ret r) (fun fin s' => ∃ v,fin = .done (.ret v) ∧ ∃ T' r,s'.TypeIs v T' ∧ typeLookup (.type T') (Str.ofString "__next__") = pure (some r) ∧ Q v s') E s₁:=fun s₁ first vs ts S' q₁ k₁ hz p hv hts hw => by
  refine wpAny_bind (epoch_of (k₁ _ _ (O.get h1)) rfl hf ?_)
  refine wpAny_bind (wpAny_newObj_type (wpAny_pure ⟨_,rfl,"set_iterator",_,⟨_,Heap.get?_push_size _ rfl,rfl⟩,seti_slot.lookup,?_⟩))
  have hlt:=Heap.lt_size (k₁ _ _ (O.get h1))
  have hI : s₁.heap.objs.size ∉ ts:=fun q => Nat.lt_irrefl _ (hts _ q).2
  refine h _ s₁.heap.objs.size es ep t vs ts S' h1 p hv ?_ hf h2.rise ?_ (Nat.ne_of_lt hlt) hI hz (fun b hb => (hts b hb).1) ⟨q₁.1,q₁.2⟩ (fun b o e => Heap.get?_push_of_some _ (k₁ b o e)) ⟨Heap.get?_push_of_some _ (k₁ _ _ (O.get h1)),first,_,Heap.get?_push_size _ rfl,rfl,rfl,hw.move fun b hb o e => Heap.get?_push_of_some _ e⟩
  ·rw [← hv.length,p.length_eq,hlen]
  have:=h2.size;rw [List.length_map,Array.length_toList] at this;exact this
 show wpAny (model prog w) A.in1 (if (!byText w && (!t.plain && decide (es.size > 1))) = true then _ else _) _ _ s
 by_cases hd : (!byText w && (!t.plain && decide (es.size > 1))) = true
 ·refine wp_pos hd ?_
  have hb : byText w = false:=by
   cases e : byText w with
   | false => rfl
   | true => rw [e] at hd;simp at hd
  refine wpAny_bind (draw_perm es.size (List.range es.size) s (by simp) fun s₁ order q₁ p₁ => ?_)
  have hle : es.size ≤ 8191:=by
   have c1:=h2.room
   have c2:=h5.1
   rw [List.length_map,Array.length_toList] at c1
   exact xs82 ‹_› ‹_›
  refine wpAny_bind (wpAny_newTuple ?_ (by rw [List.length_map,p₁.length_eq,List.length_range,sizeLine_eq];lia))
  have ho : ∀ j ∈ order,j < es.size:=fun j hj => List.mem_range.mp (p₁.mem_iff.mp hj)
  have hall:=all2_order (vals h3) order fun j hj => by rw [List.length_map,Array.length_toList];exact ho j hj
  refine mk _ (.ref s₁.heap.objs.size) (order.filterMap fun j => (es[j]?).map (·.2)) [s₁.heap.objs.size] (order.filterMap (S[·]?)) ⟨q₁.1.1,q₁.1.2⟩ (fun b o e => Heap.get?_push_of_some _ (show s₁.heap.get? b = some o by rw [q₁.2];exact e)) (by rw [Heap.size_push,q₁.2];lia) (order_perm S (by rw [hlen];exact p₁)) ?_ ?_ ?_
  ·have e : (order.filterMap fun j => (es[j]?).map (·.2)) = order.filterMap ((es.toList.map (·.2))[·]?):=by
    congr 1;funext j;rw [List.getElem?_map,Array.getElem?_toList]
   rw [e];exact hall
  ·intro b hb
   simp only [List.mem_singleton] at hb
   subst hb
   rw [Heap.size_push,q₁.2];lia
  exact .drawn _ order 0 hb (Heap.get?_push_size _ rfl) rfl ho
 refine wp_neg hd ?_
 refine wpAny_bind (wpAny_pure ?_)
 by_cases hb : byText w = true
 ·have p:=pick_perm (w.params.setOrder a ep) es.size 0 es.toList #[] (by simp)
  refine xe12 (all2_perm (l':=(pickOrder (w.params.setOrder a ep) es).toList) (by simpa [pickOrder] using p) h3) fun S' p' h' => ?_
  exact mk s _ _ [] S' (.refl s) (fun b o e => e) (Nat.le_refl _) p' (vals h') (fun b hb => by cases hb) (.text 0 0 hb rfl)
 have hb' : byText w = false:=by simpa using hb
 exact mk s _ _ [] S (.refl s) (fun b o e => e) (Nat.le_refl _) (.refl _) (vals h3) (fun b hb => by cases hb) (.slot 0 0 hb' (by rw [hb'] at hd;simpa using hd) (h4.resolve_right hb) rfl (fun j hj => absurd hj (Nat.not_lt_zero _)) fun j _ p _ => Nat.zero_le _)
end
theorem len_split : splitId "set.__len__" = some ("set","__len__"):=by decide +kernel
section
variable {prog : Program} {w : World} {K : Type} [DecidableEq K] {kd : VK prog w K} {A : Around} {E : Value → Shared → Prop} {s : Shared} {ι : Sd} {h₀ : Heap} {L a d : Addr} {σ σ' : Sg} {m : Str → Option Value} {k : K} {x : Value} {S : List K} {ld : Prop} {R : Result → Shared → Prop}
theorem items_all {vs : List Value} {n : Nat} {acc : Array Value} (h : ItemsOf (fun i v => vs[i]? = some v) acc n) (hn : vs.length = n) : acc.toList = vs:=by
 apply List.ext_getElem?
 intro i
 cases e : acc.toList[i]? with
 | none =>
  have : acc.toList.length ≤ i:=List.getElem?_eq_none_iff.mp e
  rw [List.getElem?_eq_none]
  rw [Array.length_toList,h.1] at this;exact xs94 ‹_› ‹_›
 | some v => exact (h.2 i v (by rw [← Array.getElem?_toList];exact e)).symm
theorem ext_set {Sx : Addr} {c : Nat} {res : Value} (hh : A.handled = none) (F : Fr h₀ L s.heap m) (O : Own ι h₀ L s.heap σ) (hS : SetAt ld kd σ a S) (hx : s.heap.get? Sx = some { cls:=.type "list",data:=.seq #[] c }) (hsa : Sx ≠ a)
  (h : ∀ s' S' acc c',Same s s' → (∀ b o,b ≠ Sx → s.heap.get? b = some o → s'.heap.get? b = some o) → s'.heap.get? Sx = some { cls:=.type "list",data:=.seq acc c' } → S'.Perm S → All2 (kd.is σ) S' acc.toList → R (.ok (.ret res)) s') :
  wpAny (model prog w) A.in1 (Builtin.List.listExtendWith (.ref Sx) (.ref a) res)
   (fun fin s' => match fin with | .done f => R (.ok f) s' | .again c' => c'.quiet = true ∧ codeAny (model prog w) A c' R s') (fun e s' => R (.error e) s') s:=by
 refine wpAny_bind (wpAny_typeOf (hS.typeIs O) ?_)
 have h1 : Builtin.List.listSameRef (.ref Sx) (.ref a) = false:=by simp [Builtin.List.listSameRef,hsa]
 have h2 : (Value.type "set" == Value.type "list") = false:=by decide
 have h3 : (Value.type "set" == Value.type "tuple") = false:=by decide
 simp only [h1,h2,h3,Bool.or_false,Bool.false_eq_true,if_false]
 refine wpAny_bind (set_iter F O hS fun s₁ I es ep t vs ts S' e1 p₁ hall hlen hf hr hsz hneI hts hI hts' q₁ k₁ hit => ?_)
 refine wpAny_bind (wpAny_holding ?_)
 have O₁ : Own ι h₀ L s₁.heap σ:=O.more k₁
 have hT₁:=hS.typeIs O₁
 refine wpAny_bind (wpAny_specialOf hT₁ PySem.F.slot_set_len.lookup ?_)
 generalize hid : ("set.__len__" : String) = id0
 dsimp only
 rw [show splitId id0 = some ("set","__len__") from by subst hid;exact len_split]
 subst hid
 refine wpAny_bind (wpAny_isInstance (b:=true) hT₁ sub_set_set ?_)
 refine wpAny_bind (wpAny_typeOf hT₁ ?_)
 refine wpAny_pure ?_
 show wpAny _ A.in1 (rule "list.extend.makes-room" >>= fun _ => Builtin.List.listTouch (.ref Sx) >>= fun _ =>
  again (.builtin "list.extend.loop" ⟨[.ref Sx,.ref I,res],[]⟩)) _ _ _
 refine wpAny_bind (wpAny_rule ?_)
 refine wpAny_bind ?_
 have hx₁:=k₁ _ _ hx
 refine wpAny_bind (wpAny_updateSeq hx₁ rfl ?_)
 have hS₂:=Heap.get?_update_self (Obj.mapSeq (·.push Value.none)) hx₁ rfl
 refine wpAny_updateSeq (hz:=by seq_fits) hS₂ rfl ?_
 have hS₃:=Heap.get?_update_self (Obj.mapSeq (·.pop)) hS₂ rfl
 have oth : ∀ b o,b ≠ Sx → s₁.heap.get? b = some o → ((s₁.heap.update Sx (Obj.mapSeq (·.push Value.none))).update Sx (Obj.mapSeq (·.pop))).get? b = some o :=
  fun b o hb e => (Heap.get?_update_other _ _ (Ne.symm hb)).trans ((Heap.get?_update_other _ _ (Ne.symm hb)).trans e)
 have hSx : Sx < s.heap.objs.size:=Heap.lt_size hx
 have hSf : Sx ∉ I :: a :: ts:=fun q => by
  rcases List.mem_cons.mp q with q | q
  ·exact absurd hI (Nat.not_le.mpr (q ▸ hSx))
  rcases List.mem_cons.mp q with q | q
  ·exact hsa q
  exact absurd (hts' _ q) (Nat.not_le.mpr hSx)
 have W:=(walks_set (prog:=prog) (A:=A.in1) (w:=w) (ep:=ep) hh hf hr hsz hneI hts hlen).toS
 refine wpAny_pure ⟨plainId_quiet PySem.F.plain_extend_loop _,codeAny_extend_loopS W ?_ _ hSf _ es.size 0 _ _ _ rfl (Nat.zero_le _)
  (W.frame 0 s₁ _ s₁.toks hit (Nat.le_refl _) fun b hb o e => oth b o (fun h => hSf (h ▸ hb)) e) hS₃ (ItemsOf.nil _) fun s' acc' c' hm hS' hacc => ?_⟩
 ·have:=hS.ex
  obtain ⟨es',ep',t',g1,g2,g3,g4,g5⟩:=this
  rw [g1] at e1;cases e1
  have:=g2.room
  rw [List.length_map,Array.length_toList] at this
  rw [sizeLine_eq];lia
 have hm':=hm
 refine h s' S' acc' c' ⟨?_,?_⟩ (fun b o hb e => ?_) hS' p₁ ?_
 ·exact hm.gens.trans q₁.1
 ·exact hm.os.trans q₁.2
 ·have hbI : b ≠ I:=fun q => absurd hI (Nat.not_le.mpr (q ▸ Heap.lt_size e))
  exact hm.heap b o (by simp only [List.mem_cons,List.not_mem_nil,or_false,not_or];exact ⟨hb,hbI⟩) (oth b o hb (k₁ b o e))
 rw [items_all hacc hlen];exact hall
noncomputable abbrev lstObj (acc : Array Value) (c : Nat) : Obj:=listOf acc c
theorem slist (hh : A.handled = none) (F : Fr h₀ L s.heap m) (O : Own ι h₀ L s.heap σ) (hS : SetAt ld kd σ a S) {Q : Value → Shared → Prop}
  (h : ∀ s' l S' acc c,σ l = none → Same s s' → Fr h₀ L s'.heap m → Own ι h₀ L s'.heap (upd σ l (lstObj acc c)) → S'.Perm S → All2 (kd.is σ) S' acc.toList → Q (.ref l) s') :
  wpAny (model prog w) A (call (.type "list") [.ref a]) Q E s:=by
 refine callType_codes (Q₁:=fun obj s₁ => obj = .ref s.heap.objs.size ∧ s₁ = { s with heap:=s.heap.push { cls:=.type "list",data:=.seq #[] } }) PySem.F.called_list (PySem.F.typeCall_list_1 _) PySem.F.entry_list_init
  (code_list_new _ ⟨rfl,rfl⟩) fun obj s₁ h₁ => ?_
 refine xe02 h₁ fun zq1 zq2 => ?_
 try clear h₁
 subst zq1
 subst zq2
 have hx : (s.heap.push { cls:=.type "list",data:=.seq #[] }).get? s.heap.objs.size = some { cls:=.type "list",data:=.seq #[] }:=Heap.get?_push_size _ rfl
 refine ⟨⟨_,hx,rfl⟩,PySem.F.args_list_init_2 _ _,?_⟩
 have hl : σ s.heap.objs.size = none:=O.fresh (Nat.le_refl _)
 show wpAny _ A.in1.in1 (do let old ← Builtin.List.listItems (.ref s.heap.objs.size);Builtin.List.listUpdate (.ref s.heap.objs.size) (fun _ => #[]);letGo old.toList.reverse;Builtin.List.listExtendWith (.ref s.heap.objs.size) (.ref a) .none) _ _ _
 refine wpAny_bind ?_
 refine wpAny_bind (wpAny_seqItems hx rfl (wpAny_pure ?_))
 refine wpAny_bind (wpAny_updateSeq hx rfl ?_)
 have hx₂:=Heap.get?_update_self (Obj.mapSeq (fun _ => (#[] : Array Value))) hx rfl
 have O₁:=O.push F (lstObj #[] 0)
 have F₁ : Fr h₀ L (s.heap.push (lstObj #[] 0)) m:=F.push _
 have hs : Heap.SameBut s.heap.objs.size (s.heap.push (lstObj #[] 0)) ((s.heap.push (lstObj #[] 0)).update s.heap.objs.size (Obj.mapSeq (fun _ => (#[] : Array Value)))):=Heap.SameBut.update ..
 have F₂:=frSet F₁ O₁ (upd_self ..) hs
 have O₂:=O₁.set (upd_self ..) hs hx₂
 rw [upd_upd] at O₂
 refine xe32 hS.obj fun oc _ _ h1 _ => ?_
 have hae : a ≠ s.heap.objs.size:=fun z => by rw [z,hl] at h1;cases h1
 have hS₂ : SetAt ld kd (upd σ s.heap.objs.size (Obj.mapSeq (fun _ => (#[] : Array Value)) (lstObj #[] 0))) a S:=hS.move (Ext.upd hl).tx fun o e => Ext.upd hl _ _ e
 refine wpAny_bind (wpAny_letGo ?_)
 refine ext_set (A:=A.in1) hh F₂ O₂ hS₂ hx₂ (Ne.symm hae) fun s' S' acc c' q k hx' p hall => ⟨rfl,?_⟩
 have hcell : ∀ {S' : List K} {l : List Value},All2 (kd.is (upd σ s.heap.objs.size (Obj.mapSeq (fun _ => (#[] : Array Value)) (lstObj #[] 0)))) S' l → All2 (kd.is σ) S' l:=fun h => h.imp fun _ _ r => kd.mono (fun b o e c => by
  by_cases hb : b = s.heap.objs.size
  ·subst hb;rw [upd_self] at e;cases e;simp [Obj.mapSeq] at c
  rw [upd_ne hb] at e;exact e) r
 refine h s' s.heap.objs.size S' acc c' hl ⟨q.1,q.2⟩ ?_ ?_ p (hcell hall)
 ·refine xe32 F₂.ns fun oL es ep hL r => ?_
  refine ⟨⟨oL,es,ep,k _ _ (newBase F).1.symm hL,r⟩,fun b o e => ?_,F.above⟩
  refine k b o (fun z => ?_) (F₂.keep b o e)
  subst z;rw [(newBase F).2] at e;cases e
 refine ⟨fun b o e => ?_,fun p hp => ?_⟩
 ·by_cases hb : b = s.heap.objs.size
  ·subst hb;rw [upd_self] at e;cases e;exact ⟨hx',(newBase F).1,(newBase F).2⟩
  rw [upd_ne hb] at e
  refine xe02 (O₂.cell b o (by rw [upd_ne hb];exact e)) fun g1 g2 => ?_
  exact ⟨k b o hb g1,g2⟩
 refine xe04 (O₂.side p hp) fun g1 g2 g3 g4 => ?_
 have hb : p.1 ≠ s.heap.objs.size:=fun z => by rw [z,upd_self] at g4;cases g4
 exact ⟨k _ _ hb g1,g2,g3,by rw [upd_ne hb] at g4 ⊢;exact g4⟩
theorem scollect (hh : A.handled = none) (F : Fr h₀ L s.heap m) (O : Own ι h₀ L s.heap σ) (hS : SetAt ld kd σ a S) {Q : List Value → Shared → Prop}
  (h : ∀ s' S' vs,Same s s' → Fr h₀ L s'.heap m → Own ι h₀ L s'.heap σ → S'.Perm S → All2 (kd.is σ) S' vs → vs.length = S.length → Q vs s') :
  wpAny (model prog w) A (collect (.ref a)) Q E s:=by
 refine wpAny_bind (wpAny_runValue (codeAny_builtin PySem.F.entry_proto_collect ?_))
 show wpAny _ A.in1 (newList [] >>= fun l => again (.builtin "list.__iadd__" ⟨[l,.ref a],[]⟩)) _ _ s
 refine wpAny_bind (wpAny_newObj_type ?_)
 refine wpAny_pure ⟨plainId_quiet PySem.F.plain_list_iadd _,codeAny_builtin PySem.F.entry_list_iadd ?_⟩
 have hl : σ s.heap.objs.size = none:=O.fresh (Nat.le_refl _)
 have O₁:=O.push F (lstObj #[] 0)
 have F₁ : Fr h₀ L (s.heap.push (lstObj #[] 0)) m:=F.push _
 have O₀ : Own ι h₀ L (s.heap.push (lstObj #[] 0)) σ:=O.more fun b o e => Heap.get?_push_of_some _ e
 refine xe32 hS.obj fun oc _ _ h1 _ => ?_
 have hae : a ≠ s.heap.objs.size:=fun z => by rw [z,hl] at h1;cases h1
 have hx : (s.heap.push (lstObj #[] 0)).get? s.heap.objs.size = some { cls:=.type "list",data:=.seq #[] 0 }:=Heap.get?_push_size _ rfl
 refine ext_set (R:=fun r s' => match r with
    | .ok (.ret v) => wpAny (model prog w) A (match v with
      | .ref a => do
       let o ← load a
       match o.data with
        | .seq xs _ => pure xs.toList
        | _ => unsupported "internal:collect"
      | _ => unsupported "internal:collect") Q E s'
    | .ok _ => False
    | .error e => E e s') (A:=A) (c:=0) (s:={ s with heap:=s.heap.push (lstObj #[] 0) }) hh F₁ O₀ hS hx (Ne.symm hae) fun s' S' acc c' q k hx' p hall => ?_
 refine wpAny_bind (wpAny_load hx' ?_)
 have hk : ∀ b o,s.heap.get? b = some o → s'.heap.get? b = some o:=fun b o e => k b o (Nat.ne_of_lt (Heap.lt_size e)) (Heap.get?_push_of_some _ e)
 exact wpAny_pure (h s' S' acc.toList ⟨q.1,q.2⟩ (F.kept hk) (O.more hk) p hall (by rw [← hall.length,p.length_eq]))
end
section
variable {lt : Nat → Nat → Bool} {n : Nat} {cmp : Nat → Nat → (Bool → Shared → Prop) → Shared → Prop} {s : Shared}
structure Strict (lt : Nat → Nat → Bool) (n : Nat) : Prop where
 trans : ∀ i j k,i < n → j < n → k < n → lt i j = true → lt j k = true → lt i k = true
 total : ∀ i j,i < n → j < n → i ≠ j → lt i j = false → lt j i = true
 asym : ∀ i j,i < n → j < n → lt i j = true → lt j i = false
structure Whole (n : Nat) (p : Array Nat) : Prop where
 perm : p.toList.Perm (List.range n)
theorem Whole.size {p : Array Nat} (h : Whole n p) : p.size = n:=by
 have:=h.perm.length_eq;simpa using this
theorem Whole.below {p : Array Nat} (h : Whole n p) {i : Nat} (hi : i < n) : p.getD i 0 < n:=by
 have hs:=h.size
 have e : p.getD i 0 = p[i]'(by exact xs94e ‹_› ‹_›):=by simp [Array.getD,show i < p.size by exact xs94e ‹_› ‹_›]
 rw [e]
 exact List.mem_range.mp (h.perm.mem_iff.mp (Array.mem_toList_iff.mpr (Array.getElem_mem _)))
theorem Whole.ne {p : Array Nat} (h : Whole n p) {i j : Nat} (hi : i < n) (hj : j < n) (hij : i ≠ j) : p.getD i 0 ≠ p.getD j 0:=by
 have hs:=h.size
 have nd : p.toList.Nodup:=h.perm.nodup_iff.mpr List.nodup_range
 have e1 : p.getD i 0 = p.toList[i]'(by rw [Array.length_toList];exact xs94e ‹_› ‹_›):=by simp [Array.getD,show i < p.size by exact xs94e ‹_› ‹_›]
 have e2 : p.getD j 0 = p.toList[j]'(by rw [Array.length_toList];exact xs94e ‹_› ‹_›):=by simp [Array.getD,show j < p.size by exact xs94e ‹_› ‹_›]
 rw [e1,e2]
 intro q
 exact hij ((List.getElem_inj nd).mp q)
theorem Whole.of {p q : Array Nat} (h : Whole n p) (hq : q.Perm p) : Whole n q:=⟨hq.toList.trans h.perm⟩
noncomputable def Up (lt : Nat → Nat → Bool) (p : Array Nat) (hi : Nat) : Prop:=∀ i j,i < j → j < hi → lt (p.getD i 0) (p.getD j 0) = true
noncomputable def Down (lt : Nat → Nat → Bool) (p : Array Nat) (hi : Nat) : Prop:=∀ i j,i < j → j < hi → lt (p.getD j 0) (p.getD i 0) = true
theorem Up.succ (S : Strict lt n) {p : Array Nat} (h : Whole n p) {k : Nat} (u : Up lt p k) (hk : 1 ≤ k) (hn : k < n) (hl : lt (p.getD (k - 1) 0) (p.getD k 0) = true) : Up lt p (k + 1):=fun i j hij hj => by
 rcases Nat.lt_or_ge j k with q | q
 ·exact u i j hij q
 have : j = k:=by exact xs64 ‹_› ‹_›
 subst this
 rcases Nat.lt_or_ge i (j - 1) with q' | q'
 ·exact S.trans _ _ _ (h.below (by exact xs87 ‹_› ‹_›)) (h.below (by exact xs97 ‹_›)) (h.below hn) (u i (j - 1) q' (by exact xs8 ‹_›)) hl
 have : i = j - 1:=by exact xs64 ‹_› ‹_›
 subst this;exact hl
theorem Down.succ (S : Strict lt n) {p : Array Nat} (h : Whole n p) {k : Nat} (u : Down lt p k) (hk : 1 ≤ k) (hn : k < n) (hl : lt (p.getD k 0) (p.getD (k - 1) 0) = true) : Down lt p (k + 1):=fun i j hij hj => by
 rcases Nat.lt_or_ge j k with q | q
 ·exact u i j hij q
 have : j = k:=by exact xs64 ‹_› ‹_›
 subst this
 rcases Nat.lt_or_ge i (j - 1) with q' | q'
 ·exact S.trans _ _ _ (h.below hn) (h.below (by exact xs97 ‹_›)) (h.below (by exact xs87 ‹_› ‹_›)) hl (u i (j - 1) q' (by exact xs8 ‹_›))
 have : i = j - 1:=by exact xs64 ‹_› ‹_›
 subst this;exact hl
noncomputable def Asks (lt : Nat → Nat → Bool) (n : Nat) (cmp : Nat → Nat → (Bool → Shared → Prop) → Shared → Prop) (s : Shared) : Prop:=∀ i j (C : Bool → Shared → Prop),i < n → j < n → i ≠ j → C (lt i j) s → cmp i j C s
theorem asc_wp (S : Strict lt n) (H : Asks lt n cmp s) {p : Array Nat} (h : Whole n p) : ∀ (f k : Nat) {G : Nat → Shared → Prop},1 ≤ k → k + f ≤ n → Up lt p k → (∀ m,k ≤ m → m ≤ k + f → Up lt p m → (m < k + f → lt (p.getD m 0) (p.getD (m - 1) 0) = true) → G m s) → (kas_asc p f k).kasWp cmp G s
 | 0,k,G,h1,h2,u,g => g k (Nat.le_refl _) (Nat.le_refl _) u fun q => by lia
 | f + 1,k,G,h1,h2,u,g => by
  refine H _ _ _ (h.below (by lia)) (h.below (by exact xs60 ‹_›)) (h.ne (by lia) (by exact xs60 ‹_›) (by exact xs22 ‹_›)) ?_
  dsimp only
  cases c : lt (p.getD k 0) (p.getD (k - 1) 0) with
  | true => exact g k (Nat.le_refl _) (by lia) u fun _ => c
  | false =>
   have hl:=S.total _ _ (h.below (i:=k) (by lia)) (h.below (i:=k - 1) (by exact xs60 ‹_›)) (h.ne (by lia) (by exact xs60 ‹_›) (by exact xs22 ‹_›)) c
   exact asc_wp S H h f (k + 1) (by exact xs91b ‹_›) (by lia) (u.succ S h h1 (by lia) hl) fun m a b u' e => g m (by exact xs88 ‹_›) (by lia) u' fun q => e (by lia)
theorem desc_wp (S : Strict lt n) (H : Asks lt n cmp s) {p : Array Nat} (h : Whole n p) : ∀ (f k : Nat) {G : Array Nat × Nat × Nat → Shared → Prop},1 ≤ k → k + f ≤ n → Down lt p k → (∀ m,k ≤ m → m ≤ k + f → Down lt p m → G (p,m,0) s) → (kas_desc f p k 0).kasWp cmp G s
 | 0,k,G,h1,h2,u,g => g k (Nat.le_refl _) (Nat.le_refl _) u
 | f + 1,k,G,h1,h2,u,g => by
  refine H _ _ _ (h.below (by lia)) (h.below (by exact xs60 ‹_›)) (h.ne (by lia) (by exact xs60 ‹_›) (by exact xs22 ‹_›)) ?_
  dsimp only
  cases c : lt (p.getD k 0) (p.getD (k - 1) 0) with
  | true => exact desc_wp S H h f (k + 1) (by exact xs91b ‹_›) (by lia) (u.succ S h h1 (by lia) c) fun m a b u' => g m (by exact xs88 ‹_›) (by lia) u'
  | false =>
   have hl:=S.total _ _ (h.below (i:=k) (by lia)) (h.below (i:=k - 1) (by exact xs60 ‹_›)) (h.ne (by lia) (by exact xs60 ‹_›) (by exact xs22 ‹_›)) c
   refine H _ _ _ (h.below (by exact xs60 ‹_›)) (h.below (by lia)) (h.ne (by exact xs60 ‹_›) (by lia) (by exact xs67 ‹_›)) ?_
   dsimp only
   rw [hl]
   exact g k (Nat.le_refl _) (by lia) u
theorem getD_eq (p : Array Nat) (i : Nat) : p.getD i 0 = (p[i]?).getD 0:=by
 by_cases h : i < p.size <;> simp [Array.getD,h]
theorem rev_up {p : Array Nat} {k : Nat} (hk : k ≤ p.size) (d : Down lt p k) : Up lt (kas_rev p 0 k) k:=fun i j hij hj => by
 have e : ∀ x,x < k → (kas_rev p 0 k).getD x 0 = p.getD (k - 1 - x) 0:=fun x hx => by
  rw [getD_eq,getD_eq]
  unfold kas_rev
  rw [getElem?_mirror hk _ (by lia)]
  by_cases q : (0 ≤ x ∧ x < 0 + (k - 0) / 2) ∨ (k - (k - 0) / 2 ≤ x ∧ x < k)
  ·rw [if_pos q,Nat.zero_add]
  rw [if_neg q]
  have q3 : x + k / 2 < k:=Nat.add_lt_of_lt_sub (Nat.lt_of_not_le fun h => q (.inr ⟨h,hx⟩))
  have q1 : ¬ x < k / 2:=fun h => q (.inl ⟨Nat.zero_le _,by rw [Nat.zero_add];exact h⟩)
  have q4 : x + x + 1 = k:=by clear q;lia
  have : x = k - 1 - x:=by rw [← q4];exact (Nat.add_sub_cancel_left x x).symm
  rw [← this]
 rw [e i (by exact xs86 ‹_› ‹_›),e j hj]
 exact d _ _ (by exact xs38 ‹_› ‹_›) (by exact xs38b ‹_› ‹_›)
theorem count_wp (S : Strict lt n) (H : Asks lt n cmp s) {p : Array Nat} (h : Whole n p) (hn : 2 ≤ n) {G : Nat × Array Nat → Shared → Prop} (g : ∀ m p',1 ≤ m → m ≤ n → Whole n p' → Up lt p' m → G (m,p') s) : (kas_count n p).kasWp cmp G s:=by
 have one : Up lt p 1:=fun i j hij hj => by lia
 unfold kas_count
 rw [KasT.kasWp_bind]
 refine asc_wp S H h _ 1 (Nat.le_refl _) (by lia) one fun m a b u e => ?_
 by_cases hm : (m == n) = true
 ·rw [if_pos hm]
  exact g m p a (by have:=eq_of_beq hm;lia) h u
 have hmn : m < n:=by have : m ≠ n:=fun q => hm (by simp [q]);exact xs55 ‹_› ‹_› ‹_›
 rw [if_neg hm]
 by_cases h1 : m > 1
 ·rw [if_pos h1]
  refine H _ _ _ (h.below (by exact xs86 ‹_› ‹_›)) (h.below (by exact xs97 ‹_›)) (h.ne (by exact xs86 ‹_› ‹_›) (by exact xs97 ‹_›) (by exact xs63 ‹_›)) ?_
  dsimp only
  rw [u 0 (m - 1) (by exact xs15 ‹_›) (by exact xs8 ‹_›)]
  exact g m p a (by exact xs88 ‹_›) h u
 rw [if_neg h1]
 have hm1 : m = 1:=by lia
 subst hm1
 have d2 : Down lt p 2:=fun i j hij hj => by
  have e1 : i = 0:=by lia
  have e2 : j = 1:=by lia
  subst e1;subst e2
  exact e (by exact xs68 ‹_›)
 unfold kas_descPart
 rw [KasT.kasWp_bind]
 refine desc_wp S H h _ 2 (by exact xs91b ‹_›) (by exact xs19 ‹_›) d2 fun m' a' b' d => ?_
 dsimp only
 rw [if_neg (by lia)]
 unfold kas_tail3
 rw [KasT.kasWp_bind]
 have hw : Whole n (kas_rev p 0 m'):=h.of (mirror_perm _ _ _ _)
 refine asc_wp S H hw _ m' (by exact xs87 ‹_› ‹_›) (by exact xs19c ‹_› ‹_›) (rev_up (by rw [h.size];exact xs19b ‹_› ‹_›) d) fun m'' a'' b'' u'' _ => ?_
 exact g m'' _ (by lia) (by exact xs19d ‹_› ‹_› ‹_›) hw u''
theorem place_wp (S : Strict lt n) (H : Asks lt n cmp s) {p : Array Nat} (h : Whole n p) {k : Nat} (hk : k < n) (u : Up lt p k) : ∀ (f l r : Nat) {G : Nat → Shared → Prop},l ≤ r → r ≤ k → r - l ≤ f → (∀ i,i < l → lt (p.getD i 0) (p.getD k 0) = true) → (∀ i,r ≤ i → i < k → lt (p.getD k 0) (p.getD i 0) = true) →
  (∀ m,m ≤ k → (∀ i,i < m → lt (p.getD i 0) (p.getD k 0) = true) → (∀ i,m ≤ i → i < k → lt (p.getD k 0) (p.getD i 0) = true) → G m s) → (kas_place p k f l r).kasWp cmp G s
 | 0,l,r,G,h1,h2,h3,a,b,g => g l (by exact xs82 ‹_› ‹_›) a fun i q => b i (by exact xs32 ‹_› ‹_›)
 | f + 1,l,r,G,h1,h2,h3,a,b,g => by
  unfold kas_place
  by_cases q : l ≥ r
  ·rw [if_pos q];exact g l (by exact xs82 ‹_› ‹_›) a fun i q' => b i (by exact xs82 ‹_› ‹_›)
  rw [if_neg q]
  have hm : (l + r) / 2 < r:=by exact xs72b ‹_›
  have hm' : l ≤ (l + r) / 2:=by exact xs72 ‹_›
  generalize (l + r) / 2 = md at hm hm'
  refine H _ _ _ (h.below hk) (h.below (by lia)) (h.ne hk (by lia) (by lia)) ?_
  dsimp only
  cases c : lt (p.getD k 0) (p.getD md 0) with
  | true =>
   refine place_wp S H h hk u f l md hm' (by lia) (by exact xs7b ‹_› ‹_›) a (fun i q1 q2 => ?_) g
   rcases Nat.lt_or_ge md i with q3 | q3
   ·exact S.trans _ _ _ (h.below hk) (h.below (by lia)) (h.below (by exact xs86 ‹_› ‹_›)) c (u md i q3 q2)
   have : i = md:=by lia
   subst this;exact c
  | false =>
   have hl:=S.total _ _ (h.below hk) (h.below (i:=md) (by lia)) (h.ne hk (by lia) (by lia)) c
   refine place_wp S H h hk u f (md + 1) r ‹_› h2 (by exact xs7 ‹_› ‹_›) (fun i q1 => ?_) b g
   rcases Nat.lt_or_ge i md with q3 | q3
   ·exact S.trans _ _ _ (h.below (by lia)) (h.below (by lia)) (h.below hk) (u i md q3 (by exact xs80 ‹_› ‹_›)) hl
   have : i = md:=by exact xs64 ‹_› ‹_›
   subst this;exact hl
theorem bubble_up {p : Array Nat} {k l : Nat} (hk : k < p.size) (hl : l ≤ k) (u : Up lt p k) (a : ∀ i,i < l → lt (p.getD i 0) (p.getD k 0) = true) (b : ∀ i,l ≤ i → i < k → lt (p.getD k 0) (p.getD i 0) = true) : Up lt (bubble p k (k - l)) (k + 1):=fun i j hij hj => by
 have e : ∀ x,(bubble p k (k - l)).getD x 0 = if x = l then p.getD k 0 else if l < x ∧ x ≤ k then p.getD (x - 1) 0 else p.getD x 0:=fun x => by
  rw [getD_eq,getElem?_bubble hk _ (by exact xs28)]
  have : k - (k - l) = l:=by exact xs30 ‹_›
  rw [this]
  rw [getD_eq p k,getD_eq p (x - 1),getD_eq p x]
  split
  ·rfl
  split <;> rfl
 rw [e i,e j]
 by_cases hi : i = l
 ·rw [if_pos hi,if_neg (by lia),if_pos (by lia)]
  exact b (j - 1) (by exact xs78 ‹_› ‹_›) (by exact xs39 ‹_› ‹_›)
 rw [if_neg hi]
 by_cases hj' : j = l
 ·rw [if_pos hj',if_neg (by lia)]
  exact a i (by exact xs94f ‹_› ‹_›)
 rw [if_neg hj']
 by_cases h1 : l < i ∧ i ≤ k
 ·rw [if_pos h1,if_pos (by lia)]
  exact u _ _ (by exact xs39b ‹_› ‹_›) (by exact xs39 ‹_› ‹_›)
 rw [if_neg h1]
 by_cases h2 : l < j ∧ j ≤ k
 ·rw [if_pos h2]
  exact u _ _ (by lia) (by exact xs39 ‹_› ‹_›)
 rw [if_neg h2]
 exact u _ _ hij (by lia)
theorem bin_wp (S : Strict lt n) (H : Asks lt n cmp s) : ∀ (f : Nat) (p : Array Nat) (k : Nat) {G : Array Nat → Shared → Prop},Whole n p → 1 ≤ k → k + f = n → Up lt p k → (∀ p',Whole n p' → Up lt p' n → G p' s) → (kas_bin f p k).kasWp cmp G s
 | 0,p,k,G,h,h1,h2,u,g => g p h (by have : k = n:=(by assumption);subst this;exact u)
 | f + 1,p,k,G,h,h1,h2,u,g => by
  unfold kas_bin
  rw [KasT.kasWp_bind]
  refine place_wp S H h (by lia) u k 0 k (Nat.zero_le _) (Nat.le_refl _) (by exact xs28) (fun i q => by lia) (fun i q q' => by lia) fun m hm a b => ?_
  exact bin_wp S H f _ (k + 1) (h.of (bubble_perm _ _ _)) (by exact xs91b ‹_›) (by lia) (bubble_up (by rw [h.size];lia) hm u a b) g
theorem sort_wp (S : Strict lt n) (H : Asks lt n cmp s) (hn : 2 ≤ n) {G : Array Nat → Shared → Prop} (g : ∀ p,Whole n p → Up lt p n → G p s) : (kas_sort n).kasWp cmp G s:=by
 unfold kas_sort
 rw [KasT.kasWp_bind]
 have h : Whole n (List.toArray (List.range n)):=⟨by simp⟩
 refine count_wp S H h hn fun m p a b hw u => ?_
 dsimp only
 by_cases q : m < n
 ·rw [if_pos q]
  have e : max m 1 = m:=by lia
  rw [e]
  exact bin_wp S H _ _ m hw a (by exact xs11 ‹_›) u g
 rw [if_neg q]
 have e : m = n:=by exact xs96 ‹_› ‹_›
 subst e
 exact g p hw u
end
section
variable {prog : Program} {w : World} {A : Around} {E : Value → Shared → Prop} {s : Shared} {ι : Sd} {h₀ : Heap} {L D : Addr} {σ : Sg} {m : Str → Option Value} {vs : List Value} {c : Nat}
theorem Own.ofNews1 {h' : Heap} {o : Obj} (O : Own ι h₀ L s.heap σ) (hD : ∃ oD,σ D = some oD) (N : News h₀ L h' ((D,o) :: (toL (del σ D) s.heap.objs.size ++ ι))) : Own ι h₀ L h' (upd σ D o):=by
 refine xe11 hD fun oD _ => ?_
 clear hD
 rename_i hD
 refine ⟨fun b x e => ?_,fun p hp => ?_⟩
 ·by_cases hb : b = D
  ·subst hb;rw [upd_self] at e;cases e;exact N _ (.head _)
  rw [upd_ne hb] at e
  exact N (b,x) (.tail _ (List.mem_append_left _ (mem_toL.mpr ⟨O.lt e,by unfold del;rw [if_neg hb];exact e⟩)))
 have hb : p.1 ≠ D:=fun z => by have:=(O.side p hp).2.2.2;rw [z,hD] at this;cases this
 refine xe03 (N p (.tail _ (List.mem_append_right _ hp))) fun a1 a2 a3 => ?_
 exact ⟨a1,a2,a3,by rw [upd_ne hb];exact (O.side p hp).2.2.2⟩
theorem sort_list {κ : SortKind} (lt : Nat → Nat → Bool) (F : Fr h₀ L s.heap m) (O : Own ι h₀ L s.heap σ) (hD : σ D = some (listOf vs.toArray c)) (h64 : vs.length < 64) (S : Strict lt vs.length)
  (hk : 2 ≤ vs.length → ∀ (s' : Shared) {P : SortKind → Shared → Prop},Ext (del σ D) s'.heap.get? → P κ s' → wpAny (model prog w) A.in1 (keyKind' vs.toArray) P (fun _ _ => False) s')
  (hl : ∀ (s' : Shared) (i j : Nat) {C : Bool → Shared → Prop},i < vs.length → j < vs.length → i ≠ j → Ext (del σ D) s'.heap.get? → C (lt i j) s' → wpAny (model prog w) A.in1 (keyLt' κ (vs.getD i .none) (vs.getD j .none)) C (fun _ _ => False) s')
  {Q : Value → Shared → Prop} (h : ∀ s' p c',Whole vs.length p → Up lt p vs.length → Same s s' → Fr h₀ L s'.heap m → Own ι h₀ L s'.heap (upd σ D (listOf (p.toList.map fun i => vs.getD i .none).toArray c')) → Q .none s') :
  wpAny (model prog w) A (call (.builtin "list.sort") [.ref D]) Q E s:=by
 refine xe03 (O.cell _ _ hD) fun g1 g2 g3 => ?_
 refine wpAny_call_entry slot_list_sort ⟨_,g1,rfl⟩ entry_list_sort ?_ (args_list_sort _)
 by_cases h2 : 2 ≤ vs.length
 ·refine kat_list_sort (news:=toL (del σ D) s.heap.objs.size ++ ι) F (fun p hp => ?_) g1 g2 g3 (fun p hp => ?_) h2 h64 fun e1 h' F' N' => ?_
  ·rcases List.mem_append.mp hp with hp | hp
   ·exact O.cell p.1 p.2 (del_ext σ D _ _ (mem_toL.mp hp).2)
   exact ⟨(O.side p hp).1,(O.side p hp).2.1,(O.side p hp).2.2.1⟩
  ·rcases List.mem_append.mp hp with hp | hp
   ·intro z
    have:=(mem_toL.mp hp).2
    rw [z] at this
    unfold del at this
    rw [if_pos rfl] at this
    cases this
   intro z
   have:=(O.side p hp).2.2.2
   rw [z,hD] at this;cases this
  have O':=O.ofNews1 ⟨_,hD⟩ N'
  have ex : Ext (del σ D) h'.get?:=fun b x e => O'.get (del_upd σ D _ _ _ e)
  refine hk h2 _ ex ?_
  refine sort_wp S (fun i j C hi hj hij hC => hl _ i j hi hj hij ex hC) h2 fun p hw u => ?_
  refine KasFin.intro F' N' (.head fun p hp => ?_) fun h'' c' F'' N'' => ⟨_,rfl,h _ p c' hw u ⟨rfl,rfl⟩ F'' (O.ofNews1 ⟨_,hD⟩ N'')⟩
  rcases List.mem_append.mp hp with hp | hp
  ·intro z
   have:=(mem_toL.mp hp).2
   rw [z] at this
   unfold del at this
   rw [if_pos rfl] at this
   cases this
  intro z
  have:=(O.side p hp).2.2.2
  rw [z,hD] at this;cases this
 have ha : D < s.heap.objs.size:=Heap.lt_size g1
 have hw : Whole vs.length (List.toArray (List.range vs.length)):=⟨by simp⟩
 have hmap : ((List.toArray (List.range vs.length)).toList.map fun i => vs.getD i .none) = vs:=by
  apply List.ext_getElem (by simp)
  intro i h1 h2
  simp at h1
  simp [h1]
 rw [list_sort_plain]
 refine wpAny_bind (listItems_at g1 rfl ?_)
 refine wpAny_bind (listUpdate_at g1 rfl ?_ (by rw [List.size_toArray,sizeLine_eq];lia) (Nat.zero_le _))
 obtain ⟨e1,ho1⟩ : ∃ e1,(s.heap.update D (Obj.mapSeq fun _ => (#[] : Array Value))).get? D = some (seqObj "list" #[] e1):=⟨_,get?_update_seq g1 fun _ => #[]⟩
 have F1:=frSet F O hD (Heap.SameBut.update s.heap D (Obj.mapSeq fun _ => (#[] : Array Value)))
 have O1:=O.set hD (Heap.SameBut.update s.heap D (Obj.mapSeq fun _ => (#[] : Array Value))) ho1
 refine wpAny_bind (seqEpoch_at ho1 rfl ?_)
 refine wpAny_bind (wpAny_newTuple ?_ (by show vs.length ≤ _;rw [sizeLine_eq];lia))
 refine wpAny_bind (wpAny_newList ?_ (Nat.zero_le _))
 refine wpAny_holding ?_
 have F2 : Fr h₀ L (((s.heap.update D (Obj.mapSeq fun _ => (#[] : Array Value))).push (seqObj "tuple" vs.toArray 0)).push (seqObj "list" #[] 0)) m:=(F1.push _).push _
 have O2 : Own ι h₀ L (((s.heap.update D (Obj.mapSeq fun _ => (#[] : Array Value))).push (seqObj "tuple" vs.toArray 0)).push (seqObj "list" #[] 0)) (upd σ D (seqObj "list" #[] e1)) :=
  O1.more fun b x e => Heap.get?_push_of_some _ (Heap.get?_push_of_some _ e)
 have ho6:=O2.get (upd_self ..)
 have hn2 : vs.toArray.size < 2:=by rw [List.size_toArray];exact xs77 ‹_›
 show wpAny (model prog w) A.in1 _ _ E { s with heap:=((s.heap.update D (Obj.mapSeq fun _ => (#[] : Array Value))).push (seqObj "tuple" vs.toArray 0)).push (seqObj "list" #[] 0) }
 dsimp only
 rw [if_pos hn2,if_pos hn2]
 refine wpAny_bind (wpAny_pure ?_)
 refine wpAny_bind (wpAny_pure ?_)
 dsimp only
 refine wpAny_bind (seqEpoch_at ho6 rfl ?_)
 have hout : (arrOf (SortSt.mk' general' (vs.toArray.zip vs.toArray) #[] 7 none)).map (·.2) = vs.toArray:=by
  show (vs.toArray.zip vs.toArray).map (·.2) = vs.toArray
  apply Array.ext (by simp)
  intro i h1 h2
  simp
 rw [hout]
 refine wpAny_bind (listUpdate_at ho6 rfl ?_ (Nat.zero_le _) (by rw [List.size_toArray,sizeLine_eq];lia))
 show wpAny _ _ (if (e1 != e1) = true then _ else _) _ _ _
 simp only [bne_self_eq_false,Bool.false_eq_true,if_false]
 obtain ⟨c2,hc2⟩ : ∃ c2,((((s.heap.update D (Obj.mapSeq fun _ => (#[] : Array Value))).push (seqObj "tuple" vs.toArray 0)).push (seqObj "list" #[] 0)).update D (Obj.mapSeq fun _ => vs.toArray)).get? D = some (seqObj "list" vs.toArray c2):=⟨_,get?_update_seq ho6 fun _ => vs.toArray⟩
 have hs2:=Heap.SameBut.update (((s.heap.update D (Obj.mapSeq fun _ => (#[] : Array Value))).push (seqObj "tuple" vs.toArray 0)).push (seqObj "list" #[] 0)) D (Obj.mapSeq fun _ => vs.toArray)
 have F3:=frSet F2 O2 (upd_self ..) hs2
 have O3:=O2.set (upd_self ..) hs2 hc2
 rw [upd_upd] at O3
 refine wpAny_pure ⟨_,rfl,h _ _ c2 hw (fun i j hij hj => by lia) ⟨rfl,rfl⟩ F3 ?_⟩
 rw [hmap];exact O3
end
noncomputable def lexLt : List Int → List Int → Bool
 | [],[] => false
 | [],_ :: _ => true
 | _ :: _,[] => false
 | x :: xs,y :: ys => if x = y then lexLt xs ys else decide (x < y)
theorem lex_c {x y : Int} {xs ys : List Int} : lexLt (x :: xs) (y :: ys) = if x = y then lexLt xs ys else decide (x < y):=rfl
theorem lex_trans : ∀ {a b c : List Int},lexLt a b = true → lexLt b c = true → lexLt a c = true
 | [],[],_,h,_ => absurd h Bool.false_ne_true
 | [],_ :: _,[],_,h => absurd h Bool.false_ne_true
 | [],_ :: _,_ :: _,_,_ => rfl
 | _ :: _,[],_,h,_ => absurd h Bool.false_ne_true
 | _ :: _,_ :: _,[],_,h => absurd h Bool.false_ne_true
 | x :: xs,y :: ys,z :: zs,h,k => by
  rw [lex_c] at h k ⊢
  by_cases e1 : x = y
  ·subst e1
   rw [if_pos rfl] at h
   by_cases e2 : x = z
   ·subst e2
    rw [if_pos rfl] at k ⊢
    exact lex_trans h k
   rw [if_neg e2] at k ⊢;exact k
  rw [if_neg e1] at h
  have h:=of_decide_eq_true h
  by_cases e2 : y = z
  ·subst e2
   rw [if_neg e1];exact decide_eq_true h
  rw [if_neg e2] at k
  have k:=of_decide_eq_true k
  rw [if_neg (by lia)]
  exact decide_eq_true (by exact xs50 ‹_› ‹_›)
theorem lex_asym : ∀ {a b : List Int},lexLt a b = true → lexLt b a = false
 | [],[],h => absurd h Bool.false_ne_true
 | [],_ :: _,_ => rfl
 | _ :: _,[],h => absurd h Bool.false_ne_true
 | x :: xs,y :: ys,h => by
  rw [lex_c] at h ⊢
  by_cases e1 : x = y
  ·subst e1
   rw [if_pos rfl] at h ⊢
   exact lex_asym h
  rw [if_neg e1] at h
  have h:=of_decide_eq_true h
  rw [if_neg (by lia)]
  exact decide_eq_false (by lia)
theorem lex_total : ∀ {a b : List Int},a ≠ b → lexLt a b = false → lexLt b a = true
 | [],[],h,_ => absurd rfl h
 | [],_ :: _,_,h => absurd h.symm Bool.false_ne_true
 | _ :: _,[],_,_ => rfl
 | x :: xs,y :: ys,hn,h => by
  rw [lex_c] at h ⊢
  by_cases e1 : x = y
  ·subst e1
   rw [if_pos rfl] at h ⊢
   exact lex_total (fun q => hn (by rw [q])) h
  rw [if_neg e1] at h
  have h:=of_decide_eq_false h
  rw [if_neg (by lia)]
  exact decide_eq_true (by exact xs79 ‹_› ‹_›)
theorem strict_of {K : Type} {S : List K} (lt : K → K → Bool) (ht : ∀ a b c,lt a b = true → lt b c = true → lt a c = true) (hs : ∀ a b,lt a b = true → lt b a = false) (hc : ∀ a b,a ≠ b → lt a b = false → lt b a = true) (nd : S.Nodup) (d : K) :
  Strict (fun i j => lt (S.getD i d) (S.getD j d)) S.length where
 trans i j k _ _ _ h1 h2:=ht _ _ _ h1 h2
 asym i j _ _ h:=hs _ _ h
 total i j hi hj hij h:=by
  refine hc _ _ (fun q => hij ?_) h
  have e1 : S.getD i d = S[i]:=by simp [hi]
  have e2 : S.getD j d = S[j]:=by simp [hj]
  rw [e1,e2] at q
  exact (List.getElem_inj nd).mp q
theorem order_out {K : Type} {S : List K} {lt : K → K → Bool} {p : Array Nat} {d : K} (hw : Whole S.length p) (u : Up (fun i j => lt (S.getD i d) (S.getD j d)) p S.length) :
  (p.toList.map fun i => S.getD i d).Perm S ∧ (p.toList.map fun i => S.getD i d).Pairwise fun a b => lt a b = true:=by
 constructor
 ·have e : (List.range S.length).map (fun i => S.getD i d) = S:=by
   apply List.ext_getElem (by simp)
   intro i h1 h2
   simp at h1
   simp [h1]
  have:=hw.perm.map fun i => S.getD i d
  rwa [e] at this
 rw [List.pairwise_iff_getElem]
 intro i j hi hj hij
 simp only [List.length_map,Array.length_toList] at hi hj
 have:=u i j hij (by rw [← hw.size];exact hj)
 have e1 : p.getD i 0 = p[i]:=by simp [Array.getD,hi]
 have e2 : p.getD j 0 = p[j]:=by simp [Array.getD,hj]
 rw [e1,e2] at this
 simpa using this
theorem all2_pick {α β : Type} {R : α → β → Prop} {S : List α} {vs : List β} (h : All2 R S vs) (d : α) (d' : β) : ∀ l : List Nat,(∀ i ∈ l,i < vs.length) → All2 R (l.map fun i => S.getD i d) (l.map fun i => vs.getD i d')
 | [],_ => .nil
 | i :: l,hi => by
  have h1:=hi i (.head _)
  have h2 : i < S.length:=by rw [h.length];exact h1
  have e1 : S.getD i d = S[i]:=by simp [h2]
  have e2 : vs.getD i d' = vs[i]:=by simp [h1]
  refine .cons ?_ (all2_pick h d d' l fun j hj => hi j (.tail _ hj))
  show R (S.getD i d) (vs.getD i d')
  rw [e1,e2]
  exact h.get (List.getElem?_eq_getElem h2) (List.getElem?_eq_getElem h1)
section
variable {prog : Program} {w : World} {A : Around} {E : Value → Shared → Prop} {s : Shared} {ι : Sd} {h₀ : Heap} {L D a : Addr} {σ : Sg} {m : Str → Option Value} {vs : List Value} {c : Nat} {S : List (List Int)} {ld : Prop}
noncomputable abbrev k1 (prog : Program) (w : World) : VK prog w (List Int):=tupV (intV prog w)
noncomputable abbrev k2 (prog : Program) (w : World) : VK prog w (List (List Int)):=tupV (k1 prog w)
theorem kat_lex {Q : Bool → Shared → Prop} {xs : List Int} {us : List Value} (g1 : All2 ((intV prog w).is s.heap.get?) xs us) : ∀ {ys : List Int} {ws : List Value} (i : Nat),All2 ((intV prog w).is s.heap.get?) ys ws → Q (lexLt xs ys) s → ∀ fin,(lexLt xs ys = fin ∨ ∃ i : Nat,i < us.length ∧ i < ws.length ∧ xs[i]? ≠ ys[i]?) → KatLex prog w A true fin Q (us.zip ws) i s:=by
 induction g1 with
 | nil =>
  intro ys ws i h2 h fin hf
  refine kat_nil ?_
  rcases hf with e | ⟨i,hi,_⟩
  ·rw [← e];exact h
  exact absurd hi (Nat.not_lt_zero _)
 | @cons x _ xs _ h1 t1 ih =>
  intro ys ws i g2 h fin hf
  cases g2 with
  | nil =>
   refine kat_nil ?_
   rcases hf with e | ⟨i,_,hi,_⟩
   ·rw [← e];exact h
   exact absurd hi (Nat.not_lt_zero _)
  | @cons y _ ys _ h2 t2 =>
   refine xe11 h1 fun t zq1 => ?_
   try clear h1
   subst zq1
   refine xe11 h2 fun u zq2 => ?_
   try clear h2
   subst zq2
   refine kat_cons (wpAny_eqBool_int ?_)
   by_cases e : x = y
   ·subst e
    rw [beq_self_eq_true]
    refine kat_yes (ih (i + 1) t2 (by rw [lex_c,if_pos rfl] at h;exact h) fin ?_)
    rcases hf with e | ⟨j,hj1,hj2,hj3⟩
    ·rw [lex_c,if_pos rfl] at e;exact .inl e
    cases j with
    | zero => exact absurd rfl hj3
    | succ j => exact .inr ⟨j,Nat.lt_of_succ_lt_succ hj1,Nat.lt_of_succ_lt_succ hj2,hj3⟩
   rw [beq_false_of_ne e]
   refine kat_no ?_
   have hq : Q (decide (x < y)) s:=by rw [lex_c,if_neg e] at h;exact h
   cases hi : (true && i == 0) with
   | true => exact oneLt_int hq
   | false => exact kat_one _ _ (lt_int hq)
theorem lex_fin : ∀ (xs ys : List Int),lexLt xs ys = decide (xs.length < ys.length) ∨ ∃ i : Nat,i < xs.length ∧ i < ys.length ∧ xs[i]? ≠ ys[i]?
 | [],[] => .inl rfl
 | [],_ :: _ => .inl rfl
 | _ :: _,[] => .inl rfl
 | x :: xs,y :: ys => by
  by_cases e : x = y
  ·subst e
   rcases lex_fin xs ys with h | ⟨i,h1,h2,h3⟩
   ·left;rw [lex_c,if_pos rfl,h];simp
   exact .inr ⟨i + 1,by simpa using h1,by simpa using h2,by simpa using h3⟩
  exact .inr ⟨0,by simp,by simp,by simpa using e⟩
theorem sort_tups (F : Fr h₀ L s.heap m) (O : Own ι h₀ L s.heap σ) (hD : σ D = some (listOf vs.toArray c)) (hall : All2 ((k1 prog w).is σ) S vs) (hne : ∀ k ∈ S,k ≠ []) (nd : S.Nodup) (h64 : vs.length < 64) {Q : Value → Shared → Prop}
  (h : ∀ s' S' vs' c',Same s s' → Fr h₀ L s'.heap m → Own ι h₀ L s'.heap (upd σ D (listOf vs'.toArray c')) → S'.Perm S → S'.Pairwise (fun a b => lexLt a b = true) → All2 ((k1 prog w).is σ) S' vs' → Q .none s') :
  wpAny (model prog w) A (call (.builtin "list.sort") [.ref D]) Q E s:=by
 have hlen:=hall.length
 have tx : TX σ (del σ D):=fun b o e hc => by
  unfold del
  rw [if_neg fun z => by rw [z,hD] at e;cases e;simp at hc]
  exact e
 have hall' : All2 ((k1 prog w).is (del σ D)) S vs:=hall.imp fun _ _ r => (k1 prog w).mono tx r
 refine sort_list (κ:=tuples' true) (fun i j => lexLt (S.getD i []) (S.getD j [])) F O hD h64 (hlen ▸ strict_of lexLt (fun _ _ _ => lex_trans) (fun _ _ => lex_asym) (fun _ _ => lex_total) nd []) (fun h2 s' P ex hP => ?_) (fun s' i j C hi hj hij ex hC => ?_) fun s' p c' hw u q F' O' => ?_
 ·have tups : ∀ {S : List (List Int)} {vs : List Value},(∀ k ∈ S,k ≠ []) → All2 ((k1 prog w).is (del σ D)) S vs → ∃ fs,KatTups s'.heap vs fs ∧ fs.length = vs.length ∧ ∀ f ∈ fs,∃ i t,f = Value.int i t:=by
   intro S vs hne hall
   induction hall with
   | nil => exact ⟨[],KatTups.nil,rfl,fun _ h => by cases h⟩
   | @cons k v S vs r _ ih =>
    refine xe13 (ih fun k hk => hne k (.tail _ hk)) fun fs t1 t2 t3 => ?_
    refine xe33 r fun a items n zq3 ho hi => ?_
    try clear r
    subst zq3
    have hk:=hne k (.head _)
    obtain ⟨items⟩:=items
    cases hi with
    | nil => exact absurd rfl hk
    | @cons i u _ _ r1 _ =>
     refine xe11 r1 fun t zq4 => ?_
     try clear r1
     subst zq4
     refine ⟨_ :: fs,KatTups.cons (ex _ _ ho) rfl rfl (by simp;rfl) t1,by simp [t2],fun f hf => ?_⟩
     rcases List.mem_cons.mp hf with rfl | hf
     ·exact ⟨_,_,rfl⟩
     exact t3 f hf
  refine xe13 (tups hne hall') fun fs t1 t2 t3 => ?_
  refine kat_kind (T:=.type "int") t1 (by lia) (fun v hv => ?_) (by decide) ?_
  ·refine xe21 (t3 v hv) fun i t zq5 => ?_
   subst zq5
   exact Looks.of_pure rfl
  exact hP
 ·have hi' : i < S.length:=by exact xs94e ‹_› ‹_›
  have hj' : j < S.length:=by exact xs94e ‹_› ‹_›
  have ei:=hall'.get (List.getElem?_eq_getElem hi') (List.getElem?_eq_getElem hi)
  have ej:=hall'.get (List.getElem?_eq_getElem hj') (List.getElem?_eq_getElem hj)
  have a1 : S.getD i [] = S[i]:=by simp [hi']
  have a2 : S.getD j [] = S[j]:=by simp [hj']
  have a3 : vs.getD i .none = vs[i]:=by simp [hi]
  have a4 : vs.getD j .none = vs[j]:=by simp [hj]
  rw [a1,a2] at hC
  rw [a3,a4]
  refine xe33 ei fun x xi nx e1 ox hx => ?_
  try clear ei
  refine xe33 ej fun y yi ny e2 oy hy => ?_
  try clear ej
  rw [e1,e2]
  refine kat_lt (ex _ _ ox) rfl (ex _ _ oy) rfl ?_
  refine kat_lex (hx.imp fun _ _ r => r) 0 (hy.imp fun _ _ r => r) hC _ ?_
  have l1 : S[i].length = xi.size:=hx.length.trans Array.length_toList
  have l2 : S[j].length = yi.size:=hy.length.trans Array.length_toList
  rcases lex_fin S[i] S[j] with q | ⟨k,q1,q2,q3⟩
  ·left;rw [q,l1,l2]
  exact .inr ⟨k,by rw [Array.length_toList];exact xs94f ‹_› ‹_›,by rw [Array.length_toList];exact xs94f ‹_› ‹_›,q3⟩
 rw [← hlen] at hw u
 refine xe02 (order_out hw u) fun o1 o2 => ?_
 refine h s' _ _ c' q F' O' o1 o2 (all2_pick hall [] .none p.toList fun i hi => ?_)
 rw [← hlen]
 exact List.mem_range.mp (hw.perm.mem_iff.mp hi)
theorem ssorted (hh : A.handled = none) (F : Fr h₀ L s.heap m) (O : Own ι h₀ L s.heap σ) (hS : SetAt ld (k1 prog w) σ a S) (hne : ∀ k ∈ S,k ≠ []) (h64 : S.length < 64) {Q : Value → Shared → Prop}
  (h : ∀ s' D S' vs c,σ D = none → Same s s' → Fr h₀ L s'.heap m → Own ι h₀ L s'.heap (upd σ D (listOf vs.toArray c)) → S'.Perm S → S'.Pairwise (fun a b => lexLt a b = true) → All2 ((k1 prog w).is σ) S' vs → Q (.ref D) s') :
  wpAny (model prog w) A (call (.builtin "sorted") [.ref a]) Q E s:=by
 refine Calls.call_function_entry kind_sorted plain_sorted entry_sorted (args_sorted1 _) ?_
 refine wpAny_bind (m:=checkCount "sorted" 1 1 _) (wpAny_pure ?_)
 refine wpAny_bind (scollect (A:=A.in1) hh F O hS fun s₁ S₁ vs q₁ F₁ O₁ p₁ a₁ l₁ => ?_)
 refine wpAny_bind (wpAny_newList ?_ (by rw [sizeLine_eq];lia))
 have hl : σ s₁.heap.objs.size = none:=O₁.fresh (Nat.le_refl _)
 have O₂:=O₁.push F₁ (listOf vs.toArray 0)
 have F₂ : Fr h₀ L (s₁.heap.push (listOf vs.toArray 0)) m:=F₁.push _
 refine wpAny_bind (wpAny_holding ?_)
 refine sort_tups (s:={ s₁ with heap:=s₁.heap.push (listOf vs.toArray 0) }) (S:=S₁) F₂ O₂ (upd_self ..) (a₁.imp fun _ _ r => (k1 prog w).mono (fresh_tx hl) r) (fun k hk => hne k (p₁.mem_iff.mp hk)) (p₁.nodup_iff.mpr hS.nd) (by exact xs94b ‹_› ‹_›) fun s₃ S₃ vs₃ c₃ q₃ F₃ O₃ p₃ w₃ a₃ => ?_
 rw [upd_upd] at O₃
 refine wpAny_pure ⟨_,rfl,h s₃ _ S₃ vs₃ c₃ hl (q₁.trans ⟨q₃.1,q₃.2⟩) F₃ O₃ (p₃.trans p₁) w₃ (a₃.imp fun _ _ r => (k1 prog w).mono (fun b o e hc => ?_) r)⟩
 by_cases hb : b = s₁.heap.objs.size
 ·subst hb;rw [upd_self] at e;cases e;simp at hc
 rw [upd_ne hb] at e;exact e
end
noncomputable abbrev set0 (w : World) : Obj:={ cls:=.type "set",dict:=none,data:=.set #[] 0 (.fresh 0 0 (!byText w)) }
section
variable {prog : Program} {w : World} {A : Around} {E : Value → Shared → Prop} {s : Shared}
theorem code_set_made {args : List Value} (hn : checkBuiltinCall "set.__new__" ⟨.type "set" :: args,[]⟩ = pure ()) {Q₁ : Value → Shared → Prop}
  (h : Q₁ (.ref s.heap.objs.size) { s with heap:=s.heap.push (set0 w) }) :
  codeAny (model prog w) A (.call (.builtin "set.__new__") ⟨.type "set" :: args,[]⟩) (wants Q₁ E) s:=by
 refine codeAny_of_tree ?_
 show wpAny _ A.in1 (do checkBuiltinCall "set.__new__" ⟨.type "set" :: args,[]⟩;again (.builtin "set.__new__" ⟨.type "set" :: args,[]⟩)) _ _ s
 refine wpAny_bind (wpAny_of_eq hn (wpAny_pure ⟨plainId_quiet PySem.F.plain_set_new _,codeAny_builtin PySem.F.entry_set_new ?_⟩))
 unfold Builtin.«set.__new__» Builtin.Frozenset.newClass
 have hsub:=sub_set_self
 obtain ⟨hp,g,d,tk,os⟩:=s
 wp_walk
 refine wpAny_askSetting (wpAny_pure ?_)
 dsimp only
 refine wpAny_bind (wpAny_alloc (wpAny_pure ?_))
 exact wpAny_pure h
set_option maxHeartbeats 1000000 in
theorem call_set_any {args : List Value} (hct : checkTypeCall "set" ⟨args,[]⟩ = pure ()) (hn : checkBuiltinCall "set.__new__" ⟨.type "set" :: args,[]⟩ = pure ()) {Q : Value → Shared → Prop}
  (hci : ∀ {B : Around} {E' : Value → Shared → Prop} {s' : Shared} {P : Unit → Shared → Prop},s'.TypeIs (.ref s.heap.objs.size) "set" → P () s' → wpAny (model prog w) B (checkBuiltinCall "set.__init__" ⟨.ref s.heap.objs.size :: args,[]⟩) P E' s')
  (hb : wpAny (model prog w) A.in1.in1 (Builtin.«set.__init__» ⟨.ref s.heap.objs.size :: args,[]⟩) (fun fin s' => fin = .done (.ret .none) ∧ Q (.ref s.heap.objs.size) s') (fun _ _ => False) { s with heap:=s.heap.push (set0 w) }) :
  wpAny (model prog w) A (call (.type "set") args) Q E s:=by
 refine xe21 PySem.F.called_set.mro fun c tl hmro => ?_
 have hmade:=PySem.F.called_set.made
 have hsub:=PySem.F.called_set.sub
 refine wpAny_call (codeAny_of_tree ?_)
 refine wpAny_pure ⟨Code.quiet_builtin _ (by decide +kernel),codeAny_builtin PySem.F.entry_type_call ?_⟩
 rw [Around.under_plain (weight_type_call_type "set" args []) rfl]
 have h1:=PySem.F.called_set.notType
 have h2:=PySem.F.called_set.canCreate
 repeat (any_goals (first | assumption | wp_step))
 refine codeAny_mono (code_set_made (E:=E) hn (Q₁:=fun obj s₁ => obj = .ref s.heap.objs.size ∧ s₁ = { s with heap:=s.heap.push (set0 w) }) ⟨rfl,rfl⟩) fun r s₁ hr => ?_
 cases r with
 | error e => exact hr
 | ok fl =>
  cases fl with
  | ret obj =>
   refine xe02 hr fun zq1 zq2 => ?_
   try clear hr
   subst zq1
   subst zq2
   have hS : (s.heap.push (set0 w)).get? s.heap.objs.size = some (set0 w):=Heap.get?_push_size _ rfl
   have hT : Shared.TypeIs { s with heap:=s.heap.push (set0 w) } (.ref s.heap.objs.size) "set":=⟨_,hS,rfl⟩
   have hli:=PySem.F.called_set.init.lookup
   have hbi:=PySem.F.called_set.init.bind (.ref s.heap.objs.size)
   repeat (any_goals (first | assumption | wp_step))
   refine codeAny_mono (codeAny_call_builtin (R:=wants (fun r s₂ => r = .none ∧ Q (.ref s.heap.objs.size) s₂) E) PySem.F.called_set.init.plain PySem.F.entry_set_init (hci hT ?_)) fun r₂ s₂ hr₂ => ?_
   ·refine wpAny_mono hb (fun fin s' hf => ?_) fun _ _ e => e.elim
    refine xe02 hf fun zq3 hq => ?_
    try clear hf
    subst zq3
    exact ⟨rfl,hq⟩
   cases r₂ with
   | error e => exact hr₂
   | ok fl₂ =>
    cases fl₂ with
    | ret r =>
     refine xe02 hr₂ fun zq4 hq => ?_
     try clear hr₂
     subst zq4
     repeat (any_goals (first | assumption | wp_step))
    | _ => exact hr₂.elim
  | _ => exact hr.elim
end
section
variable {prog : Program} {w : World} {K : Type} [DecidableEq K] {kd : VK prog w K} {A : Around} {E : Value → Shared → Prop} {s : Shared} {ι : Sd} {h₀ : Heap} {L a l : Addr} {σ : Sg} {m : Str → Option Value} {k : K} {x : Value} {c : Nat}
theorem upd_comm {σ : Sg} {a b : Addr} (h : a ≠ b) (o o' : Obj) : upd (upd σ a o) b o' = upd (upd σ b o') a o:=by
 funext z
 unfold upd
 by_cases h1 : z = a
 ·subst h1;simp [h]
 simp [h1]
theorem set0_in (kd : VK prog w K) {σ : Sg} {b : Addr} : SetIn kd (upd σ b (set0 w)) b []:=by
 refine ⟨⟨#[],0,_,upd_self ..,fresh_laid 0 0 _,.nil,?_,(by show (7 : Nat) ≤ 8191;decide),fun _ => by show 5 * 0 < 3 * 7;decide⟩,.nil⟩
 show (!(byText w)) = true ∨ byText w = true
 cases byText w <;> simp
theorem snew0 (F : Fr h₀ L s.heap m) (O : Own ι h₀ L s.heap σ) {Q : Value → Shared → Prop}
  (h : ∀ s' b,σ b = none → Same s s' → Fr h₀ L s'.heap m → Own ι h₀ L s'.heap (upd σ b (set0 w)) → Q (.ref b) s') :
  wpAny (model prog w) A (call (.type "set") []) Q E s:=by
 have hl : σ s.heap.objs.size = none:=O.fresh (Nat.le_refl _)
 refine call_set_any PySem.F.typeCall_set_0 PySem.F.newCall_set_0 (fun hT hP => check_set_init hT hP) ?_
 have hQ:=h { s with heap:=s.heap.push (set0 w) } s.heap.objs.size hl ⟨rfl,rfl⟩ (F.push _) (O.push F (set0 w))
 have hS : (s.heap.push (set0 w)).get? s.heap.objs.size = some (set0 w):=Heap.get?_push_size _ rfl
 have hT : Shared.TypeIs { s with heap:=s.heap.push (set0 w) } (.ref s.heap.objs.size) "set":=⟨_,hS,rfl⟩
 clear h F O
 wp_walk
 exact ⟨rfl,hQ⟩
theorem Own.less {σ' : Sg} {h : Heap} (O : Own ι h₀ L h σ) (e : Ext σ' σ) : Own ι h₀ L h σ' :=
 ⟨fun a o q => O.cell a o (e a o q),fun p hp => ⟨(O.side p hp).1,(O.side p hp).2.1,(O.side p hp).2.2.1,by
  cases q : σ' p.1 with
  | none => rfl
  | some o => have:=e _ _ q;rw [(O.side p hp).2.2.2] at this;cases this⟩⟩
theorem Own.but {I : Addr} {o : Obj} {h h' : Heap} (O : Own ι h₀ L h σ) (e : σ I = some o) (k : Heap.ExtBut I h h') : Own ι h₀ L h' (del σ I) :=
 ⟨fun a o' q => by
  have hne : a ≠ I:=fun z => by unfold del at q;rw [if_pos z] at q;cases q
  have q':=del_ext σ I _ _ q
  exact ⟨k a o' hne (O.get q'),(O.cell a o' q').2⟩,fun p hp => by
  refine xe04 (O.side p hp) fun p1 p2 p3 p4 => ?_
  have hne : p.1 ≠ I:=fun z => by rw [z,e] at p4;cases p4
  exact ⟨k _ _ hne p1,p2,p3,by unfold del;rw [if_neg hne];exact p4⟩⟩
theorem frBut {I : Addr} {o : Obj} {h h' : Heap} (F : Fr h₀ L h m) (O : Own ι h₀ L h σ) (e : σ I = some o) (k : Heap.ExtBut I h h') : Fr h₀ L h' m:=by
 refine xe32 F.ns fun oL es ep hL r => ?_
 refine ⟨⟨oL,es,ep,k L oL (fun q => (O.cell I o e).2.1 q.symm) hL,r⟩,fun b x q => k b x (fun z => ?_) (F.keep b x q),F.above⟩
 subst z;rw [(O.cell _ _ e).2.2] at q;cases q
set_option maxHeartbeats 1000000 in
theorem sfrom1 (hh : A.handled = none) (hd : kd.dep ≤ 8) (hr : Refs kd) (hu : A.units + 9 + kd.dep < cLine) (F : Fr h₀ L s.heap m) (O : Own ι h₀ L s.heap σ) (hl : σ l = some (listOf #[x] c)) (hx : kd.is σ k x) {Q : Value → Shared → Prop}
  (h : ∀ s' b o,σ b = none → Same s s' → Fr h₀ L s'.heap m → Own ι h₀ L s'.heap (upd σ b o) → SetIn kd (upd σ b o) b [k] → Q (.ref b) s') :
  wpAny (model prog w) A (call (.type "set") [.ref l]) Q E s:=by
 have hb : σ s.heap.objs.size = none:=O.fresh (Nat.le_refl _)
 refine call_set_any (PySem.F.typeCall_set_1 _) (PySem.F.newCall_set_1 _) (fun hT hP => check_set_init_1 hT hP) ?_
 have F₁ : Fr h₀ L (s.heap.push (set0 w)) m:=F.push _
 have O₁:=O.push F (set0 w)
 have hlb : l ≠ s.heap.objs.size:=ne_of_none hb hl
 have hl₁ : (s.heap.push (set0 w)).get? l = some (listOf #[x] c):=O₁.get (by rw [upd_ne hlb];exact hl)
 have hS : (s.heap.push (set0 w)).get? s.heap.objs.size = some (set0 w):=Heap.get?_push_size _ rfl
 have hT : Shared.TypeIs { s with heap:=s.heap.push (set0 w) } (.ref s.heap.objs.size) "set":=⟨_,hS,rfl⟩
 have hL : (s.heap.push (set0 w)).IsList l #[x]:=⟨_,hl₁,rfl,c,rfl⟩
 have hTl : Shared.TypeIs { s with heap:=s.heap.push (set0 w) } (.ref l) "list":=⟨_,hl₁,rfl⟩
 have hu' : A.units + 9 + kd.dep < cLine:=hu
 have hfinal : ∀ s' (v : Value),v = .none → (Q (.ref s.heap.objs.size) s') → wpAny (model prog w) A.in1.in1 (pure v >>= fun _ => ret .none) (fun fin s' => fin = PySem.Fin.done (.ret .none) ∧ Q (.ref s.heap.objs.size) s') (fun _ _ => False) s':=fun s' v _ hq => wpAny_bind (wpAny_pure (wpAny_pure ⟨rfl,hq⟩))
 -- the loop
 have loop : wpAny (model prog w) A.in1.in1 (pyIter (.ref l)) (fun it s' => wpAny (model prog w) A.in1.in1 (runValue (.builtin "set.update.loop" ⟨[.ref s.heap.objs.size,it],[]⟩)) (fun v s' => v = .none ∧ Q (.ref s.heap.objs.size) s') (fun _ _ => False) s') (fun _ _ => False) { s with heap:=s.heap.push (set0 w) }:=by
  refine wpAny_pyIter_list hL ?_
  generalize hI : ({ s with heap:=s.heap.push (set0 w) } : Shared).heap.objs.size = I
  generalize hio : ({ cls:=.type "list_iterator",data:=.fields #[.ref l,.int 0 0] } : Obj) = io
  have O₂ : Own ι h₀ L ((s.heap.push (set0 w)).push io) (upd (upd σ s.heap.objs.size (set0 w)) I io):=by rw [← hI,← hio];exact O₁.push F₁ _
  have F₂ : Fr h₀ L ((s.heap.push (set0 w)).push io) m:=F₁.push _
  have hIn : upd σ s.heap.objs.size (set0 w) I = none:=by rw [← hI];exact O₁.fresh (Nat.le_refl _)
  have hbI : s.heap.objs.size ≠ I:=fun z => by rw [← z,upd_self] at hIn;cases hIn
  have hσI : σ I = none:=by rw [upd_ne (Ne.symm hbI)] at hIn;exact hIn
  have hlI : l ≠ I:=ne_of_none hσI hl
  have hl₂ : ∀ h : Heap,∀ io',Own ι h₀ L h (upd (upd σ s.heap.objs.size (set0 w)) I io') → h.IsList l #[x]:=fun h io' O => ⟨_,O.get (by rw [upd_ne hlI,upd_ne hlb];exact hl),rfl,c,rfl⟩
  have hit : Heap.IsListIter ((s.heap.push (set0 w)).push io) I l 0:=⟨_,O₂.get (upd_self ..),by rw [← hio],by rw [← hio];rfl⟩
  have ex : ∀ io',Ext (upd σ s.heap.objs.size (set0 w)) (upd (upd σ s.heap.objs.size (set0 w)) I io'):=fun io' => Ext.upd hIn
  refine wpAny_runValue (codeAny_builtin PyProof.Rows.F.entry_set_update_loop ?_)
  show wpAny _ A.in1.in1.in1 (pyNext (.ref I) >>= _) _ _ _
  refine wpAny_bind (wpAny_pyNext_list_item (s:={ s with heap:=(s.heap.push (set0 w)).push io }) hit (hl₂ _ _ O₂) (x:=x) rfl fun h' hit' hs' => ?_)
  refine xe12 (id hit') fun io' hio' _ => ?_
  have F₃:=frSet F₂ O₂ (upd_self ..) hs'
  have O₃:=O₂.set (upd_self ..) hs' hio'
  rw [upd_upd] at O₃
  refine wpAny_bind (wpAny_holding ?_)
  refine wpAny_holding ?_
  have tx3 : TX σ (upd (upd σ s.heap.objs.size (set0 w)) I io'):=(Ext.trans (Ext.upd hb) (ex _)).tx
  refine wpAny_bind (kd.pyHash (by show A.units + 3 + kd.dep < cLine;lia) (kd.mono (tx3.trans O₃.txh) hx) fun s₄ q₄ => ?_)
  have F₄ : Fr h₀ L s₄.heap m:=q₄.2 ▸ F₃
  have O₄ : Own ι h₀ L s₄.heap (upd (upd σ s.heap.objs.size (set0 w)) I io'):=q₄.2 ▸ O₃
  have S₄ : SetIn kd (upd (upd σ s.heap.objs.size (set0 w)) I io') s.heap.objs.size []:=(set0_in kd).move (ex _).tx fun o e => ex _ _ _ e
  refine set_addHashed hd hr (by show A.units + 3 + kd.dep < cLine;lia) F₄ O₄ S₄ (kd.mono tx3 hx) (by show 0 < 1024;lia) (fun hk => by cases hk) fun s₅ S' o' _ q₅ F₅ O₅ hS₅ p₅ => ?_
  have e5 : upd (upd (upd σ s.heap.objs.size (set0 w)) I io') s.heap.objs.size o' = upd (upd σ s.heap.objs.size o') I io':=by
   rw [upd_comm hbI,upd_upd,upd_comm (Ne.symm hbI)]
  rw [e5] at O₅ hS₅
  have hS' : S' = [k]:=List.perm_singleton.mp p₅
  subst hS'
  have hIn5 : upd σ s.heap.objs.size o' I = none:=by rw [upd_ne (Ne.symm hbI)];exact hσI
  refine wpAny_pure ⟨plainId_quiet PyProof.Rows.F.plain_set_update_loop _,codeAny_builtin PyProof.Rows.F.entry_set_update_loop ?_⟩
  show wpAny _ A.in1.in1.in1 (pyNext (.ref I) >>= _) _ _ _
  have hit5 : s₅.heap.IsListIter I l 1:=by
   refine xe12 (id hit') fun z hz hr' => ?_
   rw [hio'] at hz;cases hz
   exact ⟨io',O₅.get (upd_self ..),hr'⟩
  refine wpAny_bind (wpAny_pyNext_list_end (s:=s₅) (A:=A.in1.in1.in1) hh hit5 ⟨_,O₅.get (by rw [upd_ne hlI,upd_ne hlb];exact hl),rfl,c,rfl⟩ rfl fun h₆ hb₆ => ?_)
  have F₆:=frBut F₅ O₅ (upd_self ..) hb₆
  have O₆:=(O₅.but (upd_self ..) hb₆).less (σ':=upd σ s.heap.objs.size o') fun b o e => by
   have hne : b ≠ I:=ne_of_none hIn5 e
   unfold del;rw [if_neg hne,upd_ne hne];exact e
  refine wpAny_pure ⟨rfl,h _ _ o' hb (Same.trans ⟨q₄.1.1,q₄.1.2⟩ (q₅.trans ⟨rfl,rfl⟩)) F₆ O₆ (hS₅.move (fun b o e hc => ?_) fun o e => ?_)⟩
  ·by_cases hne : b = I
   ·subst hne;rw [upd_self] at e;cases e
    refine xe13 (id hit') fun z hz hr' _ => ?_
    rw [hio'] at hz;cases hz
    rw [hr'] at hc;simp at hc
   rw [upd_ne hne] at e;exact e
  rw [upd_ne hbI] at e;exact e
 unfold Builtin.«set.__init__» noKeywords Builtin.Frozenset.updateFrom
 have hsls:=PySem.F.sub_list_set
 have hslf:=PySem.F.sub_list_frozenset
 have hne : (Value.type "list" == Value.type "dict") = false:=by decide
 generalize hPI : pyIter = PI
 clear F O F₁ O₁ hx h hr hl hl₁ hL hfinal
 wp_walk
 subst hPI
 exact wpAny_mono loop (fun it s' h' => wpAny_bind (wpAny_mono h' (fun v s'' hv => wpAny_pure (wpAny_pure ⟨rfl,hv.2⟩)) fun _ _ e => e)) fun _ _ e => e
end
theorem noBool_set : typeLookup (.type "set") "__bool__" = pure none:=by kernel_rfl
theorem entry_inter : entryFor table "set.intersection" = some Builtin.«frozenset.intersection» :=
 entryFor_alias (id':="frozenset.intersection") (by kernel_rfl) rfl (by decide +kernel) (by kernel_rfl)
theorem entry_inter_loop : entryFor table "frozenset.intersection.loop" = some Builtin.«frozenset.intersection.loop»:=entryFor_of_tree (by kernel_rfl)
theorem plain_inter_loop : plainId "frozenset.intersection.loop" = true:=by decide +kernel
section
variable {prog : Program} {w : World} {K : Type} [DecidableEq K] {kd : VK prog w K} {A : Around} {E : Value → Shared → Prop} {s : Shared} {ι : Sd} {h₀ : Heap} {L a l : Addr} {σ : Sg} {m : Str → Option Value} {k : K} {x : Value} {c : Nat} {S : List K} {ld : Prop}
theorem truthy_setobj {es : Array (Int × Value)} {ep : Nat} {t : SetTable} {Q : Bool → Shared → Prop} (ho : s.heap.get? a = some (setObj es ep t)) (hf : t.fits es.size = true) (hz : es.size < 2 ^ 63)
  (h : Q (!es.isEmpty) { s with toks:=s.toks + 1 + 1 }) : wpAny (model prog w) A (truthy (.ref a)) Q E s:=by
 have hT : s.TypeIs (.ref a) "set":=⟨_,ho,rfl⟩
 have hfit : (es.size : Int) < 2 ^ 63:=by lia
 have hne : ((es.size : Int) != 0) = !es.isEmpty:=by
  by_cases q : es.size = 0 <;> simp [Array.isEmpty,q]
 have key : wpAny (model prog w) A (runValue (.builtin "len" ⟨[.ref a],[]⟩)) (fun r s' => r = .int es.size (s.toks + 1) ∧ Q (!es.isEmpty) s') E s:=by
  refine wpAny_runValue (codeAny_builtin entry_len ?_)
  exact wpAny_mono (wpAny_len_body_set (Q:=fun r s' => r = .int es.size (s.toks + 1) ∧ Q (!es.isEmpty) s') ho ⟨rfl,rfl,rfl⟩ rfl hf hfit ⟨rfl,h⟩)
   (fun fin s' h' => by refine xe12 h' fun r zq1 hq => ?_;try clear h';subst zq1;exact hq) fun _ _ e => e
 first
  | refine wpAny_bind (wpAny_callSpecial?_none (name:=Str.ofString "__bool__") hT noBool_set ?_)
  | refine wpAny_bind (wpAny_pure (wpAny_bind (wpAny_callSpecial?_none (name:=Str.ofString "__bool__") hT noBool_set ?_)))
 first
  | refine wpAny_bind (wpAny_specialOf (name:=Str.ofString "__len__") hT PySem.F.slot_set_len.lookup ?_)
  | refine wpAny_bind (wpAny_pure (wpAny_bind (wpAny_specialOf (name:=Str.ofString "__len__") hT PySem.F.slot_set_len.lookup ?_)))
 first
  | exact wpAny_bind (wpAny_mono key (fun r s' h' => by refine xe02 h' fun zq2 hq => ?_;try clear h';subst zq2;exact wpAny_pure (hne ▸ hq)) fun _ _ e => e)
  | exact wpAny_bind (wpAny_pure (wpAny_bind (wpAny_mono key (fun r s' h' => by obtain ⟨rfl,hq⟩:=h';exact wpAny_pure (hne ▸ hq)) fun _ _ e => e)))
theorem meets_bool_set (a : Addr) : Meets (Builtin.«bool.__new__» ⟨[.type "bool",.ref a],[]⟩) (fun _ R s => ∃ (es : Array (Int × Value)) (ep : Nat) (t : SetTable),s.heap.get? a = some (setObj es ep t) ∧ t.fits es.size = true ∧ es.size < 2 ^ 63 ∧ R (.ok (.ret (.bool (!es.isEmpty)))) { s with toks:=s.toks + 1 + 1 }) :=
 Meets.of_wp fun prog w A R s hs => by
  refine xe34 hs fun es ep t h1 h2 h3 hr => ?_
  try clear hs
  obtain ⟨hp,g,d,tk,os⟩:=s
  have f1:=F.conv_sub_bool
  repeat (any_goals (first | assumption | (with_reducible refine truthy_setobj h1 h2 h3 ?_) | wp_step))
  all_goals first | exact ⟨_,rfl,hr⟩ | exact hr | skip
theorem sbool (O : Own ι h₀ L s.heap σ) (hS : SetAt ld kd σ a S) {Q : Value → Shared → Prop} (h : ∀ s',Quiet s s' → Q (.bool (!S.isEmpty)) s') : wpAny (model prog w) A (call (.type "bool") [.ref a]) Q E s:=by
 refine xe33 hS.obj fun es ep t h1 h2 h3 => ?_
 obtain ⟨_,_,_,g1,g2,_,_,g5⟩:=hS.ex
 rw [g1] at h1;cases h1
 have e : es.isEmpty = S.isEmpty:=by
  cases S with
  | nil => simp at h2;simp [h2]
  | cons _ _ => simp at h2;simp [Array.isEmpty,h2]
 refine call_bool_1 (meets_bool_set a) ⟨es,ep,t,O.get g1,h3,?_,rfl,?_⟩
 ·have:=g2.room
  rw [List.length_map,Array.length_toList] at this
  have:=g5.1
  lia
 rw [e];exact h _ ⟨⟨rfl,rfl⟩,rfl⟩
theorem ifc_tuple (s : Shared) {b : Addr} (hT : s.TypeIs (.ref b) "tuple") {Q : Bool → Shared → Prop} (h : Q false s) : wpAny (model prog w) A (Builtin.Frozenset.isAnySet (.ref b)) Q E s:=by
 refine wpAny_bind (wpAny_isInstance hT sub_tuple_set ?_)
 exact wpAny_isInstance hT sub_tuple_fset h
theorem inter_loop (hh : A.handled = none) (hd : kd.dep ≤ 8) (hr : Refs kd) (hu : A.units + 5 + kd.dep < cLine) {b I : Addr} {ks : List K} {items : Array Value} {cn : Nat} (hS : SetIn kd σ a S) (hlo : σ l = some ({ cls:=.type "tuple",data:=.seq items cn } : Obj)) (hit : All2 (kd.is σ) ks items.toList) (hk : ks.length < 1024) (hb : σ b = none) (hbI : b ≠ I) (hI : σ I = none) {R : Result → Shared → Prop}
  (fin : ∀ s' o Rl,Same s s' → Fr h₀ L s'.heap m → Own ι h₀ L s'.heap (upd σ b o) → SetIn kd (upd σ b o) b Rl → (Rl = [] ↔ ∀ k ∈ ks,k ∉ S) → R (.ok (.ret .none)) s') :
  ∀ (f i : Nat) (s' : Shared) (o io : Obj) (Rl : List K),items.size - i = f → i ≤ items.size → Same s s' → s'.heap.IsTupleIter I l i → Fr h₀ L s'.heap m → Own ι h₀ L s'.heap (upd (upd σ b o) I io) → SetIn kd (upd σ b o) b Rl → Rl.length ≤ i → (Rl = [] ↔ ∀ j k,j < i → ks[j]? = some k → k ∉ S) →
   codeAny (model prog w) A (.builtin "frozenset.intersection.loop" ⟨[.ref a,.ref I,.ref b],[]⟩) R s':=by
 have hlen : ks.length = items.size:=hit.length.trans Array.length_toList
 refine xe33 (hS.obj : ∃ es ep t,σ a = some (setObj es ep t) ∧ es.size = S.length ∧ t.fits es.size = true) fun oa e1 e2 o1 o2 hf => ?_
 have hab : a ≠ b:=ne_of_none hb o1
 have haI : a ≠ I:=ne_of_none hI o1
 have hlb : l ≠ b:=ne_of_none hb hlo
 have hlI : l ≠ I:=ne_of_none hI hlo
 intro f
 induction f with
 | zero =>
  intro i s' o io Rl hz hi q hitr F O hR hle hm
  have hin : i = items.size:=by exact xs3 ‹_› ‹_›
  refine codeAny_builtin entry_inter_loop ?_
  have hIn : upd σ b o I = none:=by rw [upd_ne (Ne.symm hbI)];exact hI
  refine wpAny_bind (wpAny_pyNext_tuple_end (A:=A.in1) hh hitr ⟨_,O.get (by rw [upd_ne hlI,upd_ne hlb];exact hlo),rfl,cn,rfl⟩ (by simp [hin]) fun h₆ hb₆ => ?_)
  have F₆:=frBut F O (upd_self ..) hb₆
  have O₆:=(O.but (upd_self ..) hb₆).less (σ':=upd σ b o) fun c x e => by
   have hne : c ≠ I:=ne_of_none hIn e
   unfold del;rw [if_neg hne,upd_ne hne];exact e
  refine wpAny_pure (fin _ o Rl ⟨q.1,q.2⟩ F₆ O₆ hR (hm.trans ⟨fun z k hk' => ?_,fun z j k hj hjk => z k (List.mem_of_getElem? hjk)⟩))
  refine xe11 (List.mem_iff_getElem?.mp hk') fun j hj => ?_
  have : j < ks.length:=(List.getElem?_eq_some_iff.mp hj).1
  exact z j k (by lia) hj
 | succ f ih =>
  intro i s' o io Rl hz hi q hitr F O hR hle hm
  have hlt : i < items.size:=by exact xs4 ‹_›
  have hIn : ∀ o,upd σ b o I = none:=fun o => by rw [upd_ne (Ne.symm hbI)];exact hI
  refine codeAny_builtin entry_inter_loop ?_
  show wpAny _ A.in1 (pyNext (.ref I) >>= _) _ _ _
  refine xe12 (hit.get2 (i:=i) (b:=items[i]) (by rw [Array.getElem?_toList,Array.getElem?_eq_getElem hlt])) fun k hkx rx => ?_
  refine wpAny_bind (wpAny_pyNext_tuple_item hitr ⟨_,O.get (by rw [upd_ne hlI,upd_ne hlb];exact hlo),rfl,cn,rfl⟩ (x:=items[i]) (Array.getElem?_eq_getElem hlt) fun h' hit' hs' => ?_)
  refine xe12 (id hit') fun io' hio' hio2 => ?_
  have F₃:=frSet F O (upd_self ..) hs'
  have O₃:=O.set (upd_self ..) hs' hio'
  rw [upd_upd] at O₃
  have ex : ∀ o io',Ext (upd σ b o) (upd (upd σ b o) I io'):=fun o io' => Ext.upd (hIn o)
  have tx3 : ∀ o io',TX σ (upd (upd σ b o) I io'):=fun o io' => (Ext.trans (Ext.upd hb) (ex o io')).tx
  dsimp only
  refine wpAny_bind (wpAny_holding (kd.pyHash (by show A.units + 1 + kd.dep < cLine;lia) (kd.mono ((tx3 o io').trans O₃.txh) rx) fun s₄ q₄ => ?_))
  have F₄ : Fr h₀ L s₄.heap m:=q₄.2 ▸ F₃
  have O₄ : Own ι h₀ L s₄.heap (upd (upd σ b o) I io'):=q₄.2 ▸ O₃
  have S₄ : SetIn kd s₄.heap.get? a S:=SetAt.move ((tx3 o io').trans O₄.txh) (fun x e => O₄.get (by rw [upd_ne haI,upd_ne hab];exact e)) hS
  have hit₄ : s₄.heap.IsTupleIter I l (i + 1):=⟨io',O₄.get (upd_self ..),hio2⟩
  have again : ∀ (s₅ : Shared) o' Rl',Same s s₅ → Fr h₀ L s₅.heap m → Own ι h₀ L s₅.heap (upd (upd σ b o') I io') → SetIn kd (upd σ b o') b Rl' → Rl'.length ≤ Rl.length + 1 → (Rl' = [] ↔ Rl = [] ∧ k ∉ S) → codeAny (model prog w) A (.builtin "frozenset.intersection.loop" ⟨[.ref a,.ref I,.ref b],[]⟩) R s₅:=fun s₅ o' Rl' q₅ F₅ O₅ hR₅ hl₅ hm₅ => by
   refine ih (i + 1) s₅ o' io' Rl' (by exact xs2 ‹_›) ‹_› q₅ ⟨io',O₅.get (upd_self ..),hio2⟩ F₅ O₅ hR₅ (by lia) (hm₅.trans ⟨fun z j k' hj hjk => ?_,fun z => ⟨hm.mpr fun j k' hj hjk => z j k' (by exact xs91b ‹_›) hjk,z i k (by exact xs43) hkx⟩⟩)
   rcases Nat.lt_or_ge j i with hji | hji
   ·exact hm.mp z.1 j k' hji hjk
   have : j = i:=by exact xs64 ‹_› ‹_›
   subst this
   rw [hkx] at hjk;cases hjk;exact z.2
  have qq : Same s s₄:=⟨q₄.1.1.trans q.1,q₄.1.2.trans q.2⟩
  refine wpAny_bind (wpAny_holding (set_find hd hr (by show A.units + 1 + kd.dep < cLine;lia) S₄ (kd.mono ((tx3 o io').trans O₄.txh) rx) (fun j hj => ?_) fun hn => ?_))
  ·have hkS:=List.mem_of_getElem? hj
   have S₅ : SetIn kd (upd (upd σ b o) I io') b Rl:=hR.move (ex _ _).tx fun x e => ex _ _ _ _ e
   have fin2 : ∀ (s₅ : Shared) o' Rl',Same s s₅ → Fr h₀ L s₅.heap m → Own ι h₀ L s₅.heap (upd (upd σ b o') I io') → SetIn kd (upd σ b o') b Rl' → Rl'.length ≤ Rl.length + 1 → Rl' ≠ [] →
     wpAny (model prog w) A.in1 (do
      if (← Builtin.Frozenset.sizeOf b) ≥ (← Builtin.Frozenset.sizeOf a) then rule "frozenset.intersection.all-found";return ← ret .none
      PySem.again (.builtin "frozenset.intersection.loop" ⟨[.ref a,.ref I,.ref b],[]⟩))
      (fun fin s' => match fin with | .done f => R (.ok f) s' | .again c' => c'.quiet = true ∧ codeAny (model prog w) A c' R s') (fun e s' => R (.error e) s') s₅:=fun s₅ o' Rl' q₅ F₅ O₅ hR₅ hl₅ hm₅ => by
    refine wpAny_bind (sizeOf_of O₅ (hR₅.move (ex _ _).tx fun x e => ex _ _ _ _ e) ?_)
    refine wpAny_bind (sizeOf_of O₅ (hS.move (tx3 _ _) fun x e => by rw [upd_ne haI,upd_ne hab];exact e) ?_)
    by_cases hge : Rl'.length ≥ S.length
    ·refine wp_pos hge ?_
     refine wpAny_bind (wpAny_rule ?_)
     refine wpAny_pure ?_
     refine fin s₅ o' Rl' q₅ F₅ (O₅.less (ex _ _)) hR₅ ⟨fun z => absurd z hm₅,fun z => ?_⟩
     exact absurd hkS (z k (List.mem_of_getElem? hkx))
    refine wp_neg hge ?_
    exact wpAny_pure ⟨plainId_quiet plain_inter_loop _,again s₅ o' Rl' q₅ F₅ O₅ hR₅ hl₅ ⟨fun z => absurd z hm₅,fun z => absurd hkS z.2⟩⟩
   refine wpAny_bind (wpAny_holding (set_addHashed hd hr (by show A.units + 1 + kd.dep < cLine;lia) F₄ O₄ S₅ (kd.mono (tx3 _ _) rx) (by lia) (fun hk' => ?_) fun s₅ S' o' _ q₅ F₅ O₅ hS₅ p₅ => ?_))
   ·exact fin2 s₄ o Rl qq F₄ O₄ hR (by lia) (fun z => by rw [z] at hk';cases hk')
   rw [upd_comm hbI.symm,upd_upd] at O₅ hS₅
   have hS₆ : SetIn kd (upd σ b o') b S':=hS₅.move (fun c x e hc => by
    by_cases hne : c = I
    ·subst hne;rw [upd_self] at e;cases e
     rw [hio2.1] at hc;simp at hc
    rw [upd_ne hne] at e;exact e) fun x e => by rw [upd_ne hbI] at e;exact e
   exact fin2 s₅ o' S' ⟨q₅.1.trans qq.1,q₅.2.trans qq.2⟩ F₅ O₅ hS₆ (by have:=p₅.length_eq;simp at this;lia) (fun z => by subst z;have:=p₅.length_eq;simp at this)
  simp only [Option.isSome_none,Bool.false_eq_true,if_false]
  exact wpAny_pure ⟨plainId_quiet plain_inter_loop _,again s₄ o Rl qq F₄ O₄ hR (by lia) ⟨fun z => ⟨z,hn⟩,fun z => z.1⟩⟩
theorem sinter (hh : A.handled = none) (hd : kd.dep ≤ 8) (hr : Refs kd) (hu : A.units + 9 + kd.dep < cLine) (F : Fr h₀ L s.heap m) (O : Own ι h₀ L s.heap σ) (hS : SetIn kd σ a S) (hc : S.length < 1024) {ks : List K} (hks : ks.length < 1024) (hl : (tupV kd).is σ ks (.ref l)) {Q : Value → Shared → Prop}
  (h : ∀ s' b o R,σ b = none → Same s s' → Fr h₀ L s'.heap m → Own ι h₀ L s'.heap (upd σ b o) → SetIn kd (upd σ b o) b R → (R = [] ↔ ∀ k ∈ ks,k ∉ S) → Q (.ref b) s') :
  wpAny (model prog w) A (call (.builtin "set.intersection") [.ref a,.ref l]) Q E s:=by
 refine xe33 hS.obj fun es ep t o1 o2 hf => ?_
 refine xe33 hl fun _ items n e hlo hit => ?_
 try clear hl
 cases e
 have hal : l ≠ a:=fun z => by
  rw [z,o1] at hlo
  have:=congrArg Obj.cls (Option.some.inj hlo)
  simp at this
 refine wpAny_call_entry PySem.F.slot_set_intersection (hS.typeIs O) entry_inter ?_ (PySem.F.args_set_intersection_2 _ _)
 unfold Builtin.«frozenset.intersection» Builtin.Frozenset.manyOthers
 refine wpAny_bind (wpAny_pure ?_)
 try dsimp only
 refine wpAny_bind ?_
 rw [List.forIn_cons]
 refine wpAny_bind ?_
 refine wpAny_bind ?_
 refine wpAny_holding ?_
 refine wpAny_bind (wpAny_pure ?_)
 unfold Builtin.Frozenset.intersection
 rw [if_neg (by simp [hal])]
 refine wpAny_bind (baseOf_set (hS.typeIs O) ?_)
 refine wpAny_bind (set_fresh F O kd fun s₁ b ob hb q₁ F₁ O₁ hR₁ hcls => ?_)
 refine wpAny_bind (wpAny_pure ?_)
 refine wpAny_bind (wpAny_holding ?_)
 have hlb : l ≠ b:=ne_of_none hb hlo
 have hl₁ : s₁.heap.get? l = some ({ cls:=.type "tuple",data:=.seq items n } : Obj):=O₁.get (by rw [upd_ne hlb];exact hlo)
 refine wpAny_bind (ifc_tuple s₁ ⟨_,hl₁,rfl⟩ ?_)
 refine wpAny_bind (wpAny_pyIter_tuple ⟨_,hl₁,rfl,n,rfl⟩ ?_)
 have O₂:=O₁.push F₁ { cls:=.type "tuple_iterator",data:=.fields #[.ref l,.int 0 0] }
 have hIn:=O₁.fresh (Nat.le_refl s₁.heap.objs.size)
 have hbI : b ≠ s₁.heap.objs.size:=fun z => by rw [← z,upd_self] at hIn;cases hIn
 have hσI : σ s₁.heap.objs.size = none:=by rw [upd_ne (Ne.symm hbI)] at hIn;exact hIn
 have hu2 : A.in1.units + 5 + kd.dep < cLine:=by show A.units + 1 + 5 + kd.dep < cLine;lia
 have hlen : ks.length = items.size:=hit.length.trans Array.length_toList
 refine wpAny_bind (wpAny_runValue (inter_loop (A:=A.in1) (a:=a) (l:=l) (m:=m) (S:=S) hh hd hr hu2 hS hlo hit hks hb hbI hσI (fun s' o Rl q' F' O' hR' hm' => ?_) items.size 0 _ ob _ [] rfl (Nat.zero_le _) ⟨q₁.1,q₁.2⟩ ⟨_,Heap.get?_push_size _ rfl,rfl,rfl⟩ (F₁.push _) O₂ hR₁ (Nat.le_refl _) ⟨fun _ j k hj => by lia,fun _ => rfl⟩))
 refine wpAny_pure (wpAny_pure ?_)
 refine wpAny_pure ?_
 dsimp only
 refine wpAny_pure (wpAny_pure ⟨_,rfl,h s' b o Rl hb q' F' O' hR' hm'⟩)
end
section
variable {prog : Program} {w : World} {A : Around} {E : Value → Shared → Prop} {s : Shared} {ι : Sd} {h₀ : Heap} {L l b : Addr} {σ : Sg} {m : Str → Option Value} {x : Value} {n n2 : Nat} {vs ws : List Value}
theorem lset {h : Heap} (F : Fr h₀ L h m) (O : Own ι h₀ L h σ) (hl : σ l = some (listOf vs.toArray n)) (f : Array Value → Array Value) {ws : List Value} (hf : f vs.toArray = ws.toArray) : ∃ n',Fr h₀ L (h.update l (Obj.mapSeq f)) m ∧ Own ι h₀ L (h.update l (Obj.mapSeq f)) (upd σ l (listOf ws.toArray n')):=by
 have hs:=Heap.SameBut.update h l (Obj.mapSeq f)
 have hg:=PySem.IsL.update (O.get hl) f
 rw [hf] at hg
 exact ⟨_,frSet F O hl hs,O.set hl hs hg⟩
theorem lmeth {name : Str} {id : String} {pl : Sem Bool} {Q : Value × List Value → Shared → Prop} (O : Own ι h₀ L s.heap σ) (hl : σ l = some (listOf vs.toArray n)) (slot : Slot "list" name id) (hty : typeOf (.builtin id) = pure (.type "method_descriptor"))
  (h : Q (.builtin id,[.ref l]) s) : wpAny (model prog w) A (getMethod (.ref l) name pl) Q E s :=
 getMethod_builtin ⟨_,O.get hl,rfl⟩ PySem.F.plainAttrs_list slot hty (fun a e => by cases e;exact ⟨_,O.get hl,rfl⟩) h
theorem lappend (F : Fr h₀ L s.heap m) (O : Own ι h₀ L s.heap σ) (hl : σ l = some (listOf vs.toArray n)) (hz : vs.length ≤ 100000) {Q : Value → Shared → Prop}
  (h : ∀ s' n',Same s s' → Fr h₀ L s'.heap m → Own ι h₀ L s'.heap (upd σ l (listOf (vs ++ [x]).toArray n')) → Q .none s') : wpAny (model prog w) A (call (.builtin "list.append") [.ref l,x]) Q E s:=by
 refine xe12 (lset F O hl (·.push x) (ws:=vs ++ [x]) (by simp)) fun n' F' O' => ?_
 exact call_meets PySem.F.slot_list_append ⟨_,O.get hl,rfl⟩ PySem.F.entry_list_append (PySem.F.args_list_append_2 _ _) (list_append l _ n x (by rw [List.size_toArray,sizeLine_eq];lia)) ⟨O.get hl,h _ n' ⟨rfl,rfl⟩ F' O'⟩
theorem lpop {y : Value} (F : Fr h₀ L s.heap m) (O : Own ι h₀ L s.heap σ) (hl : σ l = some (listOf (vs ++ [y]).toArray n)) (hz : vs.length ≤ 100000) {Q : Value → Shared → Prop}
  (h : ∀ s' n',Same s s' → Fr h₀ L s'.heap m → Own ι h₀ L s'.heap (upd σ l (listOf vs.toArray n')) → Q y s') : wpAny (model prog w) A (call (.builtin "list.pop") [.ref l]) Q E s:=by
 have hk : (vs ++ [y]).toArray.size - 1 = vs.length:=by simp
 obtain ⟨n',F',O'⟩:=lset F O hl (fun xs => xs.eraseIdxIfInBounds ((vs ++ [y]).toArray.size - 1)) (ws:=vs) (by
  show (vs ++ [y]).toArray.eraseIdxIfInBounds _ = _
  rw [hk,kl_erase,List.append_nil])
 exact call_meets PySem.F.slot_list_pop ⟨_,O.get hl,rfl⟩ PySem.F.entry_list_pop (PySem.F.args_list_pop_1 _) (PySem.MeetsSeq.list_pop_last l _ n y (by simp) (by simp only [List.size_toArray,List.length_append,List.length_cons,List.length_nil];rw [sizeLine_eq];lia)) ⟨O.get hl,h _ n' ⟨rfl,rfl⟩ F' O'⟩
theorem lextend (F : Fr h₀ L s.heap m) (O : Own ι h₀ L s.heap σ) (hl : σ l = some (listOf vs.toArray n)) (hb : σ b = some (listOf ws.toArray n2)) (hz : vs.length + ws.length ≤ 100000) {Q : Value → Shared → Prop}
  (h : ∀ s' n',Same s s' → Fr h₀ L s'.heap m → Own ι h₀ L s'.heap (upd σ l (listOf (vs ++ ws).toArray n')) → Q .none s') : wpAny (model prog w) A (call (.builtin "list.extend") [.ref l,.ref b]) Q E s:=by
 refine xe12 (lset F O hl (· ++ ws.toArray) (ws:=vs ++ ws) (by simp)) fun n' F' O' => ?_
 refine call_meets PySem.F.slot_list_extend ⟨_,O.get hl,rfl⟩ PySem.F.entry_list_extend (PySem.F.args_list_extend_2 _ _) (AutoSeq1.list_extend_list_list_0 l _ n b _ n2 ?_ (by rw [List.size_toArray,sizeLine_eq];lia) (by rw [List.size_toArray,List.size_toArray,sizeLine_eq];lia)) ⟨O.get hl,O.get hb,h _ n' ⟨rfl,rfl⟩ F' O'⟩
 unfold Builtin.List.listTooLong
 simp only [List.size_toArray,sizeLine_eq]
 lia
theorem llen (O : Own ι h₀ L s.heap σ) (hl : σ l = some (listOf vs.toArray n)) (hz : vs.length ≤ 100000) {Q : Value → Shared → Prop} (h : ∀ s' t,Quiet s s' → Q (.int vs.length t) s') : wpAny (model prog w) A (call (.builtin "len") [.ref l]) Q E s:=by
 refine call_len_list (items:=vs.toArray) ⟨_,O.get hl,rfl,n,rfl⟩ (by simp only [List.size_toArray];lia) ?_
 exact h _ _ ⟨⟨rfl,rfl⟩,rfl⟩
theorem ltruthy (O : Own ι h₀ L s.heap σ) (hl : σ l = some (listOf vs.toArray n)) (hz : vs.length ≤ 100000) {Q : Bool → Shared → Prop} (h : ∀ s',Quiet s s' → Q (!vs.isEmpty) s') : wpAny (model prog w) A (truthy (.ref l)) Q E s:=by
 refine wpAny_truthy_list (items:=vs.toArray) ⟨_,O.get hl,rfl,n,rfl⟩ (by simp only [List.size_toArray];lia) ?_
 have : (!vs.toArray.isEmpty) = !vs.isEmpty:=by simp
 first
  | (rw [this];exact h _ ⟨⟨rfl,rfl⟩,rfl⟩)
  | exact h _ ⟨⟨rfl,rfl⟩,rfl⟩
noncomputable abbrev tupOf (vs : List Value) (n : Nat) : Obj:={ cls:=.type "tuple",data:=.seq vs.toArray n }
theorem stuple (F : Fr h₀ L s.heap m) (O : Own ι h₀ L s.heap σ) (hl : σ l = some (listOf vs.toArray n)) (hz : vs.length ≤ 100000) {Q : Value → Shared → Prop}
  (h : ∀ s' t,σ t = none → Same s s' → Fr h₀ L s'.heap m → Own ι h₀ L s'.heap (upd σ t (tupOf vs 0)) → Q (.ref t) s') : wpAny (model prog w) A (call (.type "tuple") [.ref l]) Q E s:=by
 refine call_tuple_list (items:=vs.toArray) ⟨_,O.get hl,rfl,n,rfl⟩ (fun h' hk => ?_) (by rw [List.size_toArray,sizeLine_eq];lia)
 have F':=F.kept hk
 have O':=O.more hk
 exact h { s with heap:=h'.push (tupOf vs 0) } _ (O'.fresh (Nat.le_refl _)) ⟨rfl,rfl⟩ (F'.push _) (O'.push F' _)
end
noncomputable def strV (prog : Program) (w : World) : VK prog w Str where
 is:=fun _ k v => ∃ t,v = .str k t
 hash:=hashStr w
 dep:=0
 draws:=fun _ => 1
 inj:=fun ⟨t,h⟩ ⟨u,h'⟩ => by subst h;cases h';rfl
 mono':=fun _ h => h
 pyHash':=fun hu zm2 h => xe11 zm2 fun t e => by subst e;exact wpAny_pyHash_str h
 eqB:=fun hu zm3 ⟨u,e'⟩ h => xe11 zm3 fun t e => by
  subst e;subst e'
  exact (strKind prog w).eqBool (strKind_is _ _ _ _) (strKind_is _ _ _ _) h
 quiet:=fun hn zm4 h => xe11 zm4 fun t e => by subst e;rw [eqIsQuiet_byValue _ rfl];exact wpAny_pure h
 cls:=fun {A E s k v Q n} hn zm5 h => xe11 zm5 fun t e => by subst e;cases n <;> exact wpAny_pure h
 byv:=fun hn zm6 h => xe11 zm6 fun t e => by subst e;unfold hashByValue;exact wpAny_pure (h _)
theorem layNew_ok {t : SetTable} {es : Array (Int × Value)} {h : Int} {N : Nat} (x : Value) (l : Laid t (es.toList.map (·.1))) (f : First t h N) (hr : es.size + 1 ≤ t.mask) :
  layNew t es h x = (SetTable.insertAt es (t.put (nth t N (t.probeStart h)).j).2 (h,x),(t.put (nth t N (t.probeStart h)).j).1,false,false):=by
 have pr:=probe_at l.toClean (fun _ => h + 1) h (n0:=0) f (Nat.zero_le _)
 have hp : t.probe (fun _ => h + 1) h (t.probeStart h) = some (.empty (nth t N (t.probeStart h)).j none):=by
  rcases pr with zq1 | zq2
  ·refine xe25 zq1 fun m i _ _ _ h4 _ => ?_
   try clear zq1
   exact absurd (show h + 1 = h from h4) (by lia)
  refine xe02 zq2 fun h5 _ => ?_
  try clear zq2
  exact h5
 have hf : t.freeSlot h = some ((nth t N (t.probeStart h)).j,false):=by
  unfold SetTable.freeSlot
  rw [hp];rfl
 have hl2:=put_laid l f (by rw [List.length_map,Array.length_toList];exact hr)
 refine xe07 (put_place l.toClean (nth t N (t.probeStart h)).j) fun _ _ pp pm pl _ ppl => ?_
 unfold layNew
 rw [hf]
 dsimp only
 generalize (t.put (nth t N (t.probeStart h)).j).1 = t1 at hl2 pm pl ppl ⊢
 generalize (t.put (nth t N (t.probeStart h)).j).2 = p at hl2 pp ⊢
 have hsz : (SetTable.insertAt es p (h,x)).size = es.size + 1:=by
  rw [← Array.length_toList,(SetTable.insertAt_perm es p _).length_eq,Array.toList_push,List.length_append,Array.length_toList];rfl
 have hfit : t1.fits (SetTable.insertAt es p (h,x)).size = true:=by
  have:=hl2.fits
  rw [hsz]
  have e : ((es.toList.map (·.1)).take p ++ h :: (es.toList.map (·.1)).drop p).length = es.size + 1:=by
   have:=(List.perm_middle (a:=h) (l₁:=(es.toList.map (·.1)).take p) (l₂:=(es.toList.map (·.1)).drop p)).length_eq
   rw [List.take_append_drop,List.length_cons,List.length_map,Array.length_toList] at this
   exact this
  rwa [e] at this
 unfold SetTable.orStandIn
 rw [hfit]
 rfl
theorem relayAll_ok {t : SetTable} {es : Array (Int × Value)} {wanted : Nat} {t' : SetTable} {order : Array Nat} (r : t.relaid (es.toList.map (·.1)).toArray wanted = some (t',order)) (hp : order.toList.Perm (List.range (es.toList.map (·.1)).length)) (hl : Laid t' (order.toList.filterMap ((es.toList.map (·.1))[·]?)))
  (hn : (order.toList.filterMap ((es.toList.map (·.1))[·]?)).length = (es.toList.map (·.1)).length) : relayAll t es wanted = (order.filterMap (es[·]?),t',false):=by
 have er : t.relaid (es.map (·.1)) wanted = some (t',order):=by
  have : es.map (·.1) = (es.toList.map (·.1)).toArray:=by rw [← Array.toList_map]
  rw [this];exact r
 unfold relayAll
 rw [er]
 dsimp only
 have h1 : coversAll order es.size = true:=by
  unfold coversAll
  rw [List.isPerm_iff]
  rw [List.length_map,Array.length_toList] at hp
  exact hp
 have hsz : (order.filterMap (es[·]?)).size = es.size:=by
  rw [List.length_map] at hp
  rw [← Array.length_toList,arr_order,(order_perm es.toList hp).length_eq,Array.length_toList]
 have h2 : t'.fits (order.filterMap (es[·]?)).size = true:=by
  have:=hl.fits
  rw [hn,List.length_map,Array.length_toList] at this
  rw [hsz];exact this
 rw [h1,h2]
 rfl
section
variable {prog : Program} {w : World} {A : Around} {E : Value → Shared → Prop} {s : Shared} {ι : Sd} {h₀ : Heap} {L a d : Addr} {σ : Sg} {m : Str → Option Value} {k : Str} {tk : Tok} {S : List Str} {ld : Prop} {f : Str → Option Value}
theorem strs_all {g : Sg} {es : Array (Int × Value)} (h3 : All2 (ElemOf (strV prog w) g) S es.toList) : (es.all fun e => isExactStrKey e.2) = true ∧ (es.all (·.2.scannable)) = true:=by
 have : ∀ e ∈ es.toList,∃ k t,e.2 = .str k t:=fun e he => by
  refine xe12 (h3.mem he) fun k _ r => ?_
  refine xe11 (r.2) fun t r => ?_
  exact ⟨k,t,r⟩
 constructor
 ·rw [← Array.all_toList,List.all_eq_true]
  intro e he
  refine xe21 (this e he) fun k t r => ?_
  rw [r];rfl
 rw [← Array.all_toList,List.all_eq_true]
 intro e he
 refine xe21 (this e he) fun k t r => ?_
 rw [r];rfl
theorem str_add (F : Fr h₀ L s.heap m) (O : Own ι h₀ L s.heap σ) (hS : SetIn (strV prog w) σ a S) (hn : S.length < 1024) {Q : Bool → Shared → Prop}
  (h : ∀ b s' S' o,Same s s' → Fr h₀ L s'.heap m → Own ι h₀ L s'.heap (upd σ a o) → SetIn (strV prog w) (upd σ a o) a S' → (∀ k',k' ∈ S' ↔ k' ∈ S ∨ k' = k) → S'.length ≤ S.length + 1 → o.cls = .type "set" → Q b s') :
  wpAny (model prog w) A (setAddHashed a (.str k tk) (hashStr w k)) Q E s:=by
 obtain ⟨es,ep,t,h1,h2,h3,h4,h5⟩:=hS.ex
 refine xe11 (first h2.toClean (hashStr w k)) fun N f => ?_
 have hfit : t.fits es.size = true:=by have:=h2.fits;simpa using this
 have hlen : S.length = es.size:=by have:=h3.length;simpa using this
 have g1:=O.get h1
 refine xe02 (strs_all h3) fun st1 st2 => ?_
 refine wpAny_holding ?_
 refine wpAny_bind (wpAny_setState_of (o:=setObj es ep t) g1 rfl hfit ?_)
 dsimp only
 have hby : byScan (.str k tk) es = true:=by
  unfold byScan
  rw [st2]
  have : es.size < scanBound:=by unfold scanBound;lia
  exact Bool.and_eq_true_iff.mpr ⟨decide_eq_true this,rfl⟩
 rw [hby]
 refine wpAny_bind ?_
 refine wpAny_bind (wpAny_rule ?_)
 refine wpAny_bind ?_
 unfold setScan
 dsimp only
 refine wp_pos st1 ?_
 unfold setScanStrs
 cases hq : es.findIdx? (·.2.isStr k) with
 | some i =>
  refine xe12 (Array.findIdx?_eq_some_iff_getElem.mp hq) fun hlt hi _ => ?_
  dsimp only
  rw [Array.getElem?_eq_getElem hlt]
  dsimp only
  refine xe12 (h3.get2 (i:=i) (b:=es[i]) (by rw [Array.getElem?_toList,Array.getElem?_eq_getElem hlt])) fun k' hk' r => ?_
  refine xe11 r.2 fun u hu => ?_
  have hkk : k' = k:=by
   rw [hu] at hi
   have : (k' == k) = true:=hi
   exact eq_of_beq this
  subst hkk
  refine wpAny_bind (epoch_of g1 rfl hfit ?_)
  rw [hu]
  refine wpAny_bind (wpAny_eqBool_str ?_)
  have ht : decide (k' = k') = true:=by simp
  first
   | rw [ht]
   | skip
  refine wpAny_pure ?_
  refine wpAny_pure ?_
  refine wpAny_pure ?_
  refine h false s S (setObj es ep t) (.refl s) F (by rw [upd_eq h1];exact O) (by rw [upd_eq h1];exact hS) (fun k'' => ⟨.inl,fun z => z.elim id fun z => z ▸ List.mem_of_getElem? hk'⟩) (by lia) rfl
 | none =>
  have hk : k ∉ S:=fun hk => by
   refine xe11 (List.mem_iff_getElem?.mp hk) fun i hi => ?_
   refine xe12 (h3.get1 hi) fun e he r => ?_
   refine xe11 (r.2) fun u hu => ?_
   rw [Array.getElem?_toList] at he
   have:=Array.findIdx?_eq_none_iff.mp hq e (Array.mem_of_getElem? he)
   rw [hu] at this
   have h2 : (k == k) = false:=this
   simp at h2
  refine wpAny_pure ?_
  have h7 : 7 ≤ t.mask:=by
   refine xe12 (h2.pow) fun q q3 qe => ?_
   have : 2 ^ 3 ≤ 2 ^ q:=Nat.pow_le_pow_right (by decide) q3
   lia
  rw [layNew_ok (.str k tk) h2 f (by lia)]
  dsimp only
  have hl2:=put_laid h2 f (by rw [List.length_map,Array.length_toList,← hlen];lia)
  refine xe07 (put_place h2.toClean (nth t N (t.probeStart (hashStr w k))).j) fun _ _ pp pm pl _ ppl => ?_
  generalize (t.put (nth t N (t.probeStart (hashStr w k))).j).1 = t1 at hl2 pm pl ppl ⊢
  generalize (t.put (nth t N (t.probeStart (hashStr w k))).j).2 = p at hl2 pp ⊢
  have hp : p ≤ es.size:=by
   rw [pp]
   have:=(below_spec t.place (nth t N (t.probeStart (hashStr w k))).j h2.rise).2.2
   rw [h2.size,List.length_map,Array.length_toList] at this
   exact this
  have hmapins : (SetTable.insertAt es p (hashStr w k,Value.str k tk)).toList.map (·.1) = (es.toList.map (·.1)).take p ++ hashStr w k :: (es.toList.map (·.1)).drop p:=by
   rw [SetTable.toList_insertAt,List.map_append,List.map_cons,List.map_take,List.map_drop]
  have hszins : (SetTable.insertAt es p (hashStr w k,Value.str k tk)).size = S.length + 1:=by
   rw [← Array.length_toList,(SetTable.insertAt_perm es p _).length_eq,Array.toList_push,List.length_append,Array.length_toList,hlen];rfl
  have hlaid : ∀ t2 : SetTable,t2.place = t1.place → t2.mask = t1.mask → t2.dummies = t1.dummies → Laid t2 ((SetTable.insertAt es p (hashStr w k,Value.str k tk)).toList.map (·.1)):=fun t2 e1 e2 e3 => by
   rw [hmapins]
   exact hl2.same e1 e2 e3
  have hall : ∀ g : Sg,TX σ g → All2 (ElemOf (strV prog w) g) (S.take p ++ k :: S.drop p) (SetTable.insertAt es p (hashStr w k,Value.str k tk)).toList:=fun g hg => by
   rw [SetTable.toList_insertAt]
   have hS' : All2 (ElemOf (strV prog w) g) (S.take p ++ S.drop p) es.toList:=by rw [List.take_append_drop];exact h3.imp fun _ _ r => r.mono hg
   refine xe23 hS'.split fun m₁ m₂ e1 e2 e3 => ?_
   have hl1 : m₁.length = p:=by rw [← e2.length,List.length_take];lia
   have : es.toList.take p = m₁:=by rw [e1,← hl1];simp
   have : es.toList.drop p = m₂:=by rw [e1,← hl1];simp
   rw [‹es.toList.take p = m₁›,‹es.toList.drop p = m₂›]
   exact e2.append (.cons ⟨rfl,tk,rfl⟩ e3)
  generalize SetTable.insertAt es p (hashStr w k,Value.str k tk) = es₂ at *
  have hperm : (S.take p ++ k :: S.drop p).Perm (k :: S):=by
   have:=List.perm_middle (a:=k) (l₁:=S.take p) (l₂:=S.drop p)
   rwa [List.take_append_drop] at this
  have hnd : (S.take p ++ k :: S.drop p).Nodup:=hperm.nodup_iff.mpr (List.nodup_cons.mpr ⟨hk,hS.nd⟩)
  have hlen2 : (S.take p ++ k :: S.drop p).length = S.length + 1:=by rw [hperm.length_eq];rfl
  generalize S.take p ++ k :: S.drop p = S₂ at *
  have main : ∀ t2 : SetTable,t2.place = t1.place → t2.mask = t1.mask → t2.dummies = t1.dummies → t2.led = t1.led →
    wpAny (model prog w) A (do
     storeSet a es₂ t2
     if (!false && t2.tooFull) = true then do
       (match (relayAll t2 es₂ (SetTable.grown es₂.size)).2.2 with | true => rule "set.scan.the-table-gave-way" | false => pure ())
       storeSet a (relayAll t2 es₂ (SetTable.grown es₂.size)).1
        (relayAll t2 es₂ (SetTable.grown es₂.size)).2.1
       pure (some true)
      else pure (some true)) (fun a_1 s' => wpAny (model prog w) A (match a_1 with | some added => pure added | none => setAddHashedIn a (Value.str k tk) (hashStr w k) 99999) Q E s') E s:=fun t2 e1 e2 e3 e4 => by
   have hts : ∀ o' : Obj,TX σ (upd σ a o'):=fun o' => upd_tx h1 (by simp)
   refine wpAny_bind (set_store F O h1 (by rw [hszins,sizeLine_eq];lia) fun s' S' F' O' => ?_)
   by_cases full : t2.tooFull = true
   ·refine wp_pos (by simpa using full) ?_
    have hg : SetTable.grown es₂.size = (S.length + 1) * 4:=by rw [hszins];unfold SetTable.grown;rw [if_neg (by lia)]
    rw [hg]
    refine xe28 (relaid_ok t2 (es₂.toList.map (·.1)) ((S.length + 1) * 4) (Nat.lt_of_lt_of_le (by lia) (show 8192 ≤ 2 ^ 60 by decide)) (by rw [List.length_map,Array.length_toList,hszins];lia)) fun t' order r1 r2 r3 r4 r5 r6 r7 r8 => ?_
    rw [relayAll_ok r1 r4 r5 r6]
    refine xe04 (relay_parts (hall _ (hts (setObj es₂ (ep + 1) t2))) r4) fun p1 p2 p3 p4 => ?_
    refine wpAny_bind (wpAny_pure ?_)
    refine wpAny_bind (set_store F' O' (upd_self ..) (by rw [p4,hszins,sizeLine_eq];lia) fun s'' S'' F'' O'' => ?_)
    rw [upd_upd] at O''
    refine wpAny_pure (wpAny_pure (h true s'' _ _ (S'.trans S'') F'' O'' ⟨⟨_,_,_,upd_self ..,?_,p1.imp fun _ _ r => ⟨r.1,r.2⟩,?_,?_,fun _ => ?_⟩,p2.nodup_iff.mpr hnd⟩ (fun k' => ?_) (by rw [p2.length_eq];lia) rfl))
    ·rw [p3];exact r5
    ·rw [r2,e4,pl];exact h4
    ·refine xe14 (sizeAbove_ok ((S.length + 1) * 4) (Nat.lt_of_lt_of_le (by lia) (show 8192 ≤ 2 ^ 60 by decide))) fun k' e _ _ hle => ?_
     have hk : k' ≤ 13:=by
      rcases Nat.lt_or_ge 13 k' with q | q
      ·have : 2 ^ 14 ≤ 2 ^ k':=Nat.pow_le_pow_right (by decide) q
       lia
      exact q
     have h13 : 2 ^ k' ≤ 2 ^ 13:=Nat.pow_le_pow_right (by decide) hk
     have hm : t'.mask = SetTable.sizeAbove ((S.length + 1) * 4) - 1:=by
      unfold SetTable.relaid SetTable.laid at r1
      simp only [Option.bind_eq_bind,Option.bind_eq_some_iff] at r1
      refine xe12 r1 fun owner _ _ => ?_
      clear r1
      rename_i r1
      cases r1;rfl
     have : (2 : Nat) ^ 13 = 8192:=by decide
     exact xs61 ‹_› ‹_› ‹_›
    ·rw [p2.length_eq,hlen2];dsimp only;lia
    rw [p2.mem_iff,hperm.mem_iff,List.mem_cons]
    exact ⟨fun z => z.elim .inr .inl,fun z => z.elim .inr .inl⟩
   refine wp_neg (by simpa using full) ?_
   refine wpAny_pure (wpAny_pure (h true s' _ _ S' F' O' ⟨⟨_,_,_,upd_self ..,hlaid t2 e1 e2 e3,hall _ (hts _),by rw [e4,pl];exact h4,by rw [e2,pm];exact h5.1,fun _ => ?_⟩,hnd⟩ (fun k' => ?_) (by lia) rfl))
   ·rw [hlen2]
    have hsz2 : t2.place.size = S.length + 1:=by
     have:=(hlaid t2 e1 e2 e3).size
     rw [List.length_map,Array.length_toList,hszins] at this
     exact this
    have hd2 : t2.dummies = #[]:=(hlaid t2 e1 e2 e3).dum
    unfold SetTable.tooFull SetTable.fill at full
    rw [hsz2,hd2] at full
    simp at full
    lia
   rw [hperm.mem_iff,List.mem_cons]
   exact ⟨fun z => z.elim .inr .inl,fun z => z.elim .inr .inl⟩
  refine wpAny_bind (wpAny_pure ?_)
  by_cases hpl : t1.plain = true
  ·refine wp_pos hpl ?_
   refine wpAny_bind ?_
   refine wpAny_pure ?_
   exact main { t1 with plain:=false } rfl rfl rfl rfl
  refine wp_neg hpl ?_
  refine wpAny_bind (wpAny_pure ?_)
  exact main t1 rfl rfl rfl rfl
end
theorem sub_dict_set : isSubtype (.type "dict") (.type "set") = pure false:=by kernel_rfl
theorem sub_dict_fset : isSubtype (.type "dict") (.type "frozenset") = pure false:=by kernel_rfl
section
variable {prog : Program} {w : World} {A : Around} {E : Value → Shared → Prop} {s : Shared} {ι : Sd} {h₀ : Heap} {L a d : Addr} {σ : Sg} {m : Str → Option Value} {k : Str} {tk : Tok} {S : List Str} {ld : Prop} {f : Str → Option Value}
theorem pairs_get {es : List DictEntry} {kvs : List (Str × Value)} (h : Pairs (strKind prog w) es kvs) {i : Nat} {e : DictEntry} (he : es[i]? = some e) : ∃ k v,kvs[i]? = some (k,v) ∧ (strKind prog w).is k e.key = true:=by
 have hl:=h.length
 have hi : i < kvs.length:=by rw [← hl];exact (List.getElem?_eq_some_iff.mp he).1
 refine ⟨kvs[i].1,kvs[i].2,List.getElem?_eq_getElem hi,?_⟩
 exact (Pairs.get? h he (List.getElem?_eq_getElem hi)).1
theorem upd_turn {od : Obj} {es : Array DictEntry} {ep i : Nat} (had : a ≠ d) (ho : σ d = some od) (hd : od.data = .dict es ep) (hi : i < es.size) (hk : ∃ t,es[i].key = .str k t) (hh : es[i].hash = hashStr w k) {oc : Obj} (F : Fr h₀ L s.heap m) (O : Own ι h₀ L s.heap (upd σ a oc)) (hS : SetIn (strV prog w) (upd σ a oc) a S) (hn : S.length < 1024) {P : ForInStep PUnit → Shared → Prop}
  (h : ∀ s' S' o,Same s s' → Fr h₀ L s'.heap m → Own ι h₀ L s'.heap (upd σ a o) → SetIn (strV prog w) (upd σ a o) a S' → (∀ k',k' ∈ S' ↔ k' ∈ S ∨ k' = k) → S'.length ≤ S.length + 1 → P (.yield PUnit.unit) s') :
  wpAny (model prog w) A (do
   let __do_lift ← dictEntries d
   match __do_lift[i]? with
    | some e => do
     let _ ← holding [e.key] (setAddHashed a e.key e.hash)
     let __do_lift ← dictEpoch d
     if (__do_lift != ep) = true then do
       let _ ← (unsupported "set.update:changed-during-callback" : Sem Unit)
       pure (ForInStep.yield PUnit.unit)
      else pure (ForInStep.yield PUnit.unit)
    | x => unsupported "internal:set-from-dict") P E s:=by
 have hod : s.heap.get? d = some od:=O.get (by rw [upd_ne (Ne.symm had)];exact ho)
 refine wpAny_bind (wpAny_dictEntries hod hd ?_)
 rw [Array.getElem?_eq_getElem hi]
 dsimp only
 refine xe11 hk fun t ht => ?_
 try clear hk
 rw [ht,hh]
 refine wpAny_bind (wpAny_holding (str_add F O hS hn fun b s' S' o q F' O' hS' hm hl _ => ?_))
 rw [upd_upd] at O' hS'
 have hod' : s'.heap.get? d = some od:=O'.get (by rw [upd_ne (Ne.symm had)];exact ho)
 refine wpAny_bind (wpAny_dictEpoch hod' hd ?_)
 refine wp_neg (by simp) ?_
 exact wpAny_pure (h s' S' o q F' O' hS' hm hl)
theorem str_update (had : a ≠ d) (F : Fr h₀ L s.heap m) (O : Own ι h₀ L s.heap σ) (hS : SetIn (strV prog w) σ a S) (D : DS prog w σ d f) {U : List Str} (hU : ∀ k,f k ≠ none → k ∈ U) (hn : S.length + U.length < 1024) {Q : Value → Shared → Prop}
  (h : ∀ s' S' o,Same s s' → Fr h₀ L s'.heap m → Own ι h₀ L s'.heap (upd σ a o) → SetIn (strV prog w) (upd σ a o) a S' → (∀ k',k' ∈ S' ↔ k' ∈ S ∨ f k' ≠ none) → Q .none s') :
  wpAny (model prog w) A (call (.builtin "set.update") [.ref a,.ref d]) Q E s:=by
 obtain ⟨od,kvs,d1,⟨es,ep,hex,hdat,hk,hp,hnd⟩,hf⟩:=D.ex
 have hTd : s.TypeIs (.ref d) "dict":=D.typeIs O
 have hfun : valueAt kvs = f:=funext hf
 have hlen : es.size = kvs.length:=by rw [← hp.length];simp
 have hle : kvs.length ≤ U.length:=skeys_len hnd (by rw [hfun];exact hU)
 refine wpAny_call_entry PySem.F.slot_set_update (hS.typeIs O) PySem.F.entry_set_update ?_ (PySem.F.args_set_update_2 _ _)
 unfold Builtin.«set.update» Builtin.Frozenset.manyOthers
 refine wpAny_bind (wpAny_pure ?_)
 try dsimp only
 refine wpAny_bind ?_
 rw [List.forIn_cons]
 refine wpAny_bind ?_
 refine wpAny_bind ?_
 refine wpAny_bind ?_
 unfold Builtin.Frozenset.isAnySet orM
 refine wpAny_bind (wpAny_isInstance hTd sub_dict_set ?_)
 refine wpAny_isInstance hTd sub_dict_fset ?_
 refine wpAny_bind (wpAny_typeOf hTd ?_)
 refine wpAny_bind (wpAny_rule ?_)
 refine wpAny_bind ?_
 refine wpAny_pure ?_
 rw [if_neg (by rw [D.low];exact Bool.false_ne_true)]
 refine wpAny_bind (wpAny_dictEpoch (O.get d1) hdat ?_)
 refine wpAny_bind (wpAny_dictEntries (O.get d1) hdat ?_)
 refine wpAny_bind (set_roomFor F O hS (more:=es.size) (by lia) fun s₁ S₁ o₁ q₁ F₁ O₁ hS₁ p₁ _ => ?_)
 have hd1 : ∀ o,upd σ a o d = some od:=fun o => by rw [upd_ne (Ne.symm had)];exact d1
 refine wpAny_bind (wpAny_dictEntries (O₁.get (hd1 _)) hdat ?_)
 refine wpAny_bind ?_
 rw [Std.Legacy.Range.forIn_eq_forIn_range']
 have hcell : ∃ oc,σ a = some oc ∧ oc.cls ≠ .type "tuple":=by
  refine xe32 hS.obj fun _ _ _ z _ => ?_
  exact ⟨_,z,by simp⟩
 refine wpAny_forIn_list _ (fun rest _ s' => ∃ (i : Nat) (S' : List Str) (o : Obj),rest = List.range' i (es.size - i) ∧ i ≤ es.size ∧ Same s s' ∧ Fr h₀ L s'.heap m ∧ Own ι h₀ L s'.heap (upd σ a o) ∧ SetIn (strV prog w) (upd σ a o) a S' ∧ S'.length ≤ S.length + i ∧
   (∀ k,k ∈ S' ↔ k ∈ S ∨ ∃ j v,j < i ∧ kvs[j]? = some (k,v))) _ ?_ ?_ _ _
  ⟨0,S₁,o₁,by simp,Nat.zero_le _,q₁,F₁,O₁,hS₁,by rw [p₁.length_eq];lia,fun k => by rw [p₁.mem_iff];simp⟩
 ·intro x rest _ s' zq1
  refine xe38 zq1 fun i S' o hr hi q' F' O' hS' hl' hm' => ?_
  try clear zq1
  have hlt : i < es.size:=by
   rcases Nat.lt_or_ge i es.size with z | z
   ·exact z
   rw [show es.size - i = 0 by exact xs33 ‹_›] at hr;simp at hr
  rw [show es.size - i = (es.size - (i + 1)) + 1 by exact xs1 ‹_›,List.range'_succ] at hr
  injection hr with hx hr
  subst hx
  refine xe22 (pairs_get hp (i:=x) (e:=es[x]) (by rw [Array.getElem?_toList,Array.getElem?_eq_getElem hlt])) fun k v hkv hkis => ?_
  refine xe12 (hk es[x] (Array.getElem_mem _)) fun k' hk1 hk2 => ?_
  have hkk : k' = k:=(strKind prog w).inj _ _ _ hk1 hkis
  subst hkk
  refine upd_turn had d1 hdat hlt (Value.isStrOf_shape hkis) hk2 F' O' hS' (by lia) fun s'' S'' o'' q'' F'' O'' hS'' hm'' hl'' => ?_
  refine ⟨x + 1,S'',o'',hr,by assumption,q'.trans q'',F'',O'',hS'',by lia,fun k => ?_⟩
  rw [hm'',hm']
  constructor
  ·rintro ((z | ⟨j,v',hj,z⟩) | z)
   ·exact .inl z
   ·exact .inr ⟨j,v',by exact xs91b ‹_›,z⟩
   exact .inr ⟨x,v,by exact xs43,by rw [z];exact hkv⟩
  rintro (z | ⟨j,v',hj,z⟩)
  ·exact .inl (.inl z)
  rcases Nat.lt_or_ge j x with hjx | hjx
  ·exact .inl (.inr ⟨j,v',hjx,z⟩)
  have : j = x:=by exact xs64 ‹_› ‹_›
  subst this
  rw [hkv] at z;cases z;exact .inr rfl
 intro _ s' zq2
 refine xe38 zq2 fun i S' o hr hi q' F' O' hS' hl' hm' => ?_
 try clear zq2
 have hie : i = es.size:=by
  have:=congrArg List.length hr
  simp at this
  exact xs3b ‹_› ‹_›
 refine wpAny_pure ?_
 refine wpAny_pure ?_
 dsimp only
 refine wpAny_pure (wpAny_pure ⟨_,rfl,h s' S' o q' F' O' hS' fun k => ?_⟩)
 rw [hm' k]
 have : (∃ j v,j < i ∧ kvs[j]? = some (k,v)) ↔ f k ≠ none:=by
  rw [← hfun]
  constructor
  ·intro zq3
   refine xe22 zq3 fun j v _ hj => ?_
   try clear zq3
   unfold valueAt
   intro z
   rw [Option.map_eq_none_iff,List.find?_eq_none] at z
   exact z _ (List.mem_of_getElem? hj) (by simp)
  intro z
  unfold valueAt at z
  cases hq : kvs.find? (fun kv => decide (kv.1 = k)) with
  | none => rw [hq] at z;exact absurd rfl z
  | some kv =>
   have h1:=List.mem_of_find?_eq_some hq
   have h2:=List.find?_some hq
   refine xe11 (List.mem_iff_getElem?.mp h1) fun j hj => ?_
   have hjl:=(List.getElem?_eq_some_iff.mp hj).1
   refine ⟨j,kv.2,by lia,?_⟩
   rw [hj]
   have : kv.1 = k:=of_decide_eq_true h2
   rw [← this]
 rw [this]
end
noncomputable def sLt (a b : Str) : Bool:=decide (a.cps.toList < b.cps.toList)
theorem sLt_trans (a b c : Str) (h : sLt a b = true) (k : sLt b c = true) : sLt a c = true:=decide_eq_true (List.lt_trans (of_decide_eq_true h) (of_decide_eq_true k))
theorem sLt_asym (a b : Str) (h : sLt a b = true) : sLt b a = false:=by
 refine decide_eq_false fun k => ?_
 exact List.lt_irrefl _ (List.lt_trans (of_decide_eq_true h) k)
theorem sLt_total (a b : Str) (hn : a ≠ b) (h : sLt a b = false) : sLt b a = true:=by
 have h:=of_decide_eq_false h
 refine decide_eq_true ?_
 rcases List.le_iff_lt_or_eq.mp (List.not_lt.mp h) with q | q
 ·exact q
 refine absurd ?_ hn
 obtain ⟨a⟩:=a;obtain ⟨b⟩:=b
 congr 1
 exact Array.toList_inj.mp q.symm
section
variable {prog : Program} {w : World} {A : Around} {E : Value → Shared → Prop} {s : Shared} {ι : Sd} {h₀ : Heap} {L D a d : Addr} {σ : Sg} {m : Str → Option Value} {vs : List Value} {c : Nat} {S : List Str} {ld : Prop} {f : Str → Option Value}
noncomputable abbrev isS (k : Str) (v : Value) : Prop:=∃ t,v = .str k t
theorem sort_strs (F : Fr h₀ L s.heap m) (O : Own ι h₀ L s.heap σ) (hD : σ D = some (listOf vs.toArray c)) (hall : All2 isS S vs) (nd : S.Nodup) (h64 : vs.length < 64) {Q : Value → Shared → Prop}
  (h : ∀ s' S' vs' c',Same s s' → Fr h₀ L s'.heap m → Own ι h₀ L s'.heap (upd σ D (listOf vs'.toArray c')) → S'.Perm S → S'.Pairwise (fun a b => sLt a b = true) → All2 isS S' vs' → Q .none s') :
  wpAny (model prog w) A (call (.builtin "list.sort") [.ref D]) Q E s:=by
 have hlen:=hall.length
 refine sort_list (κ:=oneType') (fun i j => sLt (S.getD i ⟨#[]⟩) (S.getD j ⟨#[]⟩)) F O hD h64 (hlen ▸ strict_of sLt sLt_trans sLt_asym sLt_total nd ⟨#[]⟩) (fun h2 s' P ex hP => ?_) (fun s' i j C hi hj hij ex hC => ?_) fun s' p c' hw u q F' O' => ?_
 ·refine kas_kind (T:=.type "str") h2 (fun v hv => ?_) (by decide) (by decide) hP
  refine xe12 (hall.mem hv) fun k _ zq20 => ?_
  refine xe11 zq20 fun t zq23 => ?_
  try clear zq20
  subst zq23
  exact Looks.of_pure rfl
 ·have hi' : i < S.length:=by exact xs94e ‹_› ‹_›
  have hj' : j < S.length:=by exact xs94e ‹_› ‹_›
  refine xe11 (hall.get (List.getElem?_eq_getElem hi') (List.getElem?_eq_getElem hi)) fun t ei => ?_
  refine xe11 (hall.get (List.getElem?_eq_getElem hj') (List.getElem?_eq_getElem hj)) fun u ej => ?_
  have a1 : S.getD i ⟨#[]⟩ = S[i]:=by simp [hi']
  have a2 : S.getD j ⟨#[]⟩ = S[j]:=by simp [hj']
  have a3 : vs.getD i .none = vs[i]:=by simp [hi]
  have a4 : vs.getD j .none = vs[j]:=by simp [hj]
  rw [a1,a2] at hC
  rw [a3,a4,ei,ej]
  exact kas_lt_str hC
 rw [← hlen] at hw u
 refine xe02 (order_out hw u) fun o1 o2 => ?_
 refine h s' _ _ c' q F' O' o1 o2 (all2_pick hall ⟨#[]⟩ .none p.toList fun i hi => ?_)
 rw [← hlen]
 exact List.mem_range.mp (hw.perm.mem_iff.mp hi)
theorem sort_tail (F : Fr h₀ L s.heap m) (O : Own ι h₀ L s.heap σ) (hall : All2 isS S vs) (nd : S.Nodup) (h64 : vs.length < 64) {Q : Value → Shared → Prop}
  (h : ∀ s' D S' vs c,σ D = none → Same s s' → Fr h₀ L s'.heap m → Own ι h₀ L s'.heap (upd σ D (listOf vs.toArray c)) → S'.Perm S → S'.Pairwise (fun a b => sLt a b = true) → All2 isS S' vs → Q (.ref D) s') :
  wpAny (model prog w) A (newList vs >>= fun l => holding [l] (call (.builtin "list.sort") [l]) >>= fun _ => ret l) (fun fin s' => ∃ v,fin = .done (.ret v) ∧ Q v s') E s:=by
 refine wpAny_bind (wpAny_newList ?_ (by rw [sizeLine_eq];lia))
 have hl : σ s.heap.objs.size = none:=O.fresh (Nat.le_refl _)
 have O₂:=O.push F (listOf vs.toArray 0)
 have F₂ : Fr h₀ L (s.heap.push (listOf vs.toArray 0)) m:=F.push _
 refine wpAny_bind (wpAny_holding ?_)
 refine sort_strs (s:={ s with heap:=s.heap.push (listOf vs.toArray 0) }) F₂ O₂ (upd_self ..) hall nd h64 fun s₃ S₃ vs₃ c₃ q₃ F₃ O₃ p₃ w₃ a₃ => ?_
 rw [upd_upd] at O₃
 exact wpAny_pure ⟨_,rfl,h s₃ _ S₃ vs₃ c₃ hl ⟨q₃.1,q₃.2⟩ F₃ O₃ p₃ w₃ a₃⟩
theorem ssorted_str (hh : A.handled = none) (F : Fr h₀ L s.heap m) (O : Own ι h₀ L s.heap σ) (hS : SetAt ld (strV prog w) σ a S) (h64 : S.length < 64) {Q : Value → Shared → Prop}
  (h : ∀ s' D S' vs c,σ D = none → Same s s' → Fr h₀ L s'.heap m → Own ι h₀ L s'.heap (upd σ D (listOf vs.toArray c)) → S'.Perm S → S'.Pairwise (fun a b => sLt a b = true) → All2 isS S' vs → Q (.ref D) s') :
  wpAny (model prog w) A (call (.builtin "sorted") [.ref a]) Q E s:=by
 refine Calls.call_function_entry kind_sorted plain_sorted entry_sorted (args_sorted1 _) ?_
 refine wpAny_bind (m:=checkCount "sorted" 1 1 _) (wpAny_pure ?_)
 refine wpAny_bind (scollect (A:=A.in1) hh F O hS fun s₁ S₁ vs q₁ F₁ O₁ p₁ a₁ l₁ => ?_)
 refine sort_tail F₁ O₁ (a₁.imp fun _ _ r => r) (p₁.nodup_iff.mpr hS.nd) (by exact xs94b ‹_› ‹_›) fun s₃ D S₃ vs₃ c₃ hD q₃ F₃ O₃ p₃ w₃ a₃ => ?_
 exact h s₃ D S₃ vs₃ c₃ hD (q₁.trans q₃) F₃ O₃ (p₃.trans p₁) w₃ a₃
end
section
variable {prog : Program} {w : World} {K : Type} [DecidableEq K] {A : Around} {E : Value → Shared → Prop} {s : Shared} {ι : Sd} {h₀ : Heap} {L a : Addr} {σ : Sg} {m : Str → Option Value} {S : List (List K)} {ld : Prop}
theorem none_hash {Q : Int → Shared → Prop} (h : Q (reduceHash 0xFCA86420) { s with toks:=s.toks + 1 }) : wpAny (model prog w) A (PySem.pyHash .none) Q E s:=by
 have hT : s.TypeIs .none "NoneType":=rfl
 refine pyHash_slot (T:="NoneType") hT PySem.F.slot_NoneType_hash PySem.F.entry_NoneType_hash (PySem.F.args_NoneType_hash_1 _) (beq_builtin_none _) (.inl rfl) ?_
 show wpAny _ _ (retInt 0xFCA86420) _ _ s
 exact wpAny_bind (wpAny_mkInt (wpAny_pure ⟨_,_,rfl,h⟩))
noncomputable def optV (kd : VK prog w K) : VK prog w (Option (List K)) where
 is:=fun g k v => match k with | none => v = .none | some k => (tupV kd).is g k v
 hash:=fun k => match k with | none => reduceHash 0xFCA86420 | some k => (tupV kd).hash k
 dep:=(tupV kd).dep
 draws:=fun k => match k with | none => 1 | some k => (tupV kd).draws k
 inj:=fun {g x y v} h k => by
  cases x <;> cases y
  ·rfl
  ·refine xe32 k fun a _ _ e _ => ?_
   try clear k
   have h : v = .none:=h
   rw [h] at e;cases e
  ·refine xe32 h fun a _ _ e _ => ?_
   try clear h
   have k : v = .none:=k
   rw [k] at e;cases e
  exact congrArg some ((tupV kd).inj h k)
 mono':=fun {g g' k v} t h => by
  cases k with
  | none => exact h
  | some k => exact (tupV kd).mono' t h
 pyHash':=fun {A E s k v Q} hu h q => by
  cases k with
  | none =>
   have h : v = .none:=h
   subst h;exact none_hash q
  | some k => exact (tupV kd).pyHash' hu h q
 eqB:=fun {A E s x y v u Q} hu h k q => by
  cases x <;> cases y
  ·have h : v = .none:=h
   have k : u = .none:=k
   subst h;subst k
   unfold eqBool
   try with_reducible refine wpAny_holding ?_
   show wpAny _ _ (if (Value.none == Value.none) = true then _ else _) Q E s
   exact wpAny_bind (wpAny_rule (wpAny_pure (by simpa using q)))
  ·refine xe33 k fun a items n e ho _ => ?_
   try clear k
   have h : v = .none:=h
   subst h;subst e
   exact PySem.SeqAt.EqAt.none_tuple (items:=items) ⟨_,ho,rfl,n,rfl⟩ (by lia) prog w E Q (by simpa using q)
  ·refine xe33 h fun a items n e ho _ => ?_
   try clear h
   have k : u = .none:=k
   subst k;subst e
   exact PySem.SeqAt.EqAt.tuple_none (items:=items) ⟨_,ho,rfl,n,rfl⟩ (by lia) prog w E Q (by simpa using q)
  exact (tupV kd).eqB hu h k (by simpa using q)
 quiet:=fun {A E s k v Q n} hn h q => by
  cases k with
  | none =>
   have h : v = .none:=h
   subst h;rw [eqIsQuiet_byValue _ rfl];exact wpAny_pure q
  | some k => exact (tupV kd).quiet hn h q
 cls:=fun {A E s k v Q n} hn h q => by
  cases k with
  | none =>
   have h : v = .none:=h
   subst h;cases n <;> exact wpAny_pure q
  | some k => exact (tupV kd).cls hn h q
 byv:=fun {A E s k v Q n} hn h q => by
  cases k with
  | none =>
   have h : v = .none:=h
   subst h;unfold hashByValue;exact wpAny_pure (q _)
  | some k => exact (tupV kd).byv hn h q
theorem none_in {kd : VK prog w K} (hd : (tupV kd).dep ≤ 8) (hu : A.units + 1 + (tupV kd).dep < cLine) (O : Own ι h₀ L s.heap σ) (hS : SetAt ld (tupV kd) σ a S) {Q : Value → Shared → Prop}
  (h : ∀ s',Quiet s s' → Q (.bool false) s') : wpAny (model prog w) A (compareOp .In .none (.ref a)) Q E s:=by
 refine wpAny_bind ?_
 have hT:=hS.typeIs O
 obtain ⟨es,ep,t,h1,h2,h3,h4,h5⟩:=hS.ex
 have hf : t.fits es.size = true:=by have:=h2.fits;simpa using this
 have g1:=O.get h1
 have h3o : All2 (ElemOf (optV kd) s.heap.get?) (S.map some) es.toList:=by
  have h3' : All2 (ElemOf (tupV kd) s.heap.get?) S es.toList:=h3.imp fun _ _ r => r.mono O.txh
  have : ∀ {S : List (List K)} {l : List (Int × Value)},All2 (ElemOf (tupV kd) s.heap.get?) S l → All2 (ElemOf (optV kd) s.heap.get?) (S.map some) l:=fun h => by
   induction h with
   | nil => exact .nil
   | cons r _ ih => exact .cons r ih
  exact this h3'
 unfold contains
 try with_reducible refine wpAny_holding ?_
 refine wpAny_bind (wpAny_specialOf hT PySem.F.slot_set_contains.lookup ?_)
 rw [if_neg (by rw [beq_builtin_none];exact Bool.false_ne_true)]
 refine wpAny_bind (wpAny_callSpecialUnlessNone?_slot (name:=Str.ofString "__contains__") hT PySem.F.slot_set_contains
  (wpAny_call_entry PySem.F.slot_set_contains hT entry_set_contains ?_ (PySem.F.args_set_contains_2 _ _)))
 unfold Builtin.«frozenset.__contains__» Builtin.Frozenset.oneOther
 simp only [List.isEmpty_nil,bind_assoc]
 refine wpAny_bind (wpAny_pure ?_)
 try dsimp only
 refine wpAny_bind (wpAny_pure ?_)
 try dsimp only
 refine wpAny_bind (wpAny_tryCatch ?_)
 refine wpAny_holding (wpAny_bind (none_hash ?_))
 refine wpAny_bind ?_
 unfold setFind
 refine wpAny_bind (wpAny_setState_of (s:={ s with toks:=s.toks + 1 }) (o:=setObj es ep t) g1 rfl hf ?_)
 dsimp only
 cases hb : byScan .none es with
 | true =>
  refine wpAny_bind (wpAny_rule ?_)
  have hes : es.toList = []:=by
   cases hl : es.toList with
   | nil => rfl
   | cons e l =>
    unfold byScan at hb
    rw [← Array.all_toList,hl] at hb
    rw [hl] at h3
    cases h3 with
    | @cons k _ _ _ r _ =>
     refine xe32 r.2 fun b _ _ e2 _ => ?_
     rw [List.all_cons,e2] at hb
     exact nomatch (Bool.and_eq_true_iff.mp (Bool.and_eq_true_iff.mp hb).2).1
  unfold setScan
  dsimp only
  rw [hes]
  refine wpAny_bind (wpAny_pure ?_)
  refine wpAny_pure ?_
  exact wpAny_pure (wpAny_pure ⟨_,rfl,wpAny_truthy_bool (wpAny_pure (h _ ⟨⟨rfl,rfl⟩,rfl⟩))⟩)
 | false =>
  refine xe11 (first h2.toClean (reduceHash 0xFCA86420)) fun N f => ?_
  refine wpAny_bind (search_from (kd:=optV kd) (k:=none) (s:={ s with toks:=s.toks + 1 }) hd (by exact hu) (Refs.elems (tup_refs kd) h3) g1 h2 h3o rfl f (fun i hi => ?_) (fun hn => ?_) _ 0 none (Nat.zero_le _) (by have:=f.le;have:=h5.1;lia) rfl fun n i h => absurd h (Nat.not_lt_zero _))
  ·rw [List.getElem?_map] at hi
   cases hq : S[i]? with
   | none => rw [hq] at hi;cases hi
   | some _ => rw [hq] at hi;cases hi
  dsimp only
  refine wpAny_pure ?_
  exact wpAny_pure (wpAny_pure ⟨_,rfl,wpAny_truthy_bool (wpAny_pure (h _ ⟨⟨rfl,rfl⟩,rfl⟩))⟩)
end
noncomputable abbrev lse : List Str:=looseW vw [Str.ofString "FSA",Str.ofString "DFA",Str.ofString "levenshtein_automaton"]
structure Cx (w : World) (A : Around) (h₀ : Heap) (L : Addr) (d : Nat) : Prop where
 fr : ∃ env outer A₀ base,Below A₀ base outer h₀ ∧ A.frames = some (env :: outer) ∧ env.frame = some L ∧ env.scope.kind = .function
 X : (pre.heap_1 w.params).In h₀
 T : ∃ mean mg mb,Top vw lse mean mg mb h₀
 hh : A.handled = none
 hd : A.depth + d ≤ 900
 hu : A.units + 20 * d ≤ 9000
theorem Cx.le {w : World} {A : Around} {h₀ : Heap} {L : Addr} {d d' : Nat} (C : Cx w A h₀ L d) (h : d' ≤ d) : Cx w A h₀ L d' :=
 ⟨C.fr,C.X,C.T,C.hh,by have:=C.hd;lia,by have:=C.hu;lia⟩
structure Spec (w : World) (f : Addr) (d : Nat) (args : List Value) (kw : List (Str × Value)) (σ : Sg) (P : Value → Sg → Prop) : Prop where
 run : ∀ {A : Around} {h₀ : Heap} {L : Addr} {m : Str → Option Value} {ι : Sd} {s : Shared} {R : Result → Shared → Prop},Cx w A h₀ L d → Fr h₀ L s.heap m → Own ι h₀ L s.heap σ →
  (∀ v σ' s',Same s s' → Fr h₀ L s'.heap m → Own ι h₀ L s'.heap σ' → P v σ' → R (.ok (.ret v)) s') → codeAny (model pg w) A (.call (.ref f) ⟨args,kw⟩) R s
theorem Spec.call {w : World} {f : Addr} {d : Nat} {args : List Value} {kw : List (Str × Value)} {σ : Sg} {P : Value → Sg → Prop} (S : Spec w f d args kw σ P) {A : Around} {h₀ : Heap} {L : Addr} {m : Str → Option Value} {ι : Sd} {s : Shared} {Q E : Value → Shared → Prop} (C : Cx w A h₀ L d) (F : Fr h₀ L s.heap m) (O : Own ι h₀ L s.heap σ)
  (k : ∀ v σ' s',Same s s' → Fr h₀ L s'.heap m → Own ι h₀ L s'.heap σ' → P v σ' → Q v s') : wpAny (model pg w) A (PySem.call (.ref f) args kw) Q E s :=
 wpAny_call (S.run C F O k)
theorem Spec.mono {w : World} {f : Addr} {d d' : Nat} {args : List Value} {kw : List (Str × Value)} {σ : Sg} {P P' : Value → Sg → Prop} (S : Spec w f d args kw σ P) (hd : d ≤ d') (h : ∀ v σ',P v σ' → P' v σ') : Spec w f d' args kw σ P' :=
 ⟨fun C F O k => S.run (C.le hd) F O fun v σ' s' q F' O' p => k v σ' s' q F' O' (h v σ' p)⟩
inductive Ends (ι : Sd) (g : Heap) (L : Addr) (s : Shared) (P : Value → Sg → Prop) (v : Value) (s' : Shared) : Prop
 | ofx (m') (σ') (h1 : Same s s') (h2 : Fr g L s'.heap m') (h3 : Own ι g L s'.heap σ') (h4 : P v σ')
theorem Ends.mk' {ι : Sd} {g : Heap} {L : Addr} {s : Shared} {P : Value → Sg → Prop} {v : Value} {s' : Shared} {m' : Str → Option Value} {σ' : Sg} (S : Same s s') (F : Fr g L s'.heap m') (O : Own ι g L s'.heap σ') (h : P v σ') : Ends ι g L s P v s':=⟨_,_,S,F,O,h⟩
theorem Cx.room {w : World} {A : Around} {h₀ : Heap} {L : Addr} {d : Nat} (C : Cx w A h₀ L d) : A.units ≤ 9000:=by have:=C.hu;lia
theorem Cx.r1 {w : World} {A : Around} {h₀ : Heap} {L : Addr} {d : Nat} (C : Cx w A h₀ L d) {j : Nat} (hj : j ≤ 20) : A.units + j + (k1 pg w).dep < cLine:=by have:=C.room;show A.units + j + (0 + 1) < 9900;lia
theorem Cx.r2 {w : World} {A : Around} {h₀ : Heap} {L : Addr} {d : Nat} (C : Cx w A h₀ L d) {j : Nat} (hj : j ≤ 20) : A.units + j + (k2 pg w).dep < cLine:=by have:=C.room;show A.units + j + (0 + 1 + 1) < 9900;lia
theorem k1d (prog : Program) (w : World) : (k1 prog w).dep ≤ 8:=by show 0 + 1 ≤ 8;decide
theorem k2d (prog : Program) (w : World) : (k2 prog w).dep ≤ 8:=by show 0 + 1 + 1 ≤ 8;decide
theorem k1r (prog : Program) (w : World) : Refs (k1 prog w):=tup_refs _
theorem k2r (prog : Program) (w : World) : Refs (k2 prog w):=tup_refs _
noncomputable def retOf : Flow → Value
 | .ret v => v
 | _ => .none
theorem xH {M : Model} {A : Around} {env : Env} {st : Stmt} {rest : List Stmt} {Q : Flow → Shared → Prop} {E : Value → Shared → Prop} {s : Shared}
  (h : let R:=Q;let K : Flow → Shared → Prop:=fun f s' => match f with | .next => wpAny M A (execs rest env) R E s' | f => R f s';wpAny M A (exec st env) K E s) : wpAny M A (execs (st :: rest) env) Q E s:=wpAny_execs_cons h
theorem spec_of {w : World} {f : Addr} {d : Nat} {args : List Value} {kw : List (Str × Value)} {σ : Sg} {P : Value → Sg → Prop}
  {name qual : Str} {params : Arguments} {body : List Stmt} {scope : Scope} {dV kV doc pm cdv ct oc : Value} {an od : Option Addr} {osl : Array (Option Value)} {binds : List (Str × Value)}
  (ho : (pre.heap_1 w.params).lookup f = some ⟨oc,od,.func (fnOf name qual params body scope dV kV doc pm an cdv ct),osl⟩) (hcd : codeIn (pre.heap_1 w.params) cdv qual = true)
  (hbind : ∀ s,(pre.heap_1 w.params).In s.heap → BindsTo s (fnOf name qual params body scope dV kV doc pm an cdv ct) ⟨args,kw⟩ binds) (hloc : ∀ y ∈ binds,scope.names.lookup y.1 = some .local)
  (hco : scope.isCoroutine = false) (hgen : scope.isGenerator = false) (hk : scope.kind = .function) (hcell : ∀ x ∈ scope.names,x.2 ≠ .cell)
  (h : ∀ A g L' ι s,Cx w A g L' d → Fr g L' s.heap (fun y => binds.reverse.lookup y) → Own ι g L' s.heap σ →
   let env:=envOf qual scope L' f cdv
   let R : Flow → Shared → Prop:=fun fl s' => Ends ι g L' s P (retOf fl) s'
   wpAny (model pg w) A (execs body env) R (fun _ _ => False) s) :
  Spec w f (d + 1) args kw σ P:=by
 refine ⟨fun {A h₀ L m ι s R} C F O k => ?_⟩
 refine xe44 C.fr fun env outer A₀ base B hA hf hke => ?_
 refine xe31 C.T fun mean mg mb T => ?_
 refine call_def B F C.X O T hA hf hke ho hcd (by have:=C.hd;show _ < 1000;lia) (hbind _ (C.X.keeps F.keep)) hloc (fun g L' s' S F' O' B' X' T' => ?_) hco hgen hk hcell
 refine wpAny_mono (h (A.deeper (envOf qual scope L' f cdv)) g L' ι s' ⟨⟨envOf qual scope L' f cdv,env :: outer,_,_,B',?_,rfl,hk⟩,X',⟨_,_,_,T'⟩,C.hh,?_,?_⟩ F' O') (fun fl s'' h' => ?_) fun _ _ e => e.elim
 ·show (A.frames.map (_ :: ·)) = _
  rw [hA];rfl
 ·have:=C.hd;show A.depth + 1 + d ≤ 900;lia
 ·have:=C.hu;show A.units + 3 + 20 * d ≤ 9000;lia
 obtain ⟨m',σ',S',F'',O'',hP⟩:=h'
 refine leaveS F'' O'' fun FF OO => ?_
 cases fl <;> exact k _ _ _ (S.trans S') FF OO hP
theorem Cx.make {w : World} {A : Around} {h₀ : Heap} {L C : Addr} {d : Nat} {args : List Value} {kw : List (Str × Value)} (X : Cx w A h₀ L (d + 1)) : Cx w (A.under (.builtin "type.__call__" ⟨.ref C :: args,kw⟩)) h₀ L d:=by
 refine xe44 X.fr fun env outer A₀ base B hA hf hk => ?_
 refine ⟨⟨env,outer,A₀,base,B,?_,hf,hk⟩,X.X,X.T,X.hh,?_,?_⟩
 ·obtain ⟨a1,a2,a3,a4,a5⟩:=A
  simp only at hA
  subst hA
  rfl
 ·have h1:=X.hd
  have h2:=depth_under_kw A C args kw
  rw [h2];lia
 have h1:=X.hu
 have h2 : (A.under (.builtin "type.__call__" ⟨.ref C :: args,kw⟩)).units ≤ A.units + 10:=by
  first
   | exact Nat.le_trans (Nat.le_of_eq (show _ = A.units + 1 from rfl)) (by lia)
   | exact Nat.le_trans (Nat.le_of_eq (show _ = A.units + 7 from rfl)) (by lia)
   | exact Nat.le_trans (Nat.le_of_eq (show _ = A.units + 3 from rfl)) (by lia)
   | exact Nat.le_trans (Nat.le_of_eq (show _ = A.units + 10 from rfl)) (by lia)
 lia
theorem spec_make {w : World} {C fI : Addr} {d : Nat} {args : List Value} {kw : List (Str × Value)} {σ : Sg} {P : Addr → Sg → Prop} (hm : makesIn (pre.heap_1 w.params) C = true) (hi : findIn (pre.heap_1 w.params) (.ref C) "__init__" = some (some (.ref fI))) (hf : isFn (pre.heap_1 w.params) (.ref fI) = true)
  (S : ∀ x dx,σ x = none → σ dx = none → x ≠ dx → Spec w fI d (.ref x :: args) kw (upd (upd σ dx (dictOf [] 0)) x (instObj C dx)) (fun v σ' => v = .none ∧ P x σ')) :
  Spec w C (d + 1) args kw σ (fun v σ' => ∃ x,v = .ref x ∧ P x σ'):=by
 refine ⟨fun {A h₀ L m ι s R} X F O k => ?_⟩
 refine make_K F (O.news s.heap.objs.size) (X.X.keeps F.keep) hm hi (beq_iff_eq.mp hf) fun x dx h' F' N' hlt hltx => ?_
 have hn : ∀ b,(∃ o,σ b = some o) → b < dx:=fun b zm1 => xe11 zm1 fun o e => hlt (b,o) (List.mem_append_left _ (mem_toL.mpr ⟨O.lt e,e⟩))
 have hdx : σ dx = none:=by
  cases q : σ dx with
  | none => rfl
  | some o => exact absurd (hn dx ⟨o,q⟩) (Nat.lt_irrefl _)
 have hx : σ x = none:=by
  cases q : σ x with
  | none => rfl
  | some o => exact absurd (hn x ⟨o,q⟩) (Nat.not_lt.mpr (Nat.le_of_lt hltx))
 have hne : x ≠ dx:=Nat.ne_of_gt hltx
 refine (S x dx hx hdx hne).run (ι:=ι) (X.make) F' ⟨fun b o e => ?_,fun p hp => ?_⟩ fun v σ' s' q F'' O'' hP => ?_
 ·by_cases h1 : b = x
  ·subst h1;rw [upd_self] at e;cases e;exact N' _ (.head _)
  rw [upd_ne h1] at e
  by_cases h2 : b = dx
  ·subst h2;rw [upd_self] at e;cases e;exact N' _ (.tail _ (.head _))
  rw [upd_ne h2] at e
  exact N' (b,o) (.tail _ (.tail _ (List.mem_append_left _ (mem_toL.mpr ⟨O.lt e,e⟩))))
 ·refine xe03 (N' p (.tail _ (.tail _ (List.mem_append_right _ hp)))) fun a1 a2 a3 => ?_
  have hp':=hlt p (List.mem_append_right _ hp)
  refine ⟨a1,a2,a3,?_⟩
  rw [upd_ne (Nat.ne_of_lt (Nat.lt_trans hp' hltx)),upd_ne (Nat.ne_of_lt hp')]
  exact (O.side p hp).2.2.2
 refine xe02 hP fun zq1 _ => ?_
 clear hP
 rename_i hP
 subst zq1
 exact ⟨rfl,k _ σ' s' ⟨q.1,q.2⟩ F'' O'' ⟨x,rfl,hP⟩⟩
section
variable {w : World} {A : Around} {E : Value → Shared → Prop} {s : Shared} {ι : Sd} {h₀ : Heap} {L x dx C : Addr} {σ : Sg} {m : Str → Option Value} {es es' : List DictEntry} {n n' : Nat} {v : Value} {name : Str}
structure Inst (σ : Sg) (x dx C : Addr) (es : List DictEntry) (n : Nat) : Prop where
 obj : σ x = some (instObj C dx)
 dict : σ dx = some (dictOf es n)
theorem Inst.at_ (I : Inst σ x dx C es n) (O : Own ι h₀ L s.heap σ) : InstAt s.heap x (instObj C dx) C (some (dictOf es n)):=⟨O.get I.obj,rfl,rfl,O.get I.dict⟩
theorem Inst.move {σ' : Sg} (I : Inst σ x dx C es n) (e : Ext σ σ') : Inst σ' x dx C es n:=⟨e _ _ I.obj,e _ _ I.dict⟩
theorem iget {expr : Bool} {Q : Value → Shared → Prop} {attr : Option Value} (F : Fr h₀ L s.heap m) (X : (pre.heap_1 w.params).In h₀) (O : Own ι h₀ L s.heap σ) (I : Inst σ x dx C es n) (hg : plainGet (pre.heap_1 w.params) C name = true) (hh : hasDictIn (pre.heap_1 w.params) C = true)
  (ha : findIn (pre.heap_1 w.params) (.ref C) name = some attr) (hn : noGet (pre.heap_1 w.params) attr = true) (hl : getL name es = some (some v)) (hv : handedIn v = true) (h : ∀ s',Quiet s s' → Q v s') :
  wpAny (model pg w) A (getAttr (.ref x) name expr) Q E s :=
 get_own F X (I.at_ O) hg hh ha hn hl hv (h _ ⟨⟨rfl,rfl⟩,rfl⟩)
theorem imeth {pl : Sem Bool} {Q : Value × List Value → Shared → Prop} {f : Addr} (F : Fr h₀ L s.heap m) (X : (pre.heap_1 w.params).In h₀) (O : Own ι h₀ L s.heap σ) (I : Inst σ x dx C es n) (hg : plainGet (pre.heap_1 w.params) C name = true)
  (hf : findIn (pre.heap_1 w.params) (.ref C) name = some (some (.ref f))) (ht : isFn (pre.heap_1 w.params) (.ref f) = true) (hl : getL name es = some none) (h : Q (.ref f,[.ref x]) s) : wpAny (model pg w) A (getMethod (.ref x) name pl) Q E s :=
 method_inst F X (I.at_ O) hg hf ht hl h
theorem iset {Q : Unit → Shared → Prop} (F : Fr h₀ L s.heap m) (X : (pre.heap_1 w.params).In h₀) (O : Own ι h₀ L s.heap σ) (I : Inst σ x dx C es n)
  (hs : findIn (pre.heap_1 w.params) (.ref C) "__setattr__" = some (some (.builtin "object.__setattr__"))) (hp : plainOver (pre.heap_1 w.params) C = true) (ht : takerIn (pre.heap_1 w.params) C name = some none) (hh : hasDictIn (pre.heap_1 w.params) C = true) (hl : (getL name es).isSome = true)
  (hz : es.length ≤ 100)
  (h : ∀ s' hs tk,Same s s' → Fr h₀ L s'.heap m → Own ι h₀ L s'.heap (upd σ dx (dictOf (putL name hs (.str name tk) v es) (putN name es n))) → Q () s') :
  wpAny (model pg w) A (setAttr (.ref x) name v) Q E s:=by
 have hz' : (putL name (PyData.keyHash w.params name) (.str name (s.toks + 1)) v es).length ≤ 1000:=by
  have : ∀ l : List DictEntry,(putL name (PyData.keyHash w.params name) (.str name (s.toks + 1)) v l).length ≤ l.length + 1:=fun l => by
   induction l with
   | nil => simp [putL]
   | cons e l ih => unfold putL;split <;> simp <;> lia
  have:=this es
  lia
 have hnews : News h₀ L s.heap ((dx,dictOf es n) :: (toL (del σ dx) s.heap.objs.size ++ ι)):=fun p hp => by
  rcases List.mem_cons.mp hp with rfl | hp
  ·exact O.cell _ _ I.dict
  rcases List.mem_append.mp hp with hp | hp
  ·have:=(mem_toL.mp hp).2
   unfold del at this
   split at this
   ·cases this
   exact O.cell _ _ this
  exact ⟨(O.side p hp).1,(O.side p hp).2.1,(O.side p hp).2.2.1⟩
 have hne : ∀ p ∈ toL (del σ dx) s.heap.objs.size ++ ι,p.1 ≠ dx:=fun p hp z => by
  rcases List.mem_append.mp hp with hp | hp
  ·have:=(mem_toL.mp hp).2
   unfold del at this
   rw [if_pos z] at this;cases this
  have:=(O.side p hp).2.2.2
  rw [z,I.dict] at this;cases this
 refine set_dict (news:=(dx,dictOf es n) :: (toL (del σ dx) s.heap.objs.size ++ ι)) F X hnews (I.at_ O) rfl hs hp ht hh hl rfl (.head hne) hz' fun h' F' N' => ?_
 refine h { s with heap:=h',toks:=s.toks + 2 } (PyData.keyHash w.params name) (s.toks + 1) ⟨rfl,rfl⟩ F' ⟨fun b o e => ?_,fun p hp => ?_⟩
 ·by_cases hb : b = dx
  ·subst hb;rw [upd_self] at e;cases e;exact N' _ (.head _)
  rw [upd_ne hb] at e
  exact N' (b,o) (.tail _ (List.mem_append_left _ (mem_toL.mpr ⟨O.lt e,by unfold del;rw [if_neg hb];exact e⟩)))
 have hb:=hne p (List.mem_append_right _ hp)
 refine xe03 (N' p (.tail _ (List.mem_append_right _ hp))) fun a1 a2 a3 => ?_
 exact ⟨a1,a2,a3,by rw [upd_ne hb];exact (O.side p hp).2.2.2⟩
end
theorem quietly {s : Shared} {ι : Sd} {h₀ : Heap} {L : Addr} {σ : Sg} {m : Str → Option Value} {Q : Shared → Prop} (F : Fr h₀ L s.heap m) (O : Own ι h₀ L s.heap σ) (k : ∀ s',Same s s' → Fr h₀ L s'.heap m → Own ι h₀ L s'.heap σ → Q s') : ∀ s',Quiet s s' → Q s' :=
 fun s' q => k s' q.1 (by rw [q.2];exact F) (by rw [q.2];exact O)
inductive Less (I : Nat → Shared → Prop) (n : Nat) (s : Shared) : Prop
 | ofx (k) (h1 : k < n) (h2 : I k s)
theorem Less.ex {I : Nat → Shared → Prop} {n : Nat} {s : Shared} : Less I n s → ∃ k,k < n ∧ I k s
 | .ofx k a b => ⟨k,a,b⟩
theorem whileL {prog : Program} {w : World} {A : Around} {E : Value → Shared → Prop} {s : Shared} {env : Env} {test : Expr} {body orelse : List Stmt} {pos : Pos} {Q : Flow → Shared → Prop} (I : Nat → Shared → Prop) (n : Nat) (hI : I n s)
  (turn : ∀ n s,I n s →
   wpAny (model prog w) A (isTrue test env (eval test env)) (fun b s₂ =>
    if b = true then wpAny (model prog w) A (execs body env) (fun f s₃ => match f with
      | .next | .cont => Less I n s₃
      | .brk => Q .next s₃
      | .ret v => Q (.ret v) s₃) (fun _ _ => False) s₂
    else wpAny (model prog w) A (execs orelse env) Q (fun _ _ => False) s₂)
    (fun _ _ => False) s) : wpAny (model prog w) A (exec (.While test body orelse pos) env) Q E s:=by
 refine while_ I n hI fun n s hs => wpAny_mono (turn n s hs) (fun b s₂ h => ?_) fun _ _ e => e
 cases b with
 | false => exact h
 | true =>
  simp only [if_true] at h ⊢
  refine wpAny_mono h (fun f s₃ h₃ => ?_) fun _ _ e => e
  cases f with
  | next => exact h₃.ex
  | cont => exact h₃.ex
  | brk => exact h₃
  | ret v => exact h₃
inductive Turn (J : Nat → (Str → Option Value) → Sg → Prop) (ι : Sd) (g : Heap) (L : Addr) (s₁ : Shared) (i : Nat) (s₂ : Shared) : Prop
 | ofx (m₂) (σ₂) (h1 : Same s₁ s₂) (h2 : Fr g L s₂.heap m₂) (h3 : Own ι g L s₂.heap σ₂) (h4 : J i m₂ σ₂)
theorem Turn.ex {J : Nat → (Str → Option Value) → Sg → Prop} {ι : Sd} {g : Heap} {L : Addr} {s₁ : Shared} {i : Nat} {s₂ : Shared} : Turn J ι g L s₁ i s₂ → ∃ m₂ σ₂,Same s₁ s₂ ∧ Fr g L s₂.heap m₂ ∧ Own ι g L s₂.heap σ₂ ∧ J i m₂ σ₂
 | .ofx m a b c d e => ⟨m,a,b,c,d,e⟩
theorem Turn.mk' {J : Nat → (Str → Option Value) → Sg → Prop} {ι : Sd} {g : Heap} {L : Addr} {s₁ s₂ : Shared} {i : Nat} {m₂ : Str → Option Value} {σ₂ : Sg} (q : Same s₁ s₂) (F : Fr g L s₂.heap m₂) (O : Own ι g L s₂.heap σ₂) (h : J i m₂ σ₂) : Turn J ι g L s₁ i s₂:=⟨_,_,q,F,O,h⟩
section
variable {prog : Program} {w : World} {K : Type} [DecidableEq K] {kd : VK prog w K} {A : Around} {E : Value → Shared → Prop} {s : Shared} {ι : Sd} {h₀ : Heap} {L d : Addr} {σ : Sg} {m : Str → Option Value} {k : K} {x v : Value} {f : K → Option Value} {value slice : Expr} {g : Str → Option Value} {l : Str} {t : Tok}
theorem dsub (hd : kd.dep ≤ 8) (hr : Refs kd) (hu : A.units + 1 + kd.dep < cLine) (F : Fr h₀ L s.heap m) (O : Own ι h₀ L s.heap σ) (D : DH kd σ d f) (hx : kd.is σ k x) (hv : f k = some v) {Q : Value → Shared → Prop}
  (h : ∀ s',Same s s' → Fr h₀ L s'.heap m → Own ι h₀ L s'.heap σ → Q v s') (hs : subscripted slice false (.ref d) x = operate [.ref d,x] (getItem (.ref d) x):=by with_unfolding_all rfl) : wpAny (model prog w) A (subscriptTail value slice (.ref d) x) Q E s :=
 subscriptTail_builtinR (D.typeIs O) slot_dict_getitem.lookup (dget hd hr hu O D hx hv (quietly F O fun s' q F' O' => ⟨rfl,h s' q F' O'⟩)) hs
theorem sdsub (F : Fr h₀ L s.heap m) (O : Own ι h₀ L s.heap σ) (D : DS prog w σ d g) (hv : g l = some v) {Q : Value → Shared → Prop}
  (h : ∀ s',Same s s' → Fr h₀ L s'.heap m → Own ι h₀ L s'.heap σ → Q v s') (hs : subscripted slice false (.ref d) (.str l t) = operate [.ref d,.str l t] (getItem (.ref d) (.str l t)):=by with_unfolding_all rfl) : wpAny (model prog w) A (subscriptTail value slice (.ref d) (.str l t)) Q E s :=
 subscriptTail_builtinR (D.typeIs O) slot_dict_getitem.lookup (sdget O D hv (quietly F O fun s' q F' O' => ⟨rfl,h s' q F' O'⟩)) hs
theorem znewList {vs : List Value} (F : Fr h₀ L s.heap m) (O : Own ι h₀ L s.heap σ) (hz : vs.length ≤ 100000) {Q : Value → Shared → Prop} (h : ∀ s' l,σ l = none → Same s s' → Fr h₀ L s'.heap m → Own ι h₀ L s'.heap (upd σ l (listOf vs.toArray 0)) → Q (.ref l) s') : wpAny (model prog w) A (newList vs) Q E s:=by
 refine wpAny_newList ?_ (by rw [sizeLine_eq];lia)
 exact h { s with heap:=s.heap.push (listOf vs.toArray 0) } _ (O.fresh (Nat.le_refl _)) ⟨rfl,rfl⟩ (F.push _) (O.push F _)
theorem znewTuple {vs : List Value} (F : Fr h₀ L s.heap m) (O : Own ι h₀ L s.heap σ) (hz : vs.length ≤ 100000) {Q : Value → Shared → Prop} (h : ∀ s' l,σ l = none → Same s s' → Fr h₀ L s'.heap m → Own ι h₀ L s'.heap (upd σ l (tupOf vs 0)) → Q (.ref l) s') : wpAny (model prog w) A (newTuple vs) Q E s:=by
 refine wpAny_newTuple ?_ (by rw [sizeLine_eq];lia)
 exact h { s with heap:=s.heap.push (tupOf vs 0) } _ (O.fresh (Nat.le_refl _)) ⟨rfl,rfl⟩ (F.push _) (O.push F _)
end
theorem forTup {prog : Program} {w : World} {A : Around} {E : Value → Shared → Prop} {s : Shared} {ι : Sd} {h₀ : Heap} {σ : Sg} {m : Str → Option Value} {env : Env} {x : Str} {px : Pos} {body orelse : List Stmt} {Q : Flow → Shared → Prop} {la : Addr} {items : Array Value} {cn : Nat}
  (J : Nat → (Str → Option Value) → Sg → Prop) (hh : A.handled = none) (F : Fr h₀ env.locals s.heap m) (O : Own ι h₀ env.locals s.heap σ) (ht : ∀ i m σ,J i m σ → σ la = some ({ cls:=.type "tuple",data:=.seq items cn } : Obj)) (h0 : J 0 m σ)
  (step : ∀ i v m₁ σ₁ s₁ ι',(∀ h σ,Own ι' h₀ env.locals h σ → Own ι h₀ env.locals h σ) → Same s s₁ → i < items.size → items[i]? = some v → J i m₁ σ₁ →
   Fr h₀ env.locals s₁.heap (fun y => if y = x then some v else m₁ y) → Own ι' h₀ env.locals s₁.heap σ₁ →
   wpAny (model prog w) A (execs body env) (fun f s₂ => match f with
    | .next | .cont => Turn J ι' h₀ env.locals s₁ (i + 1) s₂
    | .brk => Q .next s₂
    | .ret v => Q (.ret v) s₂) (fun _ _ => False) s₁)
  (done : ∀ m₁ σ₁ s₁,Same s s₁ → Fr h₀ env.locals s₁.heap m₁ → Own ι h₀ env.locals s₁.heap σ₁ → J items.size m₁ σ₁ → wpAny (model prog w) A (execs orelse env) Q (fun _ _ => False) s₁)
  (hx : env.kindOf x = some .local:=by rfl) (hp : (env.scope.kind == .class || (env.scope.kind == .module && env.locals != env.globals)) = false:=by rfl) :
  wpAny (model prog w) A (pyIter (.ref la)) (fun it s₂ => codeAny (model prog w) A (.forLoop (.Name x px) it body orelse env) (fun r s' => match r with | .ok f => Q f s' | .error e => cameBackBy (model prog w) A env E e s') s₂) E s:=by
 have hla:=ht 0 m σ h0
 refine wpAny_pyIter_tuple ⟨_,O.get hla,rfl,cn,rfl⟩ ?_
 refine xe02 (newBase F) fun n1 n2 => ?_
 have hne : la ≠ s.heap.objs.size:=Nat.ne_of_lt (O.lt hla)
 have k : ∀ b o,s.heap.get? b = some o → (s.heap.push { cls:=.type "tuple_iterator",data:=.fields #[.ref la,.int 0 0] }).get? b = some o:=fun b o e => Heap.get?_push_of_some _ e
 refine forW (s:={ s with heap:=s.heap.push { cls:=.type "tuple_iterator",data:=.fields #[.ref la,.int 0 0] } }) (h₀:=h₀) (σ:=σ) (m:=m) (ι:=ι) J (Walks.tuple hh s.heap.objs.size la hne items) hx hp (fun i h st b hb => ?_) (fun b hb => ?_) (fun b hb hb' => ?_) ⟨⟨_,Heap.get?_push_size _ rfl,rfl,rfl⟩,⟨_,k _ _ (O.get hla),rfl,cn,rfl⟩⟩ (F.push _) (O.more k) h0 (fun i v m₁ σ₁ s₁ ι' w₁ q₁ hi hv hJ F₁ O₁ => ?_) fun m₁ σ₁ s₁ q₁ F₁ O₁ hJ => done m₁ σ₁ s₁ ⟨q₁.1,q₁.2⟩ F₁ O₁ hJ
 ·simp only [List.mem_singleton] at hb
  subst hb
  refine xe02 st fun zq2 _ => ?_
  try clear st
  refine xe12 zq2 fun o ho _ => ?_
  try clear zq2
  exact ⟨o,ho⟩
 ·simp only [List.mem_singleton] at hb
  subst hb
  exact ⟨n1,n2,O.fresh (Nat.le_refl _),fun p hp => Nat.ne_of_lt (Heap.lt_size (O.side p hp).1)⟩
 ·have : b = la:=by
   rcases List.mem_cons.mp hb with z | z
   ·exact absurd (by rw [z];exact List.mem_singleton.mpr rfl) hb'
   exact List.mem_singleton.mp z
  subst this
  exact .inr ⟨_,ht⟩
 refine wpAny_mono (step i v m₁ σ₁ s₁ ι' w₁ ⟨q₁.1,q₁.2⟩ hi hv hJ F₁ O₁) (fun f s₂ h₂ => ?_) fun _ _ e => e
 cases f with
 | next => exact h₂.ex
 | cont => exact h₂.ex
 | brk => exact h₂
 | ret v => exact h₂
noncomputable abbrev St:=List Int
noncomputable abbrev eps : Str:=Str.ofString "<EPSILON>"
noncomputable abbrev anyS : Str:=Str.ofString "<ANY>"
structure Nfa where
 tr : St → Str → St → Prop
 fin : St → Prop
 ini : St
 U : List St
 LU : List Str
structure NfaCells where
 dx : Addr
 D : Addr
 Fa : Addr
 iv : Addr
 h1 : Int
 h2 : Int
 h3 : Int
 t1 : Tok
 t2 : Tok
 t3 : Tok
 n : Nat
 inner : St → Option Addr
 lab : St → Str → Option Addr
noncomputable abbrev nfaEs (c : NfaCells) : List DictEntry:=[⟨c.h1,.str (Str.ofString "transitions") c.t1,.ref c.D⟩,⟨c.h2,.str (Str.ofString "final_states") c.t2,.ref c.Fa⟩,⟨c.h3,.str (Str.ofString "initial") c.t3,.ref c.iv⟩]
structure NfaIs (w : World) (σ : Sg) (x : Addr) (N : Nfa) (c : NfaCells) : Prop where
 inst : Inst σ x c.dx 236 (nfaEs c) c.n
 tr : DH (k1 pg w) σ c.D (fun k => (c.inner k).map Value.ref)
 inn : ∀ k d,c.inner k = some d → DS pg w σ d (fun l => (c.lab k l).map Value.ref)
 lab : ∀ k l a,c.lab k l = some a → ∃ S,SetIn (k1 pg w) σ a S ∧ ∀ d,d ∈ S ↔ N.tr k l d
 has : ∀ k l d,N.tr k l d → ∃ a,c.lab k l = some a
 ne : ∀ k l a,c.lab k l = some a → ∃ d,N.tr k l d
 lin : ∀ k l a,c.lab k l = some a → ∃ d,c.inner k = some d
 inj1 : ∀ k k' d,c.inner k = some d → c.inner k' = some d → k = k'
 inj2 : ∀ k l k' l' a,c.lab k l = some a → c.lab k' l' = some a → k = k' ∧ l = l'
 fin : ∃ S,SetIn (k1 pg w) σ c.Fa S ∧ ∀ k,k ∈ S ↔ N.fin k
 finl : ∀ k l,c.lab k l ≠ some c.Fa
 ini : (k1 pg w).is σ N.ini (.ref c.iv)
 dD : c.dx ≠ c.D
 dI : ∀ k,c.inner k ≠ some c.dx
 DI : ∀ k,c.inner k ≠ some c.D
 bU : N.U.length ≤ 60
 bL : N.LU.length ≤ 60
 trU : ∀ k l d,N.tr k l d → d ∈ N.U
 innU : ∀ k d,c.inner k = some d → k ∈ N.U
 labU : ∀ k l a,c.lab k l = some a → l ∈ N.LU
 finU : ∀ k,N.fin k → k ∈ N.U
 iniU : N.ini ∈ N.U
 neU : ∀ k ∈ N.U,k ≠ []
theorem NfaIs.move {w : World} {σ σ' : Sg} {x : Addr} {N : Nfa} {c : NfaCells} (h : NfaIs w σ x N c) (e : Ext σ σ') : NfaIs w σ' x N c :=
 { h with
  inst:=h.inst.move e
  tr:=h.tr.move e.tx fun o => e _ _
  inn:=fun k d q => (h.inn k d q).move fun o => e _ _
  lab:=fun k l a q => let ⟨S,s1,s2⟩:=h.lab k l a q;⟨S,s1.move e.tx fun o => e _ _,s2⟩
  fin:=let ⟨S,s1,s2⟩:=h.fin;⟨S,s1.move e.tx fun o => e _ _,s2⟩
  ini:=(k1 pg w).mono e.tx h.ini }
noncomputable def NfaAt (w : World) (σ : Sg) (x : Addr) (N : Nfa) : Prop:=∃ c,NfaIs w σ x N c
inductive Clo (tr : St → Str → St → Prop) (S : St → Prop) : St → Prop
 | base {k} : S k → Clo tr S k
 | step {k d} : Clo tr S k → tr k eps d → Clo tr S d
theorem nodup_sub {K : Type} [DecidableEq K] {l U : List K} (nd : l.Nodup) (h : ∀ k ∈ l,k ∈ U) : l.length ≤ U.length:=by
 induction l generalizing U with
 | nil => exact Nat.zero_le _
 | cons y l ih =>
  rw [List.nodup_cons] at nd
  have:=ih (U:=U.erase y) nd.2 fun k hk => (List.mem_erase_of_ne (fun q => by subst q;exact nd.1 hk)).mpr (h k (.tail _ hk))
  have hy:=h y (.head _)
  rw [List.length_erase_of_mem hy] at this
  have:=List.length_pos_of_mem hy
  exact xs21 ‹_› ‹_›
section
variable {prog : Program} {w : World} {K : Type} [DecidableEq K] {kd : VK prog w K} {A : Around} {E : Value → Shared → Prop} {s : Shared} {ι : Sd} {h₀ : Heap} {L d : Addr} {σ : Sg} {f : K → Option Value} {g : Str → Option Value} {name : Str} {id : String} {pl : Sem Bool}
theorem dmeth {Q : Value × List Value → Shared → Prop} (O : Own ι h₀ L s.heap σ) (D : DH kd σ d f) (slot : Slot "dict" name id) (hty : typeOf (.builtin id) = pure (.type "method_descriptor"))
  (h : Q (.builtin id,[.ref d]) s) : wpAny (model prog w) A (getMethod (.ref d) name pl) Q E s :=
 getMethod_builtin (D.typeIs O) PySem.F.plainAttrs_dict slot hty (D.noDict O) h
theorem sdmeth {Q : Value × List Value → Shared → Prop} (O : Own ι h₀ L s.heap σ) (D : DS prog w σ d g) (slot : Slot "dict" name id) (hty : typeOf (.builtin id) = pure (.type "method_descriptor"))
  (h : Q (.builtin id,[.ref d]) s) : wpAny (model prog w) A (getMethod (.ref d) name pl) Q E s :=
 getMethod_builtin (D.typeIs O) PySem.F.plainAttrs_dict slot hty (D.noDict O) h
end
noncomputable abbrev sw (l : List Nat) : Str:=⟨l.toArray⟩
noncomputable abbrev ch (c : Nat) : Str:=⟨#[c]⟩
section
variable {prog : Program} {w : World} {A : Around} {E : Value → Shared → Prop} {s : Shared} {ι : Sd} {h₀ : Heap} {L : Addr} {σ : Sg} {m : Str → Option Value}
theorem srange1 {n : Int} {t : Tok} {Q : Value → Shared → Prop} (F : Fr h₀ L s.heap m) (O : Own ι h₀ L s.heap σ)
  (h : ∀ s' r t u v,Same s s' → Fr h₀ L s'.heap m → Own ι h₀ L s'.heap σ → IsRange s'.heap r 0 n 1 t u v → Q (.ref r) s') : wpAny (model prog w) A (call (.type "range") [.int n t]) Q E s:=by
 refine call_range_1 ?_
 exact h _ _ _ _ _ ⟨rfl,rfl⟩ (F.push _) (O.more fun b o e => Heap.get?_push_of_some _ e) (IsRange.new ..)
theorem srange2 {a b : Int} {t u : Tok} {Q : Value → Shared → Prop} (F : Fr h₀ L s.heap m) (O : Own ι h₀ L s.heap σ)
  (h : ∀ s' r t u v,Same s s' → Fr h₀ L s'.heap m → Own ι h₀ L s'.heap σ → IsRange s'.heap r a b 1 t u v → Q (.ref r) s') : wpAny (model prog w) A (call (.type "range") [.int a t,.int b u]) Q E s:=by
 refine call_range_2 ?_
 exact h _ _ _ _ _ ⟨rfl,rfl⟩ (F.push _) (O.more fun b o e => Heap.get?_push_of_some _ e) (IsRange.new ..)
theorem ssub {l : List Nat} {tk u : Tok} {i c : Nat} {x : Int} {value slice : Expr} {Q : Value → Shared → Prop} (F : Fr h₀ L s.heap m) (O : Own ι h₀ L s.heap σ) (hc : l[i]? = some c) (hx : x = (i : Nat)) (hl : l.length ≤ 100000)
  (h : ∀ s' t,Same s s' → Fr h₀ L s'.heap m → Own ι h₀ L s'.heap σ → Q (.str (ch c) t) s') (hs : subscripted slice false (.str (sw l) tk) (.int x u) = operate [.str (sw l) tk,.int x u] (getItem (.str (sw l) tk) (.int x u)):=by with_unfolding_all rfl) :
  wpAny (model prog w) A (subscriptTail value slice (.str (sw l) tk) (.int x u)) Q E s:=by
 have hi : i < l.length:=(List.getElem?_eq_some_iff.mp hc).1
 subst hx
 refine subscriptTail_builtinR (typeIs_str s _ _) slot_str_getitem.lookup (getItem_str (c:=c) (by simp;lia) ?_ ⟨rfl,h _ _ ⟨rfl,rfl⟩ F O⟩) hs
 have : seqIndex? (i : Int) (sw l).length = some i:=by
  unfold seqIndex? Str.length
  have h1 : ¬ ((i : Int) < 0):=by lia
  simp [h1,hi]
 rw [this]
 simp [hc]
theorem slen {l : List Nat} {tk : Tok} {Q : Value → Shared → Prop} (F : Fr h₀ L s.heap m) (O : Own ι h₀ L s.heap σ) (hl : l.length ≤ 100000)
  (h : ∀ s' t,Same s s' → Fr h₀ L s'.heap m → Own ι h₀ L s'.heap σ → Q (.int l.length t) s') : wpAny (model prog w) A (call (.builtin "len") [.str (sw l) tk]) Q E s:=by
 have e : (sw l).length = l.length:=by simp [Str.length]
 refine len_str (by rw [e];lia) ?_
 exact h _ _ ⟨rfl,rfl⟩ F O
theorem forRange {env : Env} {x : Str} {px : Pos} {body orelse : List Stmt} {Q : Flow → Shared → Prop} {r : Addr} {a b : Int} {t u v : Tok} {m : Str → Option Value}
  (J : Nat → (Str → Option Value) → Sg → Prop) (hh : A.handled = none) (F : Fr h₀ env.locals s.heap m) (O : Own ι h₀ env.locals s.heap σ) (hr : IsRange s.heap r a b 1 t u v) (hn : Builtin.Range.rangeSize a b 1 = ((n : Nat) : Int)) (hsm : Builtin.Range.small a b 1 = true) (h0 : J 0 m σ)
  (step : ∀ i t m₁ σ₁ s₁ ι',(∀ h σ,Own ι' h₀ env.locals h σ → Own ι h₀ env.locals h σ) → Same s s₁ → i < n → J i m₁ σ₁ →
   Fr h₀ env.locals s₁.heap (fun y => if y = x then some (.int (a + (i : Nat)) t) else m₁ y) → Own ι' h₀ env.locals s₁.heap σ₁ →
   wpAny (model prog w) A (execs body env) (fun f s₂ => match f with
    | .next | .cont => Turn J ι' h₀ env.locals s₁ (i + 1) s₂
    | .brk => Q .next s₂
    | .ret v => Q (.ret v) s₂) (fun _ _ => False) s₁)
  (done : ∀ m₁ σ₁ s₁,Same s s₁ → Fr h₀ env.locals s₁.heap m₁ → Own ι h₀ env.locals s₁.heap σ₁ → J n m₁ σ₁ → wpAny (model prog w) A (execs orelse env) Q (fun _ _ => False) s₁)
  (hx : env.kindOf x = some .local:=by rfl) (hp : (env.scope.kind == .class || (env.scope.kind == .module && env.locals != env.globals)) = false:=by rfl) :
  wpAny (model prog w) A (pyIter (.ref r)) (fun it s₂ => codeAny (model prog w) A (.forLoop (.Name x px) it body orelse env) (fun r s' => match r with | .ok f => Q f s' | .error e => cameBackBy (model prog w) A env E e s') s₂) E s:=by
 refine wpAny_pyIter_range hr hsm ?_
 refine xe02 (newBase F) fun n1 n2 => ?_
 have k : ∀ b o',s.heap.get? b = some o' → (s.heap.push { cls:=.type "range_iterator",data:=.fields #[rawInt a,rawInt (Builtin.Range.rangeSize a b 1),rawInt 1] }).get? b = some o':=fun b o' e => Heap.get?_push_of_some _ e
 refine forW (s:={ s with heap:=s.heap.push { cls:=.type "range_iterator",data:=.fields #[rawInt a,rawInt (Builtin.Range.rangeSize a b 1),rawInt 1] } }) (h₀:=h₀) (σ:=σ) (m:=m) (ι:=ι) J (Walks.range hh s.heap.objs.size a 1 n) hx hp (fun i h st b hb => ?_) (fun b hb => ?_) (fun b hb hb' => ?_) ?_ (F.push _) (O.more fun b o e => Heap.get?_push_of_some _ e) h0 (fun i v m₁ σ₁ s₁ ι' w₁ q₁ hi hv hJ F₁ O₁ => ?_) fun m₁ σ₁ s₁ q₁ F₁ O₁ hJ => done m₁ σ₁ s₁ ⟨q₁.1,q₁.2⟩ F₁ O₁ hJ
 ·simp only [List.mem_singleton] at hb
  subst hb
  exact ⟨_,st⟩
 ·simp only [List.mem_singleton] at hb
  subst hb
  exact ⟨n1,n2,O.fresh (Nat.le_refl _),fun p hp => Nat.ne_of_lt (Heap.lt_size (O.side p hp).1)⟩
 ·exact absurd hb hb'
 ·have:=Heap.get?_push_size s.heap (o:={ cls:=.type "range_iterator",data:=.fields #[rawInt a,rawInt (Builtin.Range.rangeSize a b 1),rawInt 1] }) rfl
  rw [hn] at this ⊢
  have e1 : a + ((0 : Nat) : Int) * 1 = a:=by simp
  have e2 : (n : Int) - ((0 : Nat) : Int) = n:=by simp
  rw [e1,e2]
  exact this
 refine xe11 hv fun t' zq1 => ?_
 try clear hv
 subst zq1
 rw [Int.mul_one] at F₁
 refine wpAny_mono (step i t' m₁ σ₁ s₁ ι' w₁ ⟨q₁.1,q₁.2⟩ hi hJ F₁ O₁) (fun f s₂ h₂ => ?_) fun _ _ e => e
 cases f with
 | next => exact h₂.ex
 | cont => exact h₂.ex
 | brk => exact h₂
 | ret v => exact h₂
theorem forStr {env : Env} {x : Str} {px : Pos} {body orelse : List Stmt} {Q : Flow → Shared → Prop} {l : List Nat} {tk : Tok} {m : Str → Option Value}
  (J : Nat → (Str → Option Value) → Sg → Prop) (hh : A.handled = none) (F : Fr h₀ env.locals s.heap m) (O : Own ι h₀ env.locals s.heap σ) (h0 : J 0 m σ)
  (step : ∀ i c t m₁ σ₁ s₁ ι',(∀ h σ,Own ι' h₀ env.locals h σ → Own ι h₀ env.locals h σ) → Same s s₁ → l[i]? = some c → J i m₁ σ₁ →
   Fr h₀ env.locals s₁.heap (fun y => if y = x then some (.str (ch c) t) else m₁ y) → Own ι' h₀ env.locals s₁.heap σ₁ →
   wpAny (model prog w) A (execs body env) (fun f s₂ => match f with
    | .next | .cont => Turn J ι' h₀ env.locals s₁ (i + 1) s₂
    | .brk => Q .next s₂
    | .ret v => Q (.ret v) s₂) (fun _ _ => False) s₁)
  (done : ∀ m₁ σ₁ s₁,Same s s₁ → Fr h₀ env.locals s₁.heap m₁ → Own ι h₀ env.locals s₁.heap σ₁ → J l.length m₁ σ₁ → wpAny (model prog w) A (execs orelse env) Q (fun _ _ => False) s₁)
  (hx : env.kindOf x = some .local:=by rfl) (hp : (env.scope.kind == .class || (env.scope.kind == .module && env.locals != env.globals)) = false:=by rfl) :
  wpAny (model prog w) A (pyIter (.str (sw l) tk)) (fun it s₂ => codeAny (model prog w) A (.forLoop (.Name x px) it body orelse env) (fun r s' => match r with | .ok f => Q f s' | .error e => cameBackBy (model prog w) A env E e s') s₂) E s:=by
 refine xe02 (newBase F) fun n1 n2 => ?_
 have go : ∀ (ty : String) (W : Walks prog w A s.heap.objs.size [s.heap.objs.size] [s.heap.objs.size] (sw l).cps.size (SignAt (sw l)) (fun i h => h.IsStrIter s.heap.objs.size ty (sw l) tk i)),
   codeAny (model prog w) A (.forLoop (.Name x px) (.ref s.heap.objs.size) body orelse env) (fun r s' => match r with | .ok f => Q f s' | .error e => cameBackBy (model prog w) A env E e s') { s with heap:=s.heap.push { cls:=.type ty,data:=.fields #[.str (sw l) tk,.int 0 0] } }:=fun ty W => by
  have hsz : (sw l).cps.size = l.length:=by simp
  rw [hsz] at W
  refine forW (s:={ s with heap:=s.heap.push { cls:=.type ty,data:=.fields #[.str (sw l) tk,.int 0 0] } }) (h₀:=h₀) (σ:=σ) (m:=m) (ι:=ι) J W hx hp (fun i h st b hb => ?_) (fun b hb => ?_) (fun b hb hb' => ?_) ⟨_,Heap.get?_push_size _ rfl,rfl,rfl⟩ (F.push _) (O.more fun b o e => Heap.get?_push_of_some _ e) h0 (fun i v m₁ σ₁ s₁ ι' w₁ q₁ hi hv hJ F₁ O₁ => ?_) fun m₁ σ₁ s₁ q₁ F₁ O₁ hJ => done m₁ σ₁ s₁ ⟨q₁.1,q₁.2⟩ F₁ O₁ hJ
  ·simp only [List.mem_singleton] at hb
   subst hb
   refine xe12 st fun o ho _ => ?_
   try clear st
   exact ⟨_,ho⟩
  ·simp only [List.mem_singleton] at hb
   subst hb
   exact ⟨n1,n2,O.fresh (Nat.le_refl _),fun p hp => Nat.ne_of_lt (Heap.lt_size (O.side p hp).1)⟩
  ·exact absurd hb hb'
  refine xe22 hv fun c t' hc zq2 => ?_
  try clear hv
  subst zq2
  have hc' : l[i]? = some c:=by simpa using hc
  refine wpAny_mono (step i c t' m₁ σ₁ s₁ ι' w₁ ⟨q₁.1,q₁.2⟩ hc' hJ F₁ O₁) (fun f s₂ h₂ => ?_) fun _ _ e => e
  cases f with
  | next => exact h₂.ex
  | cont => exact h₂.ex
  | brk => exact h₂
  | ret v => exact h₂
 cases ha : (sw l).cps.all (· < 128)
 ·exact wpAny_pyIter_wide ha (go _ (Walks.strWide hh _ _ _))
 exact wpAny_pyIter_ascii ha (go _ (Walks.strAscii hh _ _ _))
theorem forLst {env : Env} {x : Str} {px : Pos} {body orelse : List Stmt} {Q : Flow → Shared → Prop} {la : Addr} {vs : List Value} {cn : Nat} {m : Str → Option Value}
  (J : Nat → (Str → Option Value) → Sg → Prop) (hh : A.handled = none) (F : Fr h₀ env.locals s.heap m) (O : Own ι h₀ env.locals s.heap σ) (ht : ∀ i m σ,J i m σ → σ la = some (listOf vs.toArray cn)) (h0 : J 0 m σ)
  (step : ∀ i v m₁ σ₁ s₁ ι',(∀ h σ,Own ι' h₀ env.locals h σ → Own ι h₀ env.locals h σ) → Same s s₁ → vs[i]? = some v → J i m₁ σ₁ →
   Fr h₀ env.locals s₁.heap (fun y => if y = x then some v else m₁ y) → Own ι' h₀ env.locals s₁.heap σ₁ →
   wpAny (model prog w) A (execs body env) (fun f s₂ => match f with
    | .next | .cont => Turn J ι' h₀ env.locals s₁ (i + 1) s₂
    | .brk => Q .next s₂
    | .ret v => Q (.ret v) s₂) (fun _ _ => False) s₁)
  (done : ∀ m₁ σ₁ s₁,Same s s₁ → Fr h₀ env.locals s₁.heap m₁ → Own ι h₀ env.locals s₁.heap σ₁ → J vs.length m₁ σ₁ → wpAny (model prog w) A (execs orelse env) Q (fun _ _ => False) s₁)
  (hx : env.kindOf x = some .local:=by rfl) (hp : (env.scope.kind == .class || (env.scope.kind == .module && env.locals != env.globals)) = false:=by rfl) :
  wpAny (model prog w) A (pyIter (.ref la)) (fun it s₂ => codeAny (model prog w) A (.forLoop (.Name x px) it body orelse env) (fun r s' => match r with | .ok f => Q f s' | .error e => cameBackBy (model prog w) A env E e s') s₂) E s:=by
 have hla:=ht 0 m σ h0
 refine wpAny_pyIter_list ⟨_,O.get hla,rfl,cn,rfl⟩ ?_
 refine xe02 (newBase F) fun n1 n2 => ?_
 have hne : la ≠ s.heap.objs.size:=Nat.ne_of_lt (O.lt hla)
 have W:=Walks.list (prog:=prog) (w:=w) hh s.heap.objs.size la hne vs.toArray
 have hsz : vs.toArray.size = vs.length:=by simp
 rw [hsz] at W
 have k : ∀ b o,s.heap.get? b = some o → (s.heap.push { cls:=.type "list_iterator",data:=.fields #[.ref la,.int 0 0] }).get? b = some o:=fun b o e => Heap.get?_push_of_some _ e
 refine forW (s:={ s with heap:=s.heap.push { cls:=.type "list_iterator",data:=.fields #[.ref la,.int 0 0] } }) (h₀:=h₀) (σ:=σ) (m:=m) (ι:=ι) J W hx hp (fun i h st b hb => ?_) (fun b hb => ?_) (fun b hb hb' => ?_) ⟨⟨_,Heap.get?_push_size _ rfl,rfl,rfl⟩,⟨_,k _ _ (O.get hla),rfl,cn,rfl⟩⟩ (F.push _) (O.more k) h0 (fun i v m₁ σ₁ s₁ ι' w₁ q₁ hi hv hJ F₁ O₁ => ?_) fun m₁ σ₁ s₁ q₁ F₁ O₁ hJ => done m₁ σ₁ s₁ ⟨q₁.1,q₁.2⟩ F₁ O₁ hJ
 ·simp only [List.mem_singleton] at hb
  subst hb
  refine xe02 st fun zq3 _ => ?_
  try clear st
  refine xe12 zq3 fun o ho _ => ?_
  try clear zq3
  exact ⟨o,ho⟩
 ·simp only [List.mem_singleton] at hb
  subst hb
  exact ⟨n1,n2,O.fresh (Nat.le_refl _),fun p hp => Nat.ne_of_lt (Heap.lt_size (O.side p hp).1)⟩
 ·have : b = la:=by
   rcases List.mem_cons.mp hb with z | z
   ·exact absurd (by rw [z];exact List.mem_singleton.mpr rfl) hb'
   exact List.mem_singleton.mp z
  subst this
  exact .inr ⟨_,ht⟩
 refine wpAny_mono (step i v m₁ σ₁ s₁ ι' w₁ ⟨q₁.1,q₁.2⟩ (by simpa using hv) hJ F₁ O₁) (fun f s₂ h₂ => ?_) fun _ _ e => e
 cases f with
 | next => exact h₂.ex
 | cont => exact h₂.ex
 | brk => exact h₂
 | ret v => exact h₂
end
inductive Mid (J : (Str → Option Value) → Sg → Prop) (ι : Sd) (g : Heap) (L : Addr) (s : Shared) (f : Flow) (s' : Shared) : Prop
 | ofx (h1 : f = .next) (m') (σ') (h2 : Same s s') (h3 : Fr g L s'.heap m') (h4 : Own ι g L s'.heap σ') (h5 : J m' σ')
theorem Mid.mk' {J : (Str → Option Value) → Sg → Prop} {ι : Sd} {g : Heap} {L : Addr} {s s' : Shared} {m' : Str → Option Value} {σ' : Sg} (q : Same s s') (F : Fr g L s'.heap m') (O : Own ι g L s'.heap σ') (h : J m' σ') : Mid J ι g L s .next s':=⟨rfl,_,_,q,F,O,h⟩
theorem cut {prog : Program} {w : World} {A : Around} {E : Value → Shared → Prop} {s : Shared} {env : Env} {st : Stmt} {rest : List Stmt} {Q : Flow → Shared → Prop} {ι : Sd} {g : Heap} {L : Addr} (J : (Str → Option Value) → Sg → Prop)
  (h : wpAny (model prog w) A (exec st env) (Mid J ι g L s) E s)
  (k : ∀ m' σ' s',Same s s' → Fr g L s'.heap m' → Own ι g L s'.heap σ' → J m' σ' → wpAny (model prog w) A (execs rest env) Q E s') :
  wpAny (model prog w) A (execs (st :: rest) env) Q E s:=by
 refine wpAny_execs_cons (wpAny_mono h (fun f s' h => ?_) fun _ _ e => e)
 obtain ⟨rfl,m',σ',q,F,O,hJ⟩:=h
 exact k m' σ' s' q F O hJ
noncomputable abbrev emptyD : Obj:={ cls:=.type "dict",data:=.dict #[] }
section
variable {prog : Program} {w : World} {A : Around} {E : Value → Shared → Prop} {s : Shared} {ι : Sd} {h₀ : Heap} {L : Addr} {σ : Sg} {m : Str → Option Value}
theorem znewDict {env : Env} {pos : Pos} {Q : Value → Shared → Prop} (F : Fr h₀ L s.heap m) (O : Own ι h₀ L s.heap σ) (hb : sysModules < h₀.objs.size)
  (h : ∀ s' d,σ d = none → (d == sysModules) = false → Same s s' → Fr h₀ L s'.heap m → Own ι h₀ L s'.heap (upd σ d emptyD) → Q (.ref d) s') : wpAny (model prog w) A (eval (.Dict [] [] pos) env) Q E s:=by
 refine wpAny_Dict_empty ?_
 exact h { s with heap:=s.heap.push emptyD } _ (O.fresh (Nat.le_refl _)) (F.notModules hb) ⟨rfl,rfl⟩ (F.push _) (O.push F _)
theorem dh0 {K : Type} [DecidableEq K] (kd : VK prog w K) {d : Addr} (hl : (d == sysModules) = false) : DH kd (upd σ d emptyD) d (fun _ => none) :=
 ⟨hl,_,#[],0,[],upd_self ..,⟨rfl,rfl,rfl⟩,rfl,rfl,(fun x hx => by cases hx),.nil,fun k => rfl⟩
theorem ds0 {d : Addr} (hl : (d == sysModules) = false) : DS prog w (upd σ d emptyD) d (fun _ => none):=by
 refine ⟨hl,emptyD,[],upd_self ..,?_,fun k => rfl⟩
 have:=Heap.DictOf.new (knd:=strKind prog w) ({} : Heap)
 refine xe12 (Heap.dictOf_iff.mp this) fun o h1 h2 => ?_
 rw [Heap.get?_push_size _ rfl] at h1
 cases h1
 exact h2
end
section
variable {prog : Program} {w : World} {A : Around} {E : Value → Shared → Prop} {s : Shared} {ι : Sd} {h₀ : Heap} {L : Addr} {σ : Sg} {m : Str → Option Value}
theorem lsub {la : Addr} {vs : List Value} {n : Nat} {u : Tok} {i : Nat} {v : Value} {x : Int} {value slice : Expr} {Q : Value → Shared → Prop} (F : Fr h₀ L s.heap m) (O : Own ι h₀ L s.heap σ) (hla : σ la = some (listOf vs.toArray n)) (hv : vs[i]? = some v) (hx : x = (i : Nat)) (hl : vs.length ≤ 100000)
  (h : ∀ s',Same s s' → Fr h₀ L s'.heap m → Own ι h₀ L s'.heap σ → Q v s') (hs : subscripted slice false (.ref la) (.int x u) = operate [.ref la,.int x u] (getItem (.ref la) (.int x u)):=by with_unfolding_all rfl) :
  wpAny (model prog w) A (subscriptTail value slice (.ref la) (.int x u)) Q E s:=by
 have hi : i < vs.length:=(List.getElem?_eq_some_iff.mp hv).1
 subst hx
 refine subscriptTail_builtinR ⟨_,O.get hla,rfl⟩ PySem.F.slot_list_getitem.lookup (wpAny_getItem_list (x:=v) ⟨_,O.get hla,rfl,n,rfl⟩ (by lia) (by lia) (by simpa using hv) ⟨rfl,h _ ⟨rfl,rfl⟩ F O⟩) hs
end
theorem sw_app (a b : List Nat) : (sw a ++ sw b : Str) = sw (a ++ b):=by
 show Str.append _ _ = _
 unfold Str.append
 simp
theorem sl_to (l : List Nat) (j : Nat) : Txt.slice (sw l) none (some (j : Int)) = sw (l.take j):=by
 have key : ∀ j : Nat,j ≤ l.length → Txt.slice (sw l) none (some (j : Int)) = sw (l.take j):=fun j hj => by
  have:=beq_iff_eq.mp (slice_closes_to (x:=sw l) (j:=(j : Int)) (by lia))
  rw [this]
  simp
 by_cases h : j ≤ l.length
 ·exact key j h
 have e : Txt.slice (sw l) none (some (j : Int)) = Txt.slice (sw l) none (some (l.length : Int)):=by
  unfold Txt.slice
  have : Builtin.Str.strSliceIndices none (some (j : Int)) 1 (sw l).length = Builtin.Str.strSliceIndices none (some (l.length : Int)) 1 (sw l).length:=by
   have h0 : ¬ (j : Int) < 0:=by lia
   have h1 : ¬ ((l.length : Int) < 0):=by lia
   have h2 : (1 : Int) > 0:=by decide
   have h3 : (sw l).length = l.length:=by simp [Str.length]
   rw [h3]
   simp only [Builtin.Str.strSliceIndices,h0,h1,h2,if_false,if_true]
   have : min (j : Int) l.length = l.length:=by exact xs71 ‹_›
   simp [this]
  rw [this]
 rw [e,key _ (Nat.le_refl _),List.take_of_length_le (Nat.le_refl _),List.take_of_length_le (by lia)]
theorem sl_from (l : List Nat) (j : Nat) : Txt.slice (sw l) (some (j : Int)) none = sw (l.drop j):=by
 have hlen : (sw l).length = l.length:=by simp [Str.length]
 by_cases h : j ≤ l.length
 ·rw [slice_from_eq (b:=(l.length : Int)) (by lia) (by rw [hlen];lia) (by rw [hlen])]
  have e1 : ((j : Int)).toNat = j:=by lia
  have e2 : ((l.length : Int) - (j : Int)).toNat = l.length - j:=by exact xs13
  rw [e1,e2]
  congr 2
  rw [List.take_of_length_le (by simp)]
 rw [slice_beyond (by rw [hlen];lia),List.drop_of_length_le (by lia)]
 rfl
theorem kept2 {ι : Sd} {h₀ : Heap} {L : Addr} {σ : Sg} {m : Str → Option Value} : KeptH (fun h => Fr h₀ L h m ∧ Own ι h₀ L h σ):=fun h ob zm1 => xe02 zm1 fun F O => ⟨Fr.pushS F ob,O.more fun b o e => Heap.get?_push_of_some _ e⟩
section
variable {prog : Program} {w : World} {A : Around} {E : Value → Shared → Prop} {s : Shared} {ι : Sd} {h₀ : Heap} {L : Addr} {σ : Sg} {m : Str → Option Value} {value slice : Expr} {l : List Nat} {tk : Tok} {Q : Value → Shared → Prop}
theorem sslice_to {j : Int} {uj : Tok} (F : Fr h₀ L s.heap m) (O : Own ι h₀ L s.heap σ) (h0 : 0 ≤ j) (hl : l.length ≤ 100000) (h : ∀ s' t,Same s s' → Fr h₀ L s'.heap m → Own ι h₀ L s'.heap σ → Q (.str (sw (l.take j.toNat)) t) s')
  (hs : subscripted slice false (.str (sw l) tk) (.ref s.heap.objs.size) = operate [.ref s.heap.objs.size,.str (sw l) tk] (getItem (.str (sw l) tk) (.ref s.heap.objs.size)):=by with_unfolding_all rfl)
  (ht : ∀ r,letTemporaryGo value (.str (sw l) tk) r = pure ():=by intro _;with_unfolding_all rfl) :
  wpAny (model prog w) A (subscriptTail value slice (.str (sw l) tk) (.ref s.heap.objs.size)) Q E { s with heap:=s.heap.push { cls:=.type "slice",data:=.fields #[.none,.int j uj,.none] } }:=by
 refine xe11 (Int.eq_ofNat_of_zero_le h0) fun j' zq1 => ?_
 subst zq1
 refine tail_of_ItemOn (SBH.sliceItem_ns kept2 ⟨F,O⟩ (fun h' t' k hI => ?_) (by rw [sizeLine_eq];simp [Str.length];lia)) hs ht
 rw [sl_to]
 exact h { s with heap:=h',toks:=k } t' ⟨rfl,rfl⟩ hI.1 hI.2
theorem sslice_from {j : Int} {uj : Tok} (F : Fr h₀ L s.heap m) (O : Own ι h₀ L s.heap σ) (h0 : 0 ≤ j) (hl : l.length ≤ 100000) (h : ∀ s' t,Same s s' → Fr h₀ L s'.heap m → Own ι h₀ L s'.heap σ → Q (.str (sw (l.drop j.toNat)) t) s')
  (hs : subscripted slice false (.str (sw l) tk) (.ref s.heap.objs.size) = operate [.ref s.heap.objs.size,.str (sw l) tk] (getItem (.str (sw l) tk) (.ref s.heap.objs.size)):=by with_unfolding_all rfl)
  (ht : ∀ r,letTemporaryGo value (.str (sw l) tk) r = pure ():=by intro _;with_unfolding_all rfl) :
  wpAny (model prog w) A (subscriptTail value slice (.str (sw l) tk) (.ref s.heap.objs.size)) Q E { s with heap:=s.heap.push { cls:=.type "slice",data:=.fields #[.int j uj,.none,.none] } }:=by
 refine xe11 (Int.eq_ofNat_of_zero_le h0) fun j' zq2 => ?_
 subst zq2
 refine tail_of_ItemOn (SBH.sliceItem_sn kept2 ⟨F,O⟩ (fun h' t' k hI => ?_) (by rw [sizeLine_eq];simp [Str.length];lia)) hs ht
 rw [sl_from]
 exact h { s with heap:=h',toks:=k } t' ⟨rfl,rfl⟩ hI.1 hI.2
end
noncomputable abbrev isI (k : Int) (v : Value) : Prop:=∃ t,v = .int k t
theorem ints_are {ns : List Int} {vs : List Value} (h : All2 isI ns vs) : IntsAre vs ns:=by
 induction h with
 | nil => exact .nil
 | cons r _ ih => refine xe11 r fun t zq1 => ?_;try clear r;subst zq1;exact .cons _ t ih
section
variable {prog : Program} {w : World} {A : Around} {E : Value → Shared → Prop} {s : Shared} {ι : Sd} {h₀ : Heap} {L : Addr} {σ : Sg} {m : Str → Option Value}
theorem smin {l : Addr} {vs : List Value} {n : Nat} {ns : List Int} {Q : Value → Shared → Prop} (hh : A.handled = none) (F : Fr h₀ L s.heap m) (O : Own ι h₀ L s.heap σ) (hl : σ l = some (listOf vs.toArray n)) (hi : All2 isI ns vs) (hne : 0 < ns.length)
  (h : ∀ s' M t,Same s s' → Fr h₀ L s'.heap m → Own ι h₀ L s'.heap σ → M ∈ ns → (∀ a ∈ ns,M ≤ a) → Q (.int M t) s') : wpAny (model prog w) A (call (.builtin "min") [.ref l]) Q E s:=by
 refine min_list_N hh F (O.news s.heap.objs.size) ⟨_,O.get hl,rfl,n,rfl⟩ (ints_are hi) hne fun h' M t tk F' N' h1 h2 => ?_
 exact h { s with heap:=h',toks:=tk } M t ⟨rfl,rfl⟩ F' (O.ofNews' N') h1 h2
end
inductive StepC (J : Nat → List Value → Sg → Prop) (ι : Sd) (h₀ : Heap) (L : Addr) (m : Str → Option Value) (i : Nat) (acc : List Value) (s₁ s₂ : Shared) : Prop
 | ofx (σ₂) (h1 : Same s₁ s₂) (h2 : Fr h₀ L s₂.heap m) (h3 : Own ι h₀ L s₂.heap σ₂) (h4 : J i acc σ₂)
theorem StepC.mk' {J : Nat → List Value → Sg → Prop} {ι : Sd} {h₀ : Heap} {L : Addr} {m : Str → Option Value} {i : Nat} {acc : List Value} {s₁ s₂ : Shared} {σ₂ : Sg} (q : Same s₁ s₂) (F : Fr h₀ L s₂.heap m) (O : Own ι h₀ L s₂.heap σ₂) (h : J i acc σ₂) : StepC J ι h₀ L m i acc s₁ s₂:=⟨σ₂,q,F,O,h⟩
inductive NsAt (ι : Sd) (C : Addr) (mC : Str → Option Value) : Prop
 | ofx (o) (h1 : (C,o) ∈ ι) (h2 : ∀ h : Heap,h.get? C = some o → h.Ns C mC)
section
variable {prog : Program} {w : World} {A : Around} {E : Value → Shared → Prop} {s : Shared} {ι : Sd} {h₀ : Heap} {L : Addr} {σ : Sg} {m : Str → Option Value}
theorem nameS {env : Env} {x : Str} {pos : Pos} {mC : Str → Option Value} {v : Value} {Q : Value → Shared → Prop} (O : Own ι h₀ L s.heap σ) (N : NsAt ι env.locals mC) (hv : mC x = some v) (h : Q v s) (hk : env.scope.kind = .function:=by rfl) (hx : env.kindOf x = some .local:=by rfl) (hd : (x == ("__debug__" : Str)) = false:=by decide) :
  wpAny (model prog w) A (eval (.Name x pos) env) Q E s:=by
 obtain ⟨o,ho,hns⟩:=N
 exact wpAny_Name (wpAny_loadName_local hk hx (hns _ (O.side _ ho).1) hv h) hd
noncomputable def IsC (σ : Sg) (c : Addr) (v : Value) : Prop:=∃ o,σ c = some o ∧ o.data = .cell (some v)
theorem IsC.move {σ σ' : Sg} {c : Addr} {v : Value} (h : IsC σ c v) (e : ∀ o,σ c = some o → σ' c = some o) : IsC σ' c v:=xe12 (h) fun o h1 h2 => ⟨o,e o h1,h2⟩
theorem nameC {env : Env} {x : Str} {pos : Pos} {c : Addr} {v : Value} {Q : Value → Shared → Prop} (O : Own ι h₀ L s.heap σ) (hc : env.cells.lookup x = some c) (hv : IsC σ c v) (h : Q v s) (hk : env.scope.kind = .function:=by rfl) (hx : env.kindOf x = some .cell:=by rfl) (hd : (x == ("__debug__" : Str)) = false:=by decide) :
  wpAny (model prog w) A (eval (.Name x pos) env) Q E s:=by
 refine xe12 hv fun o ho hd' => ?_
 try clear hv
 exact wpAny_Name (wpAny_loadName_cell hk hx hc ⟨o,O.get ho,hd'⟩ h) hd
theorem storeC {env : Env} {x : Str} {c : Addr} {v : Value} {o : Obj} {v₀ : Option Value} {Q : Unit → Shared → Prop} (F : Fr h₀ L s.heap m) (O : Own ι h₀ L s.heap σ) (hc : env.cells.lookup x = some c) (ho : σ c = some o) (hd : o.data = .cell v₀)
  (h : ∀ s' o',Same s s' → Fr h₀ L s'.heap m → Own ι h₀ L s'.heap (upd σ c o') → IsC (upd σ c o') c v → o'.cls = o.cls → Q () s') (hk : env.scope.kind = .function:=by rfl) (hx : env.kindOf x = some .cell:=by rfl) :
  wpAny (model prog w) A (storeName env x v) Q E s:=by
 unfold storeName
 rw [hx,hk]
 dsimp only
 refine wpAny_bind (wpAny_cellOf hc ?_)
 refine wpAny_bind (wpAny_load (O.get ho) ?_)
 rw [hd]
 refine wpAny_update (O.get ho) ?_
 have hs:=Heap.SameBut.update s.heap c (fun o => ({ o with data:=.cell (some v) } : Obj))
 have hg : (s.heap.update c (fun o => ({ o with data:=.cell (some v) } : Obj))).get? c = some { o with data:=.cell (some v) }:=Heap.get?_update_self _ (O.get ho) rfl
 exact h { s with heap:=s.heap.update c (fun o => ({ o with data:=.cell (some v) } : Obj)) } _ ⟨rfl,rfl⟩ (frSet F O ho hs) (O.set ho hs hg) ⟨_,upd_self ..,rfl⟩ rfl
theorem frBut1 {h h' : Heap} {C : Addr} (F : Fr h₀ L h m) (hs : Heap.SameBut C h h') (h1 : C ≠ L) (h2 : h₀.get? C = none) : Fr h₀ L h' m:=by
 refine xe32 F.ns fun oL es ep hL r => ?_
 exact ⟨⟨oL,es,ep,(hs.2 _ (Ne.symm h1)).trans hL,r⟩,fun b o e => (hs.2 b fun z => by rw [z,h2] at e;cases e).trans (F.keep b o e),F.above⟩
theorem ownBut1 {h h' : Heap} {C : Addr} (O : Own ι h₀ L h σ) (hs : Heap.SameBut C h h') (h1 : σ C = none) (h2 : ∀ p ∈ ι,p.1 ≠ C) : Own ι h₀ L h' σ :=
 ⟨fun a o e => ⟨(hs.2 a fun z => by rw [z,h1] at e;cases e).trans (O.get e),(O.cell a o e).2⟩,fun p hp => ⟨(hs.2 _ (h2 p hp)).trans (O.side p hp).1,(O.side p hp).2⟩⟩
theorem sCompG {RR : Value → Addr → Result → Shared → Prop} {env : Env} {elt iter : Expr} {x : Str} {px : Pos} {ifs : List Expr} {scope : Scope} {cl : List (Str × Addr)} {pos : Pos} {I : Addr} {fp wr : List Addr} {n : Nat} {P : Nat → Value → Prop} {St : Nat → Heap → Prop}
  (J : Nat → List Value → Sg → Prop) (W : Walks prog w A I fp wr n P St) (hn : n ≤ 100000)
  (hcell : ∀ y ∈ scope.names,y.2 ≠ .cell) (hkind : scope.kind = .function) (hx : scope.names.lookup x = some .local)
  (hob : ∀ i h,St i h → ∀ b ∈ wr,∃ o,h.get? b = some o) (hwr : ∀ b ∈ wr,b ≠ L ∧ h₀.get? b = none ∧ σ b = none ∧ ∀ p ∈ ι,p.1 ≠ b)
  (hfix : ∀ b ∈ fp,b ∉ wr → (∃ o,h₀.get? b = some o) ∨ ∃ o,∀ i acc σ,J i acc σ → σ b = some o) (hfs : ∀ b ∈ fp,b < s.heap.objs.size)
  (hst : St 0 s.heap) (F : Fr h₀ L s.heap m) (O : Own ι h₀ L s.heap σ) (h0 : J 0 [] σ) (hal : ∀ i acc σ,J i acc σ → acc.length ≤ i)
  (step : ∀ i v C acc σ₁ s₁ ι' mC,(∀ h σ,Own ι' h₀ L h σ → Own ι h₀ L h σ) → Same s s₁ → i < n → P i v → J i acc σ₁ → Fr h₀ L s₁.heap m → Own ι' h₀ L s₁.heap σ₁ → NsAt ι' C mC → mC x = some v →
   wpAny (model prog w) A (forIn ifs true fun c r => if r = true then do let ok ← isTrue c (compEnvC scope cl C env) (eval c (compEnvC scope cl C env));pure (ForInStep.yield ok) else pure (ForInStep.yield r))
    (fun ok s₂ => if ok = true then wpAny (model prog w) A (eval elt (compEnvC scope cl C env)) (fun y s₃ => StepC J ι' h₀ L m (i + 1) (acc ++ [y]) s₁ s₃) (fun _ _ => False) s₂ else StepC J ι' h₀ L m (i + 1) acc s₁ s₂) (fun _ _ => False) s₁)
  (done : ∀ D C acc c σ₁ s₁ mC,Same s s₁ → σ₁ D = none → C ≠ L → h₀.get? C = none → upd σ₁ D (listOf acc.toArray c) C = none → (∀ p ∈ ι,p.1 ≠ C) → s₁.heap.Ns C mC → Fr h₀ L s₁.heap m → Own ι h₀ L s₁.heap (upd σ₁ D (listOf acc.toArray c)) → J n acc σ₁ → RR (.ref D) C (.ok .next) s₁) :
  wpAny (model prog w) A (newList []) (fun acc s₃ => wpAny (model prog w) A (newFunctionEnv scope env.globals cl [] env.qual none .none (some env)) (fun cenv s₄ =>
   codeAny (model prog w) A (.compStart (.ListComp elt [⟨.Name x px,iter,ifs,0⟩] scope pos) 0 (.ref I) acc { cenv with scope:=relabel scope env }) (RR acc cenv.locals) s₄) E s₃) E s:=by
 refine wpAny_newObj_type (wpAny_newFunctionEnv hcell (by intro y hy;simp at hy) (fun h₁ hns₁ hsb₁ => ?_) hkind)
 dsimp only at hns₁ hsb₁ ⊢
 refine xe02 (newBase F) fun n1 n2 => ?_
 have hLs:=F.ns.lt
 have hab:=F.above
 generalize hH2 : s.heap.push { cls:=.type "list",dict:=none,data:=.seq ([] : List Value).toArray } = H2 at hns₁ hsb₁ ⊢
 have hC : H2.objs.size = s.heap.objs.size + 1:=by rw [← hH2,Heap.size_push]
 generalize hCe : H2.objs.size = C at hns₁ hsb₁ hC ⊢
 generalize hDe : s.heap.objs.size = D at hC n1 n2 hLs hfs ⊢
 have hC' : @Eq Nat C (D + 1):=hC
 have hL' : @LT.lt Nat _ L D:=hLs
 have hab' : @LE.le Nat _ h₀.objs.size L:=hab
 have neN : ∀ {a b : Addr},@LT.lt Nat _ a b → a ≠ b:=fun h => Nat.ne_of_lt h
 have neN' : ∀ {a b : Addr},@LT.lt Nat _ b a → a ≠ b:=fun h => Nat.ne_of_gt h
 have hDC : D ≠ C:=neN (by lia)
 have old : ∀ b o,s.heap.get? b = some o → h₁.get? b = some o:=fun b o e => by
  have hb:=Heap.lt_size e
  rw [hDe] at hb
  have hb' : @LT.lt Nat _ b D:=hb
  exact hsb₁.extBut b o (neN (by lia)) (Heap.get?_push_of_some _ (hH2 ▸ Heap.get?_push_of_some _ e))
 have hD1 : h₁.get? D = some (listOf ([] : List Value).toArray 0):=by
  refine hsb₁.extBut _ _ hDC (Heap.get?_push_of_some _ ?_)
  rw [← hH2,← hDe];exact Heap.get?_push_size _ rfl
 have freshC : ∀ {b : Addr} {o : Obj},s.heap.get? b = some o → b ≠ D ∧ b ≠ C:=fun {b o} e => by
  have:=Heap.lt_size e
  rw [hDe] at this
  have h' : @LT.lt Nat _ b D:=this
  exact ⟨neN h',neN (by lia)⟩
 have base0 : ∀ b,@LE.le Nat _ D b → b ≠ L ∧ h₀.get? b = none ∧ ∀ p ∈ ι,p.1 ≠ b:=fun b hb => ⟨neN' (by exact xs80 ‹_› ‹_›),Heap.get?_none_of_le (Nat.le_trans hab' (Nat.le_trans (Nat.le_of_lt hL') hb)),fun p hp z => by
  have:=Heap.lt_size (O.side p hp).1
  rw [z,hDe] at this
  exact absurd this (Nat.not_lt.mpr hb)⟩
 refine xe03 (base0 D (Nat.le_refl _)) fun dL dh dι => ?_
 refine xe03 (base0 C (by lia)) fun cL ch0 cι => ?_
 have dfp : D ∉ fp:=fun h => Nat.lt_irrefl _ (hfs D h)
 have cfp : C ∉ fp:=fun h => by have h' : @LT.lt Nat _ C D:=hfs C h;lia
 have dwr : D ∉ wr:=fun h => dfp (W.sub _ h)
 have cwr : C ∉ wr:=fun h => cfp (W.sub _ h)
 have loop : ∀ s₃ : Shared,s₃ = { s with heap:=h₁,toks:=s.toks + ([] : List (Str × Value)).length } →
   codeAny (model prog w) A (.compLoop (.ListComp elt [⟨.Name x px,iter,ifs,0⟩] scope pos) 0 (.ref I) (.ref D) (compEnvC scope cl C env)) (RR (.ref D) C) s₃:=by
  rintro s₃ rfl
  refine codeAny_compLoop_tests (fun k s' => ∃ σ' acc c i mC oC,Same s s' ∧ St i s'.heap ∧ Fr h₀ L s'.heap m ∧ Own ι h₀ L s'.heap σ' ∧ J i acc σ' ∧ s'.heap.get? D = some (listOf acc.toArray c) ∧ s'.heap.get? C = some oC ∧ (∀ h : Heap,h.get? C = some oC → h.Ns C mC) ∧ (∀ b ∈ wr,σ' b = none) ∧ σ' D = none ∧ σ' C = none ∧ i ≤ n ∧ k = n + 1 - i) ?_ (n + 1) ?_
  ·intro k s' zq1
   refine xe610 zq1 fun σ' acc c i mC oC S' hst' F' O' hJ hD' hC' hCn hn' zq110 => ?_
   try clear zq1
   refine xe04 zq110 fun hσD hσC hi zq120 => ?_
   try clear zq110
   subst zq120
   have next : ∀ h₁ : Heap,(∀ b o,b ∉ wr → b ≠ C → s'.heap.get? b = some o → h₁.get? b = some o) → Fr h₀ L h₁ m ∧ Own ι h₀ L h₁ σ':=fun h₁ hk => by
    refine xe32 F'.ns fun oL es ep hL r => ?_
    refine ⟨⟨⟨oL,es,ep,hk _ _ (fun q => (hwr _ q).1 rfl) (Ne.symm cL) hL,r⟩,fun b o e => hk b o (fun q => ?_) (fun q => ?_) (F'.keep b o e),F'.above⟩,⟨fun a o e => ⟨hk _ _ (fun q => ?_) (fun q => ?_) (O'.get e),(O'.cell a o e).2⟩,fun p hp => ⟨hk _ _ (fun q => (hwr _ q).2.2.2 p hp rfl) (cι p hp) (O'.side p hp).1,(O'.side p hp).2⟩⟩⟩
    ·rw [(hwr b q).2.1] at e;cases e
    ·rw [q,ch0] at e;cases e
    ·rw [hn' a q] at e;cases e
    rw [q,hσC] at e;cases e
   by_cases hlt : i < n
   ·refine W.item i _ _ _ hlt hst' fun v h₂ tk₂ hP hst₂ hk₂ => ?_
    have hC₂:=hk₂ _ _ cwr hC'
    refine wpAny_assign_Name (wpAny_storeName_local (lookup_relabel_local hx) (hCn _ hC₂) (fun h₃ hn₃ hs₃ => ?_) (by simp [compEnvC,relabel,hkind]))
    have hs₃ : Heap.SameBut C h₂ h₃:=hs₃
    have hn₃ : h₃.Ns C (fun y => if y = x then some v else mC y):=hn₃
    have hk₃ : ∀ b o,b ∉ wr → b ≠ C → s'.heap.get? b = some o → h₃.get? b = some o:=fun b o h1 h2 e => (hs₃.2 b h2).trans (hk₂ b o h1 e)
    refine xe02 (next h₃ hk₃) fun F₃ O₃ => ?_
    have hst₃ : St (i + 1) h₃:=W.frame _ _ _ hst₂ fun b hb o e => (hs₃.2 b fun z => cfp (z ▸ hb)).trans e
    have hD₃:=hk₃ _ _ dwr hDC hD'
    refine xe32 hn₃ fun oC₃ es₃ ep₃ hC₃ r₃ => ?_
    try clear hn₃
    have hCn₃ : ∀ h : Heap,h.get? C = some oC₃ → h.Ns C (fun y => if y = x then some v else mC y):=fun h e => ⟨oC₃,es₃,ep₃,e,r₃⟩
    have hw3 : ∀ p ∈ sideOf h₃ (C :: wr) ++ ι,h₃.get? p.1 = some p.2 ∧ p.1 ≠ L ∧ h₀.get? p.1 = none ∧ σ' p.1 = none ∧ p.1 ≠ D:=fun p hp => by
     rcases List.mem_append.mp hp with q | q
     ·refine xe02 (mem_sideOf.mp q) fun q1 q2 => ?_
      rcases List.mem_cons.mp q1 with z | z
      ·rw [z];exact ⟨z ▸ q2,cL,ch0,hσC,Ne.symm hDC⟩
      exact ⟨q2,(hwr _ z).1,(hwr _ z).2.1,hn' _ z,fun y => dwr (y ▸ z)⟩
     refine xe04 (O₃.side p q) fun q1 q2 q3 q4 => ?_
     exact ⟨q1,q2,q3,q4,dι p q⟩
    have O₄ : Own ((D,listOf acc.toArray c) :: (sideOf h₃ (C :: wr) ++ ι)) h₀ L h₃ σ':=⟨O₃.cell,fun p hp => by
     rcases List.mem_cons.mp hp with rfl | hp
     ·exact ⟨hD₃,dL,dh,hσD⟩
     refine xe05 (hw3 p hp) fun a1 a2 a3 a4 _ => ?_
     exact ⟨a1,a2,a3,a4⟩⟩
    have back : ∀ (s₅ s₆ : Shared) (acc' : List Value) (c' : Nat) (σ₅ : Sg),Same s s₅ → Fr h₀ L s₅.heap m → Own (sideOf h₃ (C :: wr) ++ ι) h₀ L s₅.heap σ₅ → J (i + 1) acc' σ₅ → s₅.heap.get? D = some (listOf acc'.toArray c') → σ₅ D = none →
      ∃ k,k < n + 1 - i ∧ ∃ σ' acc c i mC oC,Same s s₅ ∧ St i s₅.heap ∧ Fr h₀ L s₅.heap m ∧ Own ι h₀ L s₅.heap σ' ∧ J i acc σ' ∧ s₅.heap.get? D = some (listOf acc.toArray c) ∧ s₅.heap.get? C = some oC ∧ (∀ h : Heap,h.get? C = some oC → h.Ns C mC) ∧ (∀ b ∈ wr,σ' b = none) ∧ σ' D = none ∧ σ' C = none ∧ i ≤ n ∧ k = n + 1 - i:=fun s₅ s₆ acc' c' σ₅ q₅ F₅ O₅ hJ₅ hD₅ hσ₅ => by
     have sC:=O₅.side (C,oC₃) (List.mem_append_left _ (mem_sideOf.mpr ⟨.head _,hC₃⟩))
     refine ⟨n + 1 - (i + 1),by exact xs8b ‹_›,σ₅,acc',c',i + 1,_,oC₃,q₅,?_,F₅,⟨O₅.cell,fun p hp => O₅.side p (List.mem_append_right _ hp)⟩,hJ₅,hD₅,sC.1,hCn₃,fun b hb => ?_,hσ₅,sC.2.2.2,hlt,rfl⟩
     ·refine W.frame _ _ _ hst₃ fun b hb o e => ?_
      by_cases q' : b ∈ wr
      ·exact (O₅.side (b,o) (List.mem_append_left _ (mem_sideOf.mpr ⟨.tail _ q',e⟩))).1
      rcases hfix b hb q' with zq121 | zq122
      ·refine xe11 zq121 fun o' e' => ?_
       try clear zq121
       have:=F₃.keep b o' e';rw [e] at this;cases this;exact F₅.keep b _ e'
      refine xe11 zq122 fun o' e' => ?_
      try clear zq122
      have:=O₃.get (e' _ _ _ hJ);rw [e] at this;cases this;exact O₅.get (e' _ _ _ hJ₅)
     refine xe11 (hob _ _ hst₃ b hb) fun o e => ?_
     exact (O₅.side (b,o) (List.mem_append_left _ (mem_sideOf.mpr ⟨.tail _ hb,e⟩))).2.2.2
    refine wpAny_mono (step i v C acc σ' _ _ (fun y => if y = x then some v else mC y) (fun h σ o => ⟨o.cell,fun p hp => o.side p (.tail _ (List.mem_append_right _ hp))⟩) (S'.trans ⟨rfl,rfl⟩) hlt hP hJ F₃ O₄ ⟨oC₃,.tail _ (List.mem_append_left _ (mem_sideOf.mpr ⟨.head _,hC₃⟩)),hCn₃⟩ (by simp)) (fun ok s₄ h₄ => ?_) fun _ _ e => e.elim
    cases ok with
    | false =>
     simp only [Bool.false_eq_true,if_false] at h₄ ⊢
     obtain ⟨σ₅,q₅,F₅,O₅,hJ₅⟩:=h₄
     have sD:=O₅.side _ (.head _)
     exact back s₄ s₄ acc c σ₅ ((S'.trans ⟨rfl,rfl⟩).trans q₅) F₅ ⟨O₅.cell,fun p hp => O₅.side p (.tail _ hp)⟩ hJ₅ sD.1 sD.2.2.2
    | true =>
     simp only [if_true] at h₄ ⊢
     refine wpAny_mono h₄ (fun y s₅ h₅ => ?_) fun _ _ e => e.elim
     obtain ⟨σ₅,q₅,F₅,O₅,hJ₅⟩:=h₅
     have sD:=O₅.side _ (.head _)
     have O₆ : Own (sideOf h₃ (C :: wr) ++ ι) h₀ L s₅.heap (upd σ₅ D (listOf acc.toArray c)):=⟨fun a o e => by
      by_cases ha : a = D
      ·subst ha;rw [upd_self] at e;cases e;exact ⟨sD.1,sD.2.1,sD.2.2.1⟩
      ·rw [upd_ne ha] at e;exact O₅.cell a o e,fun p hp => by
      refine xe04 (O₅.side p (.tail _ hp)) fun a1 a2 a3 a4 => ?_
      exact ⟨a1,a2,a3,by rw [upd_ne (hw3 p hp).2.2.2.2];exact a4⟩⟩
     refine lappend F₅ O₆ (upd_self ..) (by have:=hal _ _ _ hJ;lia) fun s₆ n₆ q₆ F₆ O₇ => ?_
     rw [upd_upd] at O₇
     exact back s₆ s₆ (acc ++ [y]) n₆ σ₅ (((S'.trans ⟨rfl,rfl⟩).trans q₅).trans q₆) F₆ (O₇.less (Ext.upd sD.2.2.2)) hJ₅ (O₇.get (upd_self ..)) sD.2.2.2
   have hin : i = n:=by exact xs96 ‹_› ‹_›
   subst hin
   refine W.done _ _ _ hst' fun h₂ tk₂ hk₂ => ?_
   have hk₃ : ∀ b o,b ∉ wr → b ≠ C → s'.heap.get? b = some o → h₂.get? b = some o:=fun b o h1 h2 e => hk₂ b o h1 e
   refine xe02 (next h₂ hk₃) fun F₃ O₃ => ?_
   refine done D C acc c σ' _ mC (S'.trans ⟨rfl,rfl⟩) hσD cL ch0 (by rw [upd_ne (Ne.symm hDC)];exact hσC) cι (hCn _ (hk₂ _ _ cwr hC')) F₃ ⟨fun a o e => ?_,fun p hp => ?_⟩ hJ
   ·by_cases ha : a = D
    ·subst ha;rw [upd_self] at e;cases e;exact ⟨hk₃ _ _ dwr hDC hD',dL,dh⟩
    rw [upd_ne ha] at e;exact O₃.cell a o e
   refine xe04 (O₃.side p hp) fun a1 a2 a3 a4 => ?_
   exact ⟨a1,a2,a3,by rw [upd_ne (dι p hp)];exact a4⟩
  refine xe32 hns₁ fun oC es ep hC1 r => ?_
  try clear hns₁
  exact ⟨σ,[],0,0,_,oC,⟨rfl,rfl⟩,W.frame _ _ _ hst fun b _ o e => old b o e,F.kept old,O.more old,h0,hD1,hC1,fun h e => ⟨oC,es,ep,e,r⟩,fun b hb => (hwr b hb).2.2.1,O.fresh (by rw [hDe];exact Nat.le_refl _),O.fresh (by rw [hDe];show @LE.le Nat _ D C;lia),Nat.zero_le _,rfl⟩
 exact codeAny_compStart_list (loop _ rfl) (W.self 0 _ _ _ (W.frame _ _ _ hst fun b _ o e => old b o e) (loop _ rfl))
theorem sComp {env : Env} {elt iter : Expr} {x : Str} {px : Pos} {ifs : List Expr} {scope : Scope} {cl : List (Str × Addr)} {pos : Pos} {I : Addr} {fp wr : List Addr} {n : Nat} {P : Nat → Value → Prop} {St : Nat → Heap → Prop} {Q : Value → Shared → Prop}
  (J : Nat → List Value → Sg → Prop) (W : Walks prog w A I fp wr n P St) (hn : n ≤ 100000)
  (hcell : ∀ y ∈ scope.names,y.2 ≠ .cell) (hkind : scope.kind = .function) (hx : scope.names.lookup x = some .local)
  (hob : ∀ i h,St i h → ∀ b ∈ wr,∃ o,h.get? b = some o) (hwr : ∀ b ∈ wr,b ≠ L ∧ h₀.get? b = none ∧ σ b = none ∧ ∀ p ∈ ι,p.1 ≠ b)
  (hfix : ∀ b ∈ fp,b ∉ wr → (∃ o,h₀.get? b = some o) ∨ ∃ o,∀ i acc σ,J i acc σ → σ b = some o) (hfs : ∀ b ∈ fp,b < s.heap.objs.size)
  (hst : St 0 s.heap) (F : Fr h₀ L s.heap m) (O : Own ι h₀ L s.heap σ) (h0 : J 0 [] σ) (hal : ∀ i acc σ,J i acc σ → acc.length ≤ i)
  (step : ∀ i v C acc σ₁ s₁ ι' mC,(∀ h σ,Own ι' h₀ L h σ → Own ι h₀ L h σ) → Same s s₁ → i < n → P i v → J i acc σ₁ → Fr h₀ L s₁.heap m → Own ι' h₀ L s₁.heap σ₁ → NsAt ι' C mC → mC x = some v →
   wpAny (model prog w) A (forIn ifs true fun c r => if r = true then do let ok ← isTrue c (compEnvC scope cl C env) (eval c (compEnvC scope cl C env));pure (ForInStep.yield ok) else pure (ForInStep.yield r))
    (fun ok s₂ => if ok = true then wpAny (model prog w) A (eval elt (compEnvC scope cl C env)) (fun y s₃ => StepC J ι' h₀ L m (i + 1) (acc ++ [y]) s₁ s₃) (fun _ _ => False) s₂ else StepC J ι' h₀ L m (i + 1) acc s₁ s₂) (fun _ _ => False) s₁)
  (done : ∀ D acc c σ₁ s₁,Same s s₁ → σ₁ D = none → Fr h₀ L s₁.heap m → Own ι h₀ L s₁.heap (upd σ₁ D (listOf acc.toArray c)) → J n acc σ₁ → Q (.ref D) s₁) :
  wpAny (model prog w) A (newList []) (fun acc s₃ => wpAny (model prog w) A (newFunctionEnv scope env.globals cl [] env.qual none .none (some env)) (fun cenv s₄ =>
   codeAny (model prog w) A (.compStart (.ListComp elt [⟨.Name x px,iter,ifs,0⟩] scope pos) 0 (.ref I) acc { cenv with scope:=relabel scope env }) (compPost (model prog w) A E none Q acc cenv.locals) s₄) E s₃) E s:=by
 refine sCompG (RR:=fun acc C => compPost (model prog w) A E none Q acc C) J W hn hcell hkind hx hob hwr hfix hfs hst F O h0 hal step fun D C acc c σ₁ s₁ mC q₁ hD c1 c2 c3 c4 hN F₁ O₁ hJ => ?_
 exact ⟨mC,hN,fun h₃ hs₃ => done D acc c σ₁ { s₁ with heap:=h₃ } ⟨q₁.1,q₁.2⟩ hD (frBut1 F₁ hs₃ c1 c2) (ownBut1 O₁ hs₃ c3 c4) hJ⟩
end
noncomputable def addL (σ : Sg) : List (Addr × Obj) → Sg
 | [] => σ
 | p :: r => upd (addL σ r) p.1 p.2
theorem cellsFrom_ge : ∀ (names : List (Str × NameKind)) (n : Nat) (acc : List (Str × Addr)) (p : Str × Addr),p ∈ cellsFrom n names acc → p ∈ acc ∨ n ≤ p.2
 | [],_,_,_,h => .inl h
 | (x,k) :: r,n,acc,p,h => by
  unfold cellsFrom at h
  split at h
  ·rcases cellsFrom_ge r _ _ p h with h1 | h1
   ·rcases List.mem_cons.mp h1 with rfl | h2
    ·exact .inr (Nat.le_refl _)
    exact .inl h2
   exact .inr (Nat.le_of_succ_le h1)
  exact cellsFrom_ge r _ _ p h
theorem cellsAre_addr {cm : Str → Option Value} {cs : List (Str × Addr)} {cells : List (Addr × Obj)} (h : CellsAre cm cs cells) : ∀ p ∈ cells,∃ n,(n,p.1) ∈ cs:=by
 induction h with
 | nil => intro p hp;cases hp
 | cons _ _ ih =>
  intro p hp
  rcases List.mem_cons.mp hp with rfl | hp
  ·exact ⟨_,.head _⟩
  refine xe11 (ih p hp) fun n hn => ?_
  exact ⟨n,.tail _ hn⟩
theorem own_addL {ι : Sd} {g h : Heap} {L : Addr} {σ : Sg} {cells : List (Addr × Obj)} (O : Own ι g L h σ) (N : ∀ p ∈ cells,h.get? p.1 = some p.2 ∧ p.1 ≠ L ∧ g.get? p.1 = none) (hι : ∀ p ∈ ι,∀ q ∈ cells,q.1 ≠ p.1) : Own ι g L h (addL σ cells):=by
 induction cells with
 | nil => exact O
 | cons q r ih =>
  have IH:=ih (fun p hp => N p (.tail _ hp)) fun p hp q hq => hι p hp q (.tail _ hq)
  refine ⟨fun a o e => ?_,fun p hp => ?_⟩
  ·by_cases ha : a = q.1
   ·subst ha
    have e' : upd (addL σ r) q.1 q.2 q.1 = some o:=e
    rw [upd_self] at e';cases e'
    exact N q (.head _)
   have e' : upd (addL σ r) q.1 q.2 a = some o:=e
   rw [upd_ne ha] at e'
   exact IH.cell a o e'
  refine xe04 (IH.side p hp) fun a1 a2 a3 a4 => ?_
  refine ⟨a1,a2,a3,?_⟩
  show upd (addL σ r) q.1 q.2 p.1 = none
  rw [upd_ne (Ne.symm (hι p hp q (.head _)))];exact a4
theorem spec_ofC {w : World} {f : Addr} {d : Nat} {args : List Value} {kw : List (Str × Value)} {σ : Sg} {P : Value → Sg → Prop}
  {name qual : Str} {params : Arguments} {body : List Stmt} {scope : Scope} {dV kV doc pm cdv ct oc : Value} {an od : Option Addr} {osl : Array (Option Value)} {binds : List (Str × Value)}
  (ho : (pre.heap_1 w.params).lookup f = some ⟨oc,od,.func (fnOf name qual params body scope dV kV doc pm an cdv ct),osl⟩) (hcd : codeIn (pre.heap_1 w.params) cdv qual = true)
  (hbind : ∀ s,(pre.heap_1 w.params).In s.heap → BindsTo s (fnOf name qual params body scope dV kV doc pm an cdv ct) ⟨args,kw⟩ binds)
  (hkind : ∀ n,∀ x ∈ binds,scope.names.lookup x.1 = some .local ∨ (scope.names.lookup x.1 = some .cell ∧ ((cellsFrom n scope.names []).lookup x.1).isSome = true)) (hnd : ((cellsFrom 0 scope.names []).map (·.1)).Nodup)
  (hco : scope.isCoroutine = false) (hgen : scope.isGenerator = false) (hk : scope.kind = .function)
  (h : ∀ A g L' ι s cells,Cx w A g L' d → Fr g L' s.heap (bindL (envOfC qual scope L' f cdv).kindOf binds fun _ => none) → CellsAre (bindC (envOfC qual scope L' f cdv).kindOf binds fun _ => none) (cellsFrom (L' + 1) scope.names []) cells → Own ι g L' s.heap (addL σ cells) → (∀ p ∈ cells,σ p.1 = none) →
   let env:=envOfC qual scope L' f cdv
   let R : Flow → Shared → Prop:=fun fl s' => Ends ι g L' s P (retOf fl) s'
   wpAny (model pg w) A (execs body env) R (fun _ _ => False) s) :
  Spec w f (d + 1) args kw σ P:=by
 refine ⟨fun {A h₀ L m ι s R} C F O k => ?_⟩
 refine xe44 C.fr fun env outer A₀ base B hA hf hke => ?_
 refine xe31 C.T fun mean mg mb T => ?_
 have X:=C.X.keeps F.keep
 refine callX_cells B F (O.news s.heap.objs.size) T.nolimit hA hf hke (X _ _ ho) rfl (codeRec_of X hcd) (by have:=C.hd;show _ < 1000;lia) (hbind _ X) hkind hnd (fun g L' h₁ tk cells FG F' N' X' B' st hlt => ?_) hco hgen hk
 have hcl : ∀ p ∈ cells,L' < p.1:=fun p hp => by
  refine xe11 (cellsAre_addr X' p hp) fun n hn => ?_
  rcases cellsFrom_ge _ _ _ _ hn with h1 | h1
  ·cases h1
  exact h1
 have N1 : News g L' h₁ (toL σ s.heap.objs.size ++ ι):=fun p hp => N' p (List.mem_append_right _ hp)
 have O1 : Own ι g L' h₁ σ:=O.ofNews' N1
 have hσ : ∀ p ∈ cells,σ p.1 = none:=fun p hp => by
  cases q : σ p.1 with
  | none => rfl
  | some o =>
   have:=hlt (p.1,o) (List.mem_append_left _ (mem_toL.mpr ⟨O.lt q,q⟩))
   exact absurd this (Nat.not_lt.mpr (Nat.le_of_lt (hcl p hp)))
 have O2 : Own ι g L' h₁ (addL σ cells):=own_addL O1 (fun p hp => N' p (List.mem_append_left _ hp)) fun p hp q hq z => by
  have:=hlt p (List.mem_append_right _ hp)
  have h2:=hcl q hq
  rw [z] at h2
  exact absurd this (Nat.not_lt.mpr (Nat.le_of_lt h2))
 refine wpAny_mono (h (A.deeper (envOfC qual scope L' f cdv)) g L' ι { s with heap:=h₁,toks:=tk } cells ⟨⟨envOfC qual scope L' f cdv,env :: outer,_,_,B',?_,rfl,hk⟩,C.X.keeps st,⟨mean,mg,mb,T.keeps st⟩,C.hh,?_,?_⟩ F' X' O2 hσ) (fun fl s'' h' => ?_) fun _ _ e => e.elim
 ·show (A.frames.map (_ :: ·)) = _
  rw [hA];rfl
 ·have:=C.hd;show A.depth + 1 + d ≤ 900;lia
 ·have:=C.hu;show A.units + 3 + 20 * d ≤ 9000;lia
 obtain ⟨m',σ',S',F'',O'',hP⟩:=h'
 refine (leaveS F'' O'' fun FF OO => ?_).toK
 cases fl <;> exact k _ _ _ ⟨S'.1,S'.2⟩ FF OO hP
section
variable {prog : Program} {w : World} {A : Around} {E : Value → Shared → Prop} {s : Shared} {ι : Sd} {h₀ : Heap} {L : Addr} {σ : Sg} {m : Str → Option Value}
noncomputable def CompB (prog : Program) (w : World) (A : Around) (E : Value → Shared → Prop) (env : Env) (elt iter : Expr) (x : Str) (px : Pos) (ifs : List Expr) (scope : Scope) (cl : List (Str × Addr)) (pos : Pos) (Q : Value → Shared → Prop) (it : Value) (s₂ : Shared) : Prop :=
 wpAny (model prog w) A (newList []) (fun acc s₃ => wpAny (model prog w) A (newFunctionEnv scope env.globals cl [] env.qual none .none (some env)) (fun cenv s₄ =>
   codeAny (model prog w) A (.compStart (.ListComp elt [⟨.Name x px,iter,ifs,0⟩] scope pos) 0 it acc { cenv with scope:=relabel scope env }) (compPost (model prog w) A E none Q acc cenv.locals) s₄) E s₃) E s₂
theorem sListComp {env : Env} {elt iter : Expr} {x : Str} {px : Pos} {ifs : List Expr} {scope : Scope} (cl : List (Str × Addr)) {pos : Pos} {Q : Value → Shared → Prop} (hclos : closureFor scope env = pure cl) (hkind : scope.kind = .function)
  (hnames : ∀ y ∈ scope.names,y.2 = .local → scope.names.lookup y.1 = some .local)
  (h : wpAny (model prog w) A (eval iter env) (fun xv s₁ => wpAny (model prog w) A (pyIter xv) (fun it s₂ => CompB prog w A E env elt iter x px ifs scope cl pos Q it s₂) E s₁) E s)
  (hs : ∀ x,foldedSetIterable iter env x = pure x:=by intro _;rfl) : wpAny (model prog w) A (eval (.ListComp elt [⟨.Name x px,iter,ifs,0⟩] scope pos) env) Q E s:=by
 exact wpAny_comprehension_free (use:=none) rfl hs hclos hkind hnames h
noncomputable def StepAt (prog : Program) (w : World) (A : Around) (env : Env) (elt : Expr) (ifs : List Expr) (scope : Scope) (cl : List (Str × Addr)) (J : Nat → List Value → Sg → Prop) (ι' : Sd) (h₀ : Heap) (L : Addr) (m : Str → Option Value) (C : Addr) (i : Nat) (acc : List Value) (s₁ : Shared) : Prop :=
 wpAny (model prog w) A (forIn ifs true fun c r => if r = true then do let ok ← isTrue c (compEnvC scope cl C env) (eval c (compEnvC scope cl C env));pure (ForInStep.yield ok) else pure (ForInStep.yield r))
  (fun ok s₂ => if ok = true then wpAny (model prog w) A (eval elt (compEnvC scope cl C env)) (fun y s₃ => StepC J ι' h₀ L m (i + 1) (acc ++ [y]) s₁ s₃) (fun _ _ => False) s₂ else StepC J ι' h₀ L m (i + 1) acc s₁ s₂) (fun _ _ => False) s₁
variable {env : Env} {elt iter : Expr} {x : Str} {px : Pos} {ifs : List Expr} {scope : Scope} {cl : List (Str × Addr)} {pos : Pos} {Q : Value → Shared → Prop}
theorem compRange {r : Addr} {b : Int} {t u v : Tok} {n : Nat} (J : Nat → List Value → Sg → Prop) (hh : A.handled = none) (hr : IsRange s.heap r 0 b 1 t u v) (hb : b = n) (hn : n ≤ 100000)
  (hcell : ∀ y ∈ scope.names,y.2 ≠ .cell) (hkind : scope.kind = .function) (hx : scope.names.lookup x = some .local) (F : Fr h₀ L s.heap m) (O : Own ι h₀ L s.heap σ) (h0 : J 0 [] σ) (hal : ∀ i acc σ,J i acc σ → acc.length ≤ i)
  (step : ∀ i t C acc σ₁ s₁ ι' mC,Same s s₁ → i < n → J i acc σ₁ → Fr h₀ L s₁.heap m → Own ι' h₀ L s₁.heap σ₁ → NsAt ι' C mC → mC x = some (.int i t) → StepAt prog w A env elt ifs scope cl J ι' h₀ L m C i acc s₁)
  (done : ∀ D acc c σ₁ s₁,Same s s₁ → σ₁ D = none → Fr h₀ L s₁.heap m → Own ι h₀ L s₁.heap (upd σ₁ D (listOf acc.toArray c)) → J n acc σ₁ → Q (.ref D) s₁) :
  wpAny (model prog w) A (pyIter (.ref r)) (fun it s₂ => CompB prog w A E env elt iter x px ifs scope cl pos Q it s₂) E s:=by
 subst hb
 have hsz : Builtin.Range.rangeSize 0 (n : Int) 1 = ((n : Nat) : Int):=by rw [rangeSize_one];split <;> lia
 refine wpAny_pyIter_range hr (small_one (by lia) (by lia) (by lia) (by lia)) ?_
 rw [hsz]
 refine xe02 (newBase F) fun n1 n2 => ?_
 refine sComp (s:={ s with heap:=s.heap.push { cls:=.type "range_iterator",data:=.fields #[rawInt 0,rawInt n,rawInt 1] } }) (σ:=σ) (ι:=ι) (h₀:=h₀) (L:=L) (m:=m) J (Walks.range hh s.heap.objs.size 0 1 n) hn hcell hkind hx (fun i h st b hb => ?_) (fun b hb => ?_) (fun b hb hb' => absurd hb hb') (fun b hb => ?_) ?_ (F.push _) (O.more fun b o e => Heap.get?_push_of_some _ e) h0 hal (fun i v C acc σ₁ s₁ ι' mC w₁ q₁ hi hv hJ F₁ O₁ hN hm => ?_) fun D acc c σ₁ s₁ q₁ hD F₁ O₁ hJ => done D acc c σ₁ s₁ ⟨q₁.1,q₁.2⟩ hD F₁ O₁ hJ
 ·simp only [List.mem_singleton] at hb
  subst hb
  exact ⟨_,st⟩
 ·simp only [List.mem_singleton] at hb
  subst hb
  exact ⟨n1,n2,O.fresh (Nat.le_refl _),fun p hp => Nat.ne_of_lt (Heap.lt_size (O.side p hp).1)⟩
 ·simp only [List.mem_singleton] at hb
  subst hb
  rw [Heap.size_push];exact Nat.lt_succ_self _
 ·have:=Heap.get?_push_size s.heap (o:={ cls:=.type "range_iterator",data:=.fields #[rawInt 0,rawInt n,rawInt 1] }) rfl
  have e1 : (0 : Int) + ((0 : Nat) : Int) * 1 = 0:=by simp
  have e2 : (n : Int) - ((0 : Nat) : Int) = n:=by simp
  exact this
 refine xe11 hv fun t' zq1 => ?_
 try clear hv
 subst zq1
 rw [Int.mul_one,Int.zero_add] at hm
 exact step i t' C acc σ₁ s₁ ι' mC ⟨q₁.1,q₁.2⟩ hi hJ F₁ O₁ hN hm
theorem compStr {l : List Nat} {tk : Tok} (J : Nat → List Value → Sg → Prop) (hh : A.handled = none) (hn : l.length ≤ 100000)
  (hcell : ∀ y ∈ scope.names,y.2 ≠ .cell) (hkind : scope.kind = .function) (hx : scope.names.lookup x = some .local) (F : Fr h₀ L s.heap m) (O : Own ι h₀ L s.heap σ) (h0 : J 0 [] σ) (hal : ∀ i acc σ,J i acc σ → acc.length ≤ i)
  (step : ∀ i c t C acc σ₁ s₁ ι' mC,Same s s₁ → l[i]? = some c → J i acc σ₁ → Fr h₀ L s₁.heap m → Own ι' h₀ L s₁.heap σ₁ → NsAt ι' C mC → mC x = some (.str (ch c) t) → StepAt prog w A env elt ifs scope cl J ι' h₀ L m C i acc s₁)
  (done : ∀ D acc c σ₁ s₁,Same s s₁ → σ₁ D = none → Fr h₀ L s₁.heap m → Own ι h₀ L s₁.heap (upd σ₁ D (listOf acc.toArray c)) → J l.length acc σ₁ → Q (.ref D) s₁) :
  wpAny (model prog w) A (pyIter (.str (sw l) tk)) (fun it s₂ => CompB prog w A E env elt iter x px ifs scope cl pos Q it s₂) E s:=by
 refine xe02 (newBase F) fun n1 n2 => ?_
 have go : ∀ (ty : String) (W : Walks prog w A s.heap.objs.size [s.heap.objs.size] [s.heap.objs.size] (sw l).cps.size (SignAt (sw l)) (fun i h => h.IsStrIter s.heap.objs.size ty (sw l) tk i)),
   CompB prog w A E env elt iter x px ifs scope cl pos Q (.ref s.heap.objs.size) { s with heap:=s.heap.push { cls:=.type ty,data:=.fields #[.str (sw l) tk,.int 0 0] } }:=fun ty W => by
  have hsz : (sw l).cps.size = l.length:=by simp
  rw [hsz] at W
  refine sComp (s:={ s with heap:=s.heap.push { cls:=.type ty,data:=.fields #[.str (sw l) tk,.int 0 0] } }) (σ:=σ) (ι:=ι) (h₀:=h₀) (L:=L) (m:=m) J W hn hcell hkind hx (fun i h st b hb => ?_) (fun b hb => ?_) (fun b hb hb' => absurd hb hb') (fun b hb => ?_) ⟨_,Heap.get?_push_size _ rfl,rfl,rfl⟩ (F.push _) (O.more fun b o e => Heap.get?_push_of_some _ e) h0 hal (fun i v C acc σ₁ s₁ ι' mC w₁ q₁ hi hv hJ F₁ O₁ hN hm => ?_) fun D acc c σ₁ s₁ q₁ hD F₁ O₁ hJ => done D acc c σ₁ s₁ ⟨q₁.1,q₁.2⟩ hD F₁ O₁ hJ
  ·simp only [List.mem_singleton] at hb
   subst hb
   refine xe12 st fun o ho _ => ?_
   try clear st
   exact ⟨_,ho⟩
  ·simp only [List.mem_singleton] at hb
   subst hb
   exact ⟨n1,n2,O.fresh (Nat.le_refl _),fun p hp => Nat.ne_of_lt (Heap.lt_size (O.side p hp).1)⟩
  ·simp only [List.mem_singleton] at hb
   subst hb
   rw [Heap.size_push];exact Nat.lt_succ_self _
  refine xe22 hv fun c t' hc zq2 => ?_
  try clear hv
  subst zq2
  exact step i c t' C acc σ₁ s₁ ι' mC ⟨q₁.1,q₁.2⟩ (by simpa using hc) hJ F₁ O₁ hN hm
 cases ha : (sw l).cps.all (· < 128)
 ·exact wpAny_pyIter_wide ha (go _ (Walks.strWide hh _ _ _))
 exact wpAny_pyIter_ascii ha (go _ (Walks.strAscii hh _ _ _))
end
section
variable {prog : Program} {w : World} {A : Around} {E : Value → Shared → Prop} {s : Shared} {ι : Sd} {h₀ : Heap} {L : Addr} {σ : Sg} {m : Str → Option Value}
theorem llast {la : Addr} {vs : List Value} {n : Nat} {u : Tok} {v : Value} {value slice : Expr} {Q : Value → Shared → Prop} (F : Fr h₀ L s.heap m) (O : Own ι h₀ L s.heap σ) (hla : σ la = some (listOf (vs ++ [v]).toArray n)) (hl : vs.length ≤ 100000)
  (h : ∀ s',Same s s' → Fr h₀ L s'.heap m → Own ι h₀ L s'.heap σ → Q v s') (hs : subscripted slice false (.ref la) (.int (-1) u) = operate [.ref la,.int (-1) u] (getItem (.ref la) (.int (-1) u)):=by with_unfolding_all rfl) :
  wpAny (model prog w) A (subscriptTail value slice (.ref la) (.int (-1) u)) Q E s:=by
 have e : ((-1 : Int) + ((vs ++ [v]).toArray.size : Int)).toNat = vs.length:=by simp;lia
 refine subscriptTail_builtinR ⟨_,O.get hla,rfl⟩ PySem.F.slot_list_getitem.lookup (wpAny_getItem_list_neg (x:=v) (items:=(vs ++ [v]).toArray) ⟨_,O.get hla,rfl,n,rfl⟩ (by lia) (by simp;lia) (by decide) (by rw [e];simp) ⟨rfl,h _ ⟨rfl,rfl⟩ F O⟩) hs
theorem srangeDown {n : Nat} {t u v : Tok} {Q : Value → Shared → Prop} (hn : n ≤ 1000) (F : Fr h₀ L s.heap m) (O : Own ι h₀ L s.heap σ)
  (h : ∀ s' r t u v,Same s s' → Fr h₀ L s'.heap m → Own ι h₀ L s'.heap σ → IsRange s'.heap r n (-1) (-1) t u v → Q (.ref r) s') : wpAny (model prog w) A (call (.type "range") [.int n t,.int (-1) u,.int (-1) v]) Q E s:=by
 refine call_range_3 (by decide) ?_ (.inl (PyProof.noPylong_small (by lia)))
 exact h _ _ _ _ _ ⟨rfl,rfl⟩ (F.push _) (O.more fun b o e => Heap.get?_push_of_some _ e) (IsRange.new ..)
theorem sizeDown (n : Nat) : Builtin.Range.rangeSize n (-1) (-1) = ((n + 1 : Nat) : Int):=by
 unfold Builtin.Range.rangeSize
 have e : ((n : Int) - -1 - 1) / (- -1) = n:=by
  have : (- -1 : Int) = 1:=by decide
  lia
 simp only [show ¬ ((-1 : Int) > 0) by decide,if_false,e]
 split <;> lia
theorem smallDown {n : Nat} (hn : n ≤ 1000) : Builtin.Range.small n (-1) (-1) = true:=by
 unfold Builtin.Range.small
 rw [sizeDown]
 simp only [Builtin.Range.rangeFitsLong,Bool.and_eq_true,Bool.or_eq_true,decide_eq_true_eq,beq_iff_eq,show ¬ ((-1 : Int) > 0) by decide,if_false]
 lia
theorem forDown {env : Env} {x : Str} {px : Pos} {body orelse : List Stmt} {Q : Flow → Shared → Prop} {r : Addr} {n : Nat} {t u v : Tok} {m : Str → Option Value}
  (J : Nat → (Str → Option Value) → Sg → Prop) (hh : A.handled = none) (F : Fr h₀ env.locals s.heap m) (O : Own ι h₀ env.locals s.heap σ) (hr : IsRange s.heap r n (-1) (-1) t u v) (hn : n ≤ 1000) (h0 : J 0 m σ)
  (step : ∀ i t m₁ σ₁ s₁ ι',(∀ h σ,Own ι' h₀ env.locals h σ → Own ι h₀ env.locals h σ) → Same s s₁ → i ≤ n → J i m₁ σ₁ →
   Fr h₀ env.locals s₁.heap (fun y => if y = x then some (.int ((n - i : Nat) : Int) t) else m₁ y) → Own ι' h₀ env.locals s₁.heap σ₁ →
   wpAny (model prog w) A (execs body env) (fun f s₂ => match f with
    | .next | .cont => Turn J ι' h₀ env.locals s₁ (i + 1) s₂
    | .brk => Q .next s₂
    | .ret v => Q (.ret v) s₂) (fun _ _ => False) s₁)
  (done : ∀ m₁ σ₁ s₁,Same s s₁ → Fr h₀ env.locals s₁.heap m₁ → Own ι h₀ env.locals s₁.heap σ₁ → J (n + 1) m₁ σ₁ → wpAny (model prog w) A (execs orelse env) Q (fun _ _ => False) s₁)
  (hx : env.kindOf x = some .local:=by rfl) (hp : (env.scope.kind == .class || (env.scope.kind == .module && env.locals != env.globals)) = false:=by rfl) :
  wpAny (model prog w) A (pyIter (.ref r)) (fun it s₂ => codeAny (model prog w) A (.forLoop (.Name x px) it body orelse env) (fun r s' => match r with | .ok f => Q f s' | .error e => cameBackBy (model prog w) A env E e s') s₂) E s:=by
 refine wpAny_pyIter_range hr (smallDown hn) ?_
 rw [sizeDown]
 refine xe02 (newBase F) fun n1 n2 => ?_
 refine forW (s:={ s with heap:=s.heap.push { cls:=.type "range_iterator",data:=.fields #[rawInt n,rawInt ((n + 1 : Nat) : Int),rawInt (-1)] } }) (h₀:=h₀) (σ:=σ) (m:=m) (ι:=ι) J (Walks.range hh s.heap.objs.size n (-1) (n + 1)) hx hp (fun i h st b hb => ?_) (fun b hb => ?_) (fun b hb hb' => absurd hb hb') ?_ (F.push _) (O.more fun b o e => Heap.get?_push_of_some _ e) h0 (fun i v m₁ σ₁ s₁ ι' w₁ q₁ hi hv hJ F₁ O₁ => ?_) fun m₁ σ₁ s₁ q₁ F₁ O₁ hJ => done m₁ σ₁ s₁ ⟨q₁.1,q₁.2⟩ F₁ O₁ hJ
 ·simp only [List.mem_singleton] at hb
  subst hb
  exact ⟨_,st⟩
 ·simp only [List.mem_singleton] at hb
  subst hb
  exact ⟨n1,n2,O.fresh (Nat.le_refl _),fun p hp => Nat.ne_of_lt (Heap.lt_size (O.side p hp).1)⟩
 ·have:=Heap.get?_push_size s.heap (o:={ cls:=.type "range_iterator",data:=.fields #[rawInt n,rawInt ((n + 1 : Nat) : Int),rawInt (-1)] }) rfl
  have e1 : (n : Int) + ((0 : Nat) : Int) * (-1) = n:=by simp
  have e2 : ((n + 1 : Nat) : Int) - ((0 : Nat) : Int) = ((n + 1 : Nat) : Int):=by simp
  exact this
 refine xe11 hv fun t' zq1 => ?_
 try clear hv
 subst zq1
 have e1 : (n : Int) + (i : Int) * (-1) = ((n - i : Nat) : Int):=by lia
 rw [e1] at F₁
 refine wpAny_mono (step i t' m₁ σ₁ s₁ ι' w₁ ⟨q₁.1,q₁.2⟩ (by exact xs15 ‹_›) hJ F₁ O₁) (fun f s₂ h₂ => ?_) fun _ _ e => e
 cases f with
 | next => exact h₂.ex
 | cont => exact h₂.ex
 | brk => exact h₂
 | ret v => exact h₂
end
section
variable {prog : Program} {w : World} {A : Around} {E : Value → Shared → Prop} {s : Shared} {ι : Sd} {h₀ : Heap} {L : Addr} {σ : Sg} {m : Str → Option Value}
theorem own_new {h' : Heap} {D : Addr} {o : Obj} (O : Own ι h₀ L s.heap σ) (N : News h₀ L h' ((D,o) :: (toL σ s.heap.objs.size ++ ι))) (hD : ∀ q ∈ toL σ s.heap.objs.size ++ ι,q.1 < D) : σ D = none ∧ Own ι h₀ L h' (upd σ D o):=by
 have hn : σ D = none:=by
  cases q : σ D with
  | none => rfl
  | some o' => exact absurd (hD (D,o') (List.mem_append_left _ (mem_toL.mpr ⟨O.lt q,q⟩))) (Nat.lt_irrefl _)
 refine ⟨hn,fun a x e => ?_,fun p hp => ?_⟩
 ·by_cases ha : a = D
  ·subst ha;rw [upd_self] at e;cases e;exact N _ (.head _)
  rw [upd_ne ha] at e
  exact N (a,x) (.tail _ (List.mem_append_left _ (mem_toL.mpr ⟨O.lt e,e⟩)))
 refine xe03 (N p (.tail _ (List.mem_append_right _ hp))) fun a1 a2 a3 => ?_
 exact ⟨a1,a2,a3,by rw [upd_ne (Nat.ne_of_lt (hD p (List.mem_append_right _ hp)))];exact (O.side p hp).2.2.2⟩
theorem ssort_int {l : Addr} {vs : List Value} {n : Nat} {ns : List Int} {Q : Value → Shared → Prop} (F : Fr h₀ L s.heap m) (O : Own ι h₀ L s.heap σ) (hl : σ l = some (listOf vs.toArray n)) (hi : All2 isI ns vs) (h64 : ns.length < 64)
  (h : ∀ s' D vs' ns' c,σ D = none → Same s s' → Fr h₀ L s'.heap m → Own ι h₀ L s'.heap (upd σ D (listOf vs'.toArray c)) → All2 isI ns' vs' → ns'.Perm ns → ns'.Pairwise (· ≤ ·) → Q (.ref D) s') : wpAny (model prog w) A (call (.builtin "sorted") [.ref l]) Q E s:=by
 have back : ∀ {ns : List Int} {vs : List Value},IntsAre vs ns → All2 isI ns vs:=fun {ns vs} h => by
  induction h with
  | nil => exact .nil
  | cons n t _ ih => exact .cons ⟨t,rfl⟩ ih
 have hlen:=hi.length
 refine sorted_N F (O.news s.heap.objs.size) ⟨_,O.get hl,rfl,n,rfl⟩ (ints_are hi) (by exact xs94d ‹_› ‹_›) fun h' vs' ns' e F' N' h1 h2 h3 => ?_
 obtain ⟨hn,O'⟩:=own_new O N' fun p hp => by
  rcases List.mem_append.mp hp with q | q
  ·exact Nat.lt_succ_of_lt (mem_toL.mp q).1
  exact Nat.lt_succ_of_lt (Heap.lt_size (O.side p q).1)
 exact h { s with heap:=h' } _ vs' ns' e hn ⟨rfl,rfl⟩ F' O' (back h1) h2 h3
theorem ladd {l b : Addr} {vs ws : List Value} {n n' : Nat} {Q : Value → Shared → Prop} (F : Fr h₀ L s.heap m) (O : Own ι h₀ L s.heap σ) (hl : σ l = some (listOf vs.toArray n)) (hb : σ b = some (listOf ws.toArray n')) (hz : vs.length + ws.length ≤ 1000)
  (h : ∀ s' D,σ D = none → Same s s' → Fr h₀ L s'.heap m → Own ι h₀ L s'.heap (upd σ D (listOf (vs ++ ws).toArray 0)) → Q (.ref D) s') : wpAny (model prog w) A (binaryOp .Add (.ref l) (.ref b)) Q E s:=by
 refine add_lists (hsz:=by rw [sizeLine_eq];lia) F (O.news s.heap.objs.size) ⟨_,O.get hl,rfl,n,rfl⟩ ⟨_,O.get hb,rfl,n',rfl⟩ fun h' F' N' => ?_
 obtain ⟨hn,O'⟩:=own_new O N' fun p hp => by
  rcases List.mem_append.mp hp with q | q
  ·exact (mem_toL.mp q).1
  exact Heap.lt_size (O.side p q).1
 exact h { s with heap:=h' } _ hn ⟨rfl,rfl⟩ F' O'
theorem leqnil {l b : Addr} {vs : List Value} {n n' : Nat} {Q : Value → Shared → Prop} (hu : A.units < cLine) (F : Fr h₀ L s.heap m) (O : Own ι h₀ L s.heap σ) (hl : σ l = some (listOf vs.toArray n)) (hb : σ b = some (listOf ([] : List Value).toArray n'))
  (h : Q (.bool vs.isEmpty) s) : wpAny (model prog w) A (compareOp .Eq (.ref l) (.ref b)) Q E s:=by
 cases vs with
 | nil =>
  refine SeqAt.eq_listAt (e:=fun _ => true) (items:=#[]) (items2:=#[]) ⟨_,O.get hl,rfl,n,rfl⟩ ⟨_,O.get hb,rfl,n',rfl⟩ rfl hu (fun j h1 => absurd h1 (Nat.not_lt_zero _)) h
 | cons v r =>
  exact SeqAt.eq_list_lengthsAt ⟨_,O.get hl,rfl,n,rfl⟩ ⟨_,O.get hb,rfl,n',rfl⟩ (by simp) hu h
end
theorem last_int {xs : List Int} {ws : List Value} (h : All2 isI xs ws) (hne : 0 < xs.length) : ∃ wr t,ws = wr ++ [.int (xs.getLastD 0) t] ∧ wr.length + 1 = xs.length:=by
 rcases List.eq_nil_or_concat xs with rfl | ⟨ys,y,rfl⟩
 ·simp at hne
 rw [List.concat_eq_append] at h ⊢
 refine xe23 (All2.split h) fun v1 v2 zq1 h1 h2 => ?_
 subst zq1
 cases h2 with
 | cons hy hr =>
  cases hr
  refine xe11 hy fun t zq2 => ?_
  try clear hy
  subst zq2
  refine ⟨v1,t,?_,?_⟩
  ·simp
  have:=h1.length;simp;lia
noncomputable abbrev iN (l : List Nat) : List Int:=l.map fun (c : Nat) => (c : Int)
theorem ints_nat {ns : List Int} {l : List Nat} (hp : ns.Perm (iN l)) (hs : ns.Pairwise (· ≤ ·)) : ∃ cs : List Nat,ns = iN cs ∧ cs.Pairwise (· ≤ ·) ∧ (∀ c,c ∈ cs ↔ c ∈ l) ∧ cs.length = l.length:=by
 have hall : ∀ x ∈ ns,((x.toNat : Nat) : Int) = x:=fun x hx => by
  refine xe12 (List.mem_map.mp (hp.mem_iff.mp hx)) fun c _ zq3 => ?_
  subst zq3
  lia
 have e : ns = iN (ns.map Int.toNat):=by
  rw [iN,List.map_map]
  conv => lhs;rw [← List.map_id ns]
  exact List.map_congr_left fun x hx => (hall x hx).symm
 refine ⟨ns.map Int.toNat,e,?_,fun c => ⟨fun h => ?_,fun h => ?_⟩,?_⟩
 ·rw [List.pairwise_map]
  exact hs.imp fun {a b} h => by exact xs25f ‹_›
 ·refine xe12 (List.mem_map.mp h) fun x hx zq4 => ?_
  subst zq4
  refine xe12 (List.mem_map.mp (hp.mem_iff.mp hx)) fun c hc zq5 => ?_
  subst zq5
  simpa using hc
 ·exact List.mem_map.mpr ⟨(c : Int),hp.mem_iff.mpr (List.mem_map.mpr ⟨c,h,rfl⟩),by simp⟩
 rw [List.length_map,hp.length_eq,List.length_map]
section
variable {prog : Program} {w : World} {A : Around} {E : Value → Shared → Prop} {s : Shared} {ι : Sd} {h₀ : Heap} {σ : Sg} {m : Str → Option Value}
noncomputable def CompU (prog : Program) (w : World) (A : Around) (E : Value → Shared → Prop) (env : Env) (elt iter : Expr) (x : Str) (px : Pos) (y : Str) (py : Pos) (ifs : List Expr) (scope : Scope) (cl : List (Str × Addr)) (pos : Pos) (Q : Flow → Shared → Prop) (it : Value) (s₂ : Shared) : Prop :=
 wpAny (model prog w) A (newList []) (fun acc s₃ => wpAny (model prog w) A (newFunctionEnv scope env.globals cl [] env.qual none .none (some env)) (fun cenv s₄ =>
   codeAny (model prog w) A (.compStart (.ListComp elt [⟨.Name x px,iter,ifs,0⟩] scope pos) 0 it acc { cenv with scope:=relabel scope env }) (compPost (model prog w) A E (some (assign (.Name y py) env)) (fun _ s' => Q .next s') acc cenv.locals) s₄) E s₃) E s₂
theorem sAssignComp {env : Env} {elt iter : Expr} {x y : Str} {px py : Pos} {ifs : List Expr} {scope : Scope} (cl : List (Str × Addr)) {pos spos : Pos} {Q : Flow → Shared → Prop} (hclos : closureFor scope env = pure cl) (hkind : scope.kind = .function)
  (hnames : ∀ y ∈ scope.names,y.2 = .local → scope.names.lookup y.1 = some .local) (hsw : swapsWith (.ListComp elt [⟨.Name x px,iter,ifs,0⟩] scope pos) (some (.Name y py)) spos.line env = pure true)
  (h : wpAny (model prog w) A (eval iter env) (fun xv s₁ => wpAny (model prog w) A (pyIter xv) (fun it s₂ => CompU prog w A E env elt iter x px y py ifs scope cl pos Q it s₂) E s₁) E s)
  (hs : ∀ x,foldedSetIterable iter env x = pure x:=by intro _;rfl) : wpAny (model prog w) A (exec (.Assign [.Name y py] (.ListComp elt [⟨.Name x px,iter,ifs,0⟩] scope pos) spos) env) Q E s:=by
 rw [exec_Assign_Name_used _ _ _ _ hsw]
 refine wpAny_bind (wpAny_standAt (wpAny_bind ?_))
 show wpAny _ A (do let _ ← comprehension (.ListComp elt [⟨.Name x px,iter,ifs,0⟩] scope pos) scope env _ (newList []) false (eval iter env) (some (assign (.Name y py) env))) _ _ s
 exact wpAny_bind (wpAny_mono (wpAny_comprehension_free (use:=some (assign (.Name y py) env)) (Q:=fun _ s' => Q .next s') rfl hs hclos hkind hnames h) (fun _ s' hq => wpAny_pure (wpAny_pure hq)) fun _ _ e => e)
variable {env : Env} {elt iter : Expr} {x y : Str} {px py : Pos} {ifs : List Expr} {scope : Scope} {cl : List (Str × Addr)} {pos : Pos} {Q : Flow → Shared → Prop}
theorem compLstU {la : Addr} {vs : List Value} {cn : Nat} (J : Nat → List Value → Sg → Prop) (hh : A.handled = none) (hn : vs.length ≤ 100000) (ht : ∀ i acc σ,J i acc σ → σ la = some (listOf vs.toArray cn))
  (hcell : ∀ y ∈ scope.names,y.2 ≠ .cell) (hkind : scope.kind = .function) (hx : scope.names.lookup x = some .local) (F : Fr h₀ env.locals s.heap m) (O : Own ι h₀ env.locals s.heap σ) (h0 : J 0 [] σ) (hal : ∀ i acc σ,J i acc σ → acc.length ≤ i)
  (step : ∀ i v C acc σ₁ s₁ ι' mC,Same s s₁ → vs[i]? = some v → J i acc σ₁ → Fr h₀ env.locals s₁.heap m → Own ι' h₀ env.locals s₁.heap σ₁ → NsAt ι' C mC → mC x = some v → StepAt prog w A env elt ifs scope cl J ι' h₀ env.locals m C i acc s₁)
  (done : ∀ D acc c σ₁ s₁,Same s s₁ → σ₁ D = none → Fr h₀ env.locals s₁.heap (fun z => if z = y then some (.ref D) else m z) → Own ι h₀ env.locals s₁.heap (upd σ₁ D (listOf acc.toArray c)) → J vs.length acc σ₁ → Q .next s₁)
  (hy : env.kindOf y = some .local:=by rfl) (hp : (env.scope.kind == .class || (env.scope.kind == .module && env.locals != env.globals)) = false:=by rfl) :
  wpAny (model prog w) A (pyIter (.ref la)) (fun it s₂ => CompU prog w A E env elt iter x px y py ifs scope cl pos Q it s₂) E s:=by
 have hla:=ht 0 [] σ h0
 refine wpAny_pyIter_list ⟨_,O.get hla,rfl,cn,rfl⟩ ?_
 refine xe02 (newBase F) fun n1 n2 => ?_
 have hne : la ≠ s.heap.objs.size:=Nat.ne_of_lt (O.lt hla)
 have W:=Walks.list (prog:=prog) (w:=w) hh s.heap.objs.size la hne vs.toArray
 have hsz : vs.toArray.size = vs.length:=by simp
 rw [hsz] at W
 have k : ∀ b o,s.heap.get? b = some o → (s.heap.push { cls:=.type "list_iterator",data:=.fields #[.ref la,.int 0 0] }).get? b = some o:=fun b o e => Heap.get?_push_of_some _ e
 refine sCompG (RR:=fun acc C => compPost (model prog w) A E (some (assign (.Name y py) env)) (fun _ s' => Q .next s') acc C) (s:={ s with heap:=s.heap.push { cls:=.type "list_iterator",data:=.fields #[.ref la,.int 0 0] } }) (σ:=σ) (ι:=ι) (h₀:=h₀) (L:=env.locals) (m:=m) J W hn hcell hkind hx (fun i h st b hb => ?_) (fun b hb => ?_) (fun b hb hb' => ?_) (fun b hb => ?_) ⟨⟨_,Heap.get?_push_size _ rfl,rfl,rfl⟩,⟨_,k _ _ (O.get hla),rfl,cn,rfl⟩⟩ (F.push _) (O.more k) h0 hal (fun i v C acc σ₁ s₁ ι' mC w₁ q₁ hi hv hJ F₁ O₁ hN hm => step i v C acc σ₁ s₁ ι' mC ⟨q₁.1,q₁.2⟩ (by simpa using hv) hJ F₁ O₁ hN hm) fun D C acc c σ₁ s₁ mC q₁ hD c1 c2 c3 c4 hN F₁ O₁ hJ => ?_
 ·simp only [List.mem_singleton] at hb
  subst hb
  refine xe02 st fun zq1 _ => ?_
  try clear st
  refine xe12 zq1 fun o ho _ => ?_
  try clear zq1
  exact ⟨o,ho⟩
 ·simp only [List.mem_singleton] at hb
  subst hb
  exact ⟨n1,n2,O.fresh (Nat.le_refl _),fun p hp => Nat.ne_of_lt (Heap.lt_size (O.side p hp).1)⟩
 ·have : b = la:=by
   rcases List.mem_cons.mp hb with z | z
   ·exact absurd (by rw [z];exact List.mem_singleton.mpr rfl) hb'
   exact List.mem_singleton.mp z
  subst this
  exact .inr ⟨_,ht⟩
 ·show b < (s.heap.push _).objs.size
  rw [Heap.size_push]
  rcases List.mem_cons.mp hb with z | z
  ·rw [z];exact Nat.lt_succ_self _
  rw [List.mem_singleton.mp z];exact Nat.lt_succ_of_lt (O.lt hla)
 show wpAny _ A (assign (.Name y py) env (.ref D)) _ _ _
 refine wpAny_assign_Name (wpAny_storeName_local hy F₁.ns (fun h₂ hn₂ hs₂ => ?_) hp)
 refine ⟨mC,hN.sameBut hs₂ c1,fun h₃ hs₃ => ?_⟩
 exact done D acc c σ₁ { s₁ with heap:=h₃,toks:=s₁.toks + 1 } ⟨q₁.1,q₁.2⟩ hD (frBut1 (F₁.set hn₂ hs₂) hs₃ c1 c2) (ownBut1 (O₁.setL hs₂) hs₃ c3 c4) hJ
end
structure MidR (J : (Str → Option Value) → Sg → Prop) (Q : Flow → Shared → Prop) (ι : Sd) (g : Heap) (L : Addr) (s : Shared) (f : Flow) (s' : Shared) : Prop where
 ex : (f = .next ∧ ∃ m' σ',Same s s' ∧ Fr g L s'.heap m' ∧ Own ι g L s'.heap σ' ∧ J m' σ') ∨ (f ≠ .next ∧ Q f s')
theorem MidR.mk' {J : (Str → Option Value) → Sg → Prop} {Q : Flow → Shared → Prop} {ι : Sd} {g : Heap} {L : Addr} {s s' : Shared} {m' : Str → Option Value} {σ' : Sg} (q : Same s s') (F : Fr g L s'.heap m') (O : Own ι g L s'.heap σ') (h : J m' σ') : MidR J Q ι g L s .next s':=⟨.inl ⟨rfl,_,_,q,F,O,h⟩⟩
theorem MidR.ret {J : (Str → Option Value) → Sg → Prop} {Q : Flow → Shared → Prop} {ι : Sd} {g : Heap} {L : Addr} {s s' : Shared} {v : Value} (h : Q (.ret v) s') : MidR J Q ι g L s (.ret v) s':=⟨.inr ⟨by simp,h⟩⟩
theorem cutR {prog : Program} {w : World} {A : Around} {E : Value → Shared → Prop} {s : Shared} {env : Env} {st : Stmt} {rest : List Stmt} {Q : Flow → Shared → Prop} {ι : Sd} {g : Heap} {L : Addr} (J : (Str → Option Value) → Sg → Prop)
  (h : wpAny (model prog w) A (exec st env) (MidR J Q ι g L s) E s)
  (k : ∀ m' σ' s',Same s s' → Fr g L s'.heap m' → Own ι g L s'.heap σ' → J m' σ' → wpAny (model prog w) A (execs rest env) Q E s') :
  wpAny (model prog w) A (execs (st :: rest) env) Q E s:=by
 refine wpAny_execs_cons (wpAny_mono h (fun f s' h => ?_) fun _ _ e => e)
 obtain ⟨⟨rfl,m',σ',q,F,O,hJ⟩ | ⟨hne,hq⟩⟩:=h
 ·exact k m' σ' s' q F O hJ
 cases f with
 | next => exact absurd rfl hne
 | cont => exact hq
 | brk => exact hq
 | ret v => exact hq
section
variable {prog : Program} {w : World} {A : Around} {E : Value → Shared → Prop} {s : Shared} {ι : Sd} {h₀ : Heap} {L : Addr} {σ : Sg} {m : Str → Option Value} {la : Addr} {vs : List Value}
theorem blist (F : Fr h₀ L s.heap m) (hl : h₀.IsList la vs.toArray) : s.heap.IsList la vs.toArray:=by
 refine xe12 hl fun o h1 h2 => ?_
 try clear hl
 exact ⟨o,F.keep _ _ h1,h2⟩
theorem btruthy (F : Fr h₀ L s.heap m) (O : Own ι h₀ L s.heap σ) (hl : h₀.IsList la vs.toArray) (hz : vs.length ≤ 100000) {Q : Bool → Shared → Prop} (h : ∀ s',Same s s' → Fr h₀ L s'.heap m → Own ι h₀ L s'.heap σ → Q (!vs.isEmpty) s') : wpAny (model prog w) A (truthy (.ref la)) Q E s:=by
 refine wpAny_truthy_list (items:=vs.toArray) (blist F hl) (by simp only [List.size_toArray];lia) ?_
 have : (!vs.toArray.isEmpty) = !vs.isEmpty:=by simp
 first
  | (rw [this];exact h _ ⟨rfl,rfl⟩ F O)
  | exact h _ ⟨rfl,rfl⟩ F O
theorem blen (F : Fr h₀ L s.heap m) (O : Own ι h₀ L s.heap σ) (hl : h₀.IsList la vs.toArray) (hz : vs.length ≤ 100000) {Q : Value → Shared → Prop} (h : ∀ s' t,Same s s' → Fr h₀ L s'.heap m → Own ι h₀ L s'.heap σ → Q (.int vs.length t) s') : wpAny (model prog w) A (call (.builtin "len") [.ref la]) Q E s:=by
 refine call_len_list (items:=vs.toArray) (blist F hl) (by simp only [List.size_toArray];lia) ?_
 exact h _ _ ⟨rfl,rfl⟩ F O
theorem bsub {u : Tok} {i : Nat} {v : Value} {x : Int} {value slice : Expr} {Q : Value → Shared → Prop} (F : Fr h₀ L s.heap m) (O : Own ι h₀ L s.heap σ) (hl : h₀.IsList la vs.toArray) (hv : vs[i]? = some v) (hx : x = (i : Nat)) (hz : vs.length ≤ 100000)
  (h : ∀ s',Same s s' → Fr h₀ L s'.heap m → Own ι h₀ L s'.heap σ → Q v s') (hs : subscripted slice false (.ref la) (.int x u) = operate [.ref la,.int x u] (getItem (.ref la) (.int x u)):=by with_unfolding_all rfl) :
  wpAny (model prog w) A (subscriptTail value slice (.ref la) (.int x u)) Q E s:=by
 have hi : i < vs.length:=(List.getElem?_eq_some_iff.mp hv).1
 subst hx
 refine subscriptTail_builtinR (blist F hl).typeIs PySem.F.slot_list_getitem.lookup (wpAny_getItem_list (x:=v) (blist F hl) (by lia) (by lia) (by simpa using hv) ⟨rfl,h _ ⟨rfl,rfl⟩ F O⟩) hs
theorem pick28 (vs : List Value) : ∃ zs : List Value,slicePick vs.toArray (some 2) (some 8) none = zs.toArray ∧ zs.length ≤ 6 ∧ ∀ v ∈ zs,v ∈ vs:=by
 refine ⟨_,slicePick_plain vs.toArray (some 2) (some 8),?_,fun v hv => ?_⟩
 ·have e2 : clipAt vs.toArray.size ((2 : Nat) : Int) = min 2 vs.length:=by rw [clipAt_nat];simp
  have e8 : clipAt vs.toArray.size ((8 : Nat) : Int) = min 8 vs.length:=by rw [clipAt_nat];simp
  simp only [Option.elim,List.length_take,List.length_drop]
  have e2' : clipAt vs.toArray.size (2 : Int) = min 2 vs.length:=e2
  have e8' : clipAt vs.toArray.size (8 : Int) = min 8 vs.length:=e8
  rw [e2',e8']
  exact Nat.le_trans (Nat.min_le_left _ _) xs103
 have:=List.mem_of_mem_drop (List.mem_of_mem_take hv)
 simpa using this
theorem bslice {value slice : Expr} {t1 t2 : Tok} {Q : Value → Shared → Prop} (F : Fr h₀ L s.heap m) (O : Own ι h₀ L s.heap σ) (hl : h₀.IsList la vs.toArray) (hz : vs.length ≤ 1000)
  (h : ∀ s' D (zs : List Value),σ D = none → Same s s' → Fr h₀ L s'.heap m → Own ι h₀ L s'.heap (upd σ D (listOf zs.toArray 0)) → zs.length ≤ 6 → (∀ v ∈ zs,v ∈ vs) → Q (.ref D) s')
  (hs : subscripted slice false (.ref la) (.ref s.heap.objs.size) = operate [.ref s.heap.objs.size,.ref la] (getItem (.ref la) (.ref s.heap.objs.size)):=by with_unfolding_all rfl)
  (ht : ∀ r,letTemporaryGo value (.ref la) r = pure ():=by intro _;with_unfolding_all rfl) :
  wpAny (model prog w) A (subscriptTail value slice (.ref la) (.ref s.heap.objs.size)) Q E { s with heap:=s.heap.push { cls:=.type "slice",data:=.fields #[.int 2 t1,.int 8 t2,.none] } }:=by
 refine slice_list F (O.news s.heap.objs.size) (blist F hl) (.int _ _) (.int _ _) (fun h' F' N' => ?_) hs ht (by rw [sizeLine_eq];simp;lia)
 refine xe13 (pick28 vs) fun zs e hz1 hz2 => ?_
 rw [e] at N'
 obtain ⟨hn,O'⟩:=own_new O N' fun p hp => by
  rcases List.mem_append.mp hp with q | q
  ·exact Nat.lt_succ_of_lt (mem_toL.mp q).1
  exact Nat.lt_succ_of_lt (Heap.lt_size (O.side p q).1)
 exact h { s with heap:=h' } _ zs hn ⟨rfl,rfl⟩ F' O' hz1 hz2
theorem znewListG {vs : List Value} (F : Fr h₀ L s.heap m) (O : Own ι h₀ L s.heap σ) (hz : vs.length ≤ 100000) {Q : Value → Shared → Prop} (h : ∀ s' l σ',Ext σ σ' → σ' l = some (listOf vs.toArray 0) → Same s s' → Fr h₀ L s'.heap m → Own ι h₀ L s'.heap σ' → Q (.ref l) s') : wpAny (model prog w) A (newList vs) Q E s :=
 znewList F O hz fun s' l hl q F' O' => h s' l _ (Ext.upd hl) (upd_self ..) q F' O'
structure Ev (P : Value → Prop) (ι : Sd) (g : Heap) (L : Addr) (m : Str → Option Value) (σ : Sg) (s : Shared) (v : Value) (s' : Shared) : Prop where
 q : Same s s'
 F : Fr g L s'.heap m
 O : Own ι g L s'.heap σ
 p : P v
theorem evCut {x : Sem Value} {Q : Value → Shared → Prop} {g : Heap} (P : Value → Prop) (h : wpAny (model prog w) A x (Ev P ι g L m σ s) E s) (k : ∀ v s',Same s s' → Fr g L s'.heap m → Own ι g L s'.heap σ → P v → Q v s') : wpAny (model prog w) A x Q E s :=
 wpAny_mono h (fun v s' e => k v s' e.q e.F e.O e.p) fun _ _ e => e
end
example : (∀ w : World,pre.heap_1 w.params = pre.heap_1 w.params) → PySem.Challenge.rw_iu0052_01.Holds → True:=by
 k_fill;intros;trivial
noncomputable def rowAux (tm : List Nat) (xs : List Int) (c : Nat) : Nat → List Int
 | 0 => [xs.getD 0 0 + 1]
 | i + 1 => rowAux tm xs c i ++ [min (min ((rowAux tm xs c i).getD i 0 + 1) (xs.getD (i + 1) 0 + 1)) (xs.getD i 0 + if tm.getD i 0 = c then 0 else 1)]
theorem rowAux_len (tm : List Nat) (xs : List Int) (c : Nat) : ∀ i,(rowAux tm xs c i).length = i + 1
 | 0 => rfl
 | i + 1 => by
  show (rowAux tm xs c i ++ [_]).length = _
  rw [List.length_append,rowAux_len tm xs c i];rfl
noncomputable def rowStep (tm : List Nat) (xs : List Int) (c : Nat) : List Int:=rowAux tm xs c tm.length
structure LrJ (σ0 : Sg) (la : Addr) (t1 t2 : Tok) (tm : List Nat) (xs : List Int) (c : Nat) (lb : Addr) (i : Nat) (m : Str → Option Value) (σ : Sg) : Prop where
 m1 : m (Str.ofString "row") = some (.ref la)
 m2 : m (Str.ofString "sign") = some (.str (ch c) t1)
 m3 : m (Str.ofString "term") = some (.str (sw tm) t2)
 m4 : m (Str.ofString "new") = some (.ref lb)
 e : Ext σ0 σ
 lst : ∃ vs n,σ lb = some (listOf vs.toArray n) ∧ All2 isI (rowAux tm xs c i) vs
theorem lawRow (w : World) (σ : Sg) (la : Addr) (vs : List Value) (n : Nat) (xs : List Int) (tm : List Nat) (c : Nat) (t1 t2 : Tok) (hla : σ la = some (listOf vs.toArray n)) (hvs : All2 isI xs vs) (hlen : xs.length = tm.length + 1) (htm : tm.length ≤ 10) :
  Spec w 358 3 [.ref la,.str (ch c) t1,.str (sw tm) t2] [] σ (fun v σ' => Ext σ σ' ∧ ∃ lb vs n,v = .ref lb ∧ σ lb = none ∧ σ' lb = some (listOf vs.toArray n) ∧ All2 isI (rowStep tm xs c) vs):=by
 refine' spec_of (binds:=[(Str.ofString "row",.ref la),(Str.ofString "sign",.str (ch c) t1),(Str.ofString "term",.str (sw tm) t2)]) ?ho ?hcd ?hb ?hl ?c1 ?c2 ?c3 ?c4 ?_;((case ho => k_is);(case hcd => k_is);(case hb => (first | (intro _ _;exact BindsTo.of_eq rfl) | (intro _ Xh;exact binds_K Xh rfl (by k_is) rfl rfl rfl)));(case hl => exact locs rfl);(case c1 => exact rfl);(case c2 => exact rfl);(case c3 => exact rfl);(case c4 => decide))
 intro A g L ι s C F O env R;have X:=C.X;refine xe31 C.T fun mean mg mb T => ?_;have S0:=Same.refl s
 have hvl:=hvs.length
 have get : ∀ i,i < xs.length → ∃ t,vs[i]? = some (.int (xs.getD i 0) t):=fun i hi => by
  have hi' : i < vs.length:=by exact xs94f ‹_› ‹_›
  refine xe12 (hvs.get2 (i:=i) (List.getElem?_eq_getElem hi')) fun k h1 zq81 => ?_
  refine xe11 zq81 fun t h2 => ?_
  try clear zq81
  refine ⟨t,?_⟩
  rw [List.getElem?_eq_getElem hi',h2,List.getD_eq_getElem?_getD,h1];rfl
 refine xe11 (get 0 (by exact xs4 ‹_›)) fun t0 hv0 => ?_
 refine xH ?_;intro _ _
 iterate 5 walk1
 first | refine xN ?_ | walk1
 walk1
 refine lsub ‹_› ‹_› hla hv0 rfl (by lia) fun s₁ q₁ F₁ O₁ => ?_
 have qq₁:=Same.trans ‹_› q₁
 iterate 3 walk1
 refine znewList ‹_› ‹_› (by simp) fun s₂ lb hlb q₂ F₂ O₂ => ?_
 have qq₂:=Same.trans ‹_› q₂
 refine xS ?_;intros
 rename_i sB FB OB qB
 have SB:=Same.refl sB
 refine cut (ι:=ι) (g:=g) (L:=L) (LrJ σ la t1 t2 tm xs c lb tm.length) ?_ fun m₃ σ₃ s₃ q₃ F₃ O₃ J₃ => ?_
 ·refine wpAny_For ?_
  walk1
  first | refine xN ?_ | walk1
  iterate 3 walk1
  first | refine xN ?_ | walk1
  iterate 2 walk1
  first | refine xN ?_ | walk1
  walk1
  refine slen ‹_› ‹_› (by lia) fun s₄ t4 q₄ F₄ O₄ => ?_
  have qq₄:=Same.trans ‹_› q₄
  walk1
  refine srange1 ‹_› ‹_› fun s₅ r u1 u2 u3 q₅ F₅ O₅ hr => ?_
  have qq₅:=Same.trans ‹_› q₅
  refine forRange (n:=tm.length) (fun i m σ' => LrJ σ la t1 t2 tm xs c lb i m σ') C.hh F₅ O₅ hr (by rw [rangeSize_one];split <;> (first | exact xs69 ‹_› | exact xs70 ‹_› | lia)) (small_one (by lia) (by lia) (by lia) (by lia)) ⟨rfl,rfl,rfl,rfl,Ext.upd hlb,_,_,upd_self ..,.cons ⟨_,rfl⟩ .nil⟩ (fun i ti m₆ σ₆ s₆ ι' back q₆ hi J F₆ O₆ => ?_) fun m₆ σ₆ s₆ q₆ F₆ O₆ J => ?_
  ·clear q₆
   refine holdP ?_;intro G;rcases J with ⟨m1,m2,m3,m4,e6,ws,nw,hlw,hws⟩;unfold G;clear G
   have S6:=Same.refl s₆
   have hwl:=hws.length
   rw [rowAux_len] at hwl
   refine xH ?_;intro _ _
   iterate 2 walk1
   first | refine xN ?_ | walk1
   refine lmeth ‹_› hlw PySem.F.slot_list_append PySem.F.type_list_append ?_
   iterate 3 walk1
   first | refine xN ?_ | walk1
   iterate 6 walk1
   first | refine xN ?_ | walk1
   first | refine xN ?_ | walk1
   have getw : ∀ j,j < i + 1 → ∃ t,ws[j]? = some (.int ((rowAux tm xs c i).getD j 0) t):=fun j hj => by
    have hj' : j < ws.length:=by exact xs94f ‹_› ‹_›
    refine xe12 (hws.get2 (i:=j) (List.getElem?_eq_getElem hj')) fun k h1 zq82 => ?_
    refine xe11 zq82 fun t h2 => ?_
    try clear zq82
    refine ⟨t,?_⟩
    rw [List.getElem?_eq_getElem hj',h2,List.getD_eq_getElem?_getD,h1];rfl
   refine xe11 (getw i (by exact xs43)) fun tw hw => ?_
   refine xe11 (get (i + 1) (by lia)) fun tv1 hv1 => ?_
   refine xe11 (get i (by lia)) fun tv2 hv2 => ?_
   have hla6:=e6 _ _ hla
   refine lsub ‹_› ‹_› hlw hw (by lia) (by lia) fun s₇ q₇ F₇ O₇ => ?_
   have qq₇:=Same.trans ‹_› q₇
   iterate 5 walk1
   first | refine xN ?_ | walk1
   walk1
   first | refine xN ?_ | walk1
   iterate 2 walk1
   refine lsub ‹_› ‹_› hla6 hv1 (by lia) (by lia) fun s₇ q₇ F₇ O₇ => ?_
   have qq₇:=Same.trans ‹_› q₇
   iterate 5 walk1
   first | refine xN ?_ | walk1
   first | refine xN ?_ | walk1
   refine lsub ‹_› ‹_› hla6 hv2 (by lia) (by lia) fun s₇ q₇ F₇ O₇ => ?_
   have qq₇:=Same.trans ‹_› q₇
   iterate 3 walk1
   first | refine xN ?_ | walk1
   first | refine xN ?_ | walk1
   refine ssub (c:=tm.getD i 0) (i:=i) ‹_› ‹_› (by rw [List.getD_eq_getElem?_getD,List.getElem?_eq_getElem hi];rfl) (by lia) (by lia) fun s₈ tc q₈ F₈ O₈ => ?_
   have qq₈:=Same.trans ‹_› q₈
   first | refine xN ?_ | walk1
   iterate 3 walk1
   ·rename_i hcc
    have hcost : (if tm.getD i 0 = c then (0 : Int) else 1) = 0:=by
     exact if_pos (List.cons.inj (congrArg (fun s : Str => s.cps.toList) (eq_of_beq hcc))).1
    iterate 3 walk1
    refine znewList ‹_› ‹_› (by simp) fun s₉ lm hlm q₉ F₉ O₉ => ?_
    have qq₉:=Same.trans ‹_› q₉
    walk1
    refine smin (ns:=[(rowAux tm xs c i).getD i 0 + 1,xs.getD (i + 1) 0 + 1,xs.getD i 0 + 0]) C.hh ‹_› ‹_› (upd_self ..) (.cons ⟨_,rfl⟩ (.cons ⟨_,rfl⟩ (.cons ⟨_,rfl⟩ .nil))) (by simp) fun s₁₀ Mn tM q₁₀ F₁₀ O₁₀ hM1 hM2 => ?_
    have qq₁₀:=Same.trans ‹_› q₁₀
    have hMn : Mn = min (min ((rowAux tm xs c i).getD i 0 + 1) (xs.getD (i + 1) 0 + 1)) (xs.getD i 0 + 0):=by
     have a1:=hM2 _ (.head _)
     have a2:=hM2 _ (.tail _ (.head _))
     have a3:=hM2 _ (.tail _ (.tail _ (.head _)))
     simp only [List.mem_cons,List.not_mem_nil,or_false] at hM1
     exact eq_min3 a1 a2 a3 hM1
    walk1
    refine lappend ‹_› ‹_› ((Ext.upd hlm) _ _ hlw) (by lia) fun s₁₁ n₁₁ q₁₁ F₁₁ O₁₁ => ?_
    have qq₁₁:=Same.trans ‹_› q₁₁
    walk1
    refine Turn.mk' qq₁₁ F₁₁ O₁₁ ⟨m1,m2,m3,m4,(e6.trans (Ext.upd hlm)).upd' hlb,_,_,upd_self ..,?_⟩
    refine hws.append (.cons ⟨tM,?_⟩ .nil)
    rw [hMn,hcost]
   rename_i hcc
   have hcost : (if tm.getD i 0 = c then (0 : Int) else 1) = 1:=by
    rw [if_neg];intro hz;rw [hz] at hcc;simp at hcc
   iterate 3 walk1
   refine znewList ‹_› ‹_› (by simp) fun s₉ lm hlm q₉ F₉ O₉ => ?_
   have qq₉:=Same.trans ‹_› q₉
   walk1
   refine smin (ns:=[(rowAux tm xs c i).getD i 0 + 1,xs.getD (i + 1) 0 + 1,xs.getD i 0 + 1]) C.hh ‹_› ‹_› (upd_self ..) (.cons ⟨_,rfl⟩ (.cons ⟨_,rfl⟩ (.cons ⟨_,rfl⟩ .nil))) (by simp) fun s₁₀ Mn tM q₁₀ F₁₀ O₁₀ hM1 hM2 => ?_
   have qq₁₀:=Same.trans ‹_› q₁₀
   have hMn : Mn = min (min ((rowAux tm xs c i).getD i 0 + 1) (xs.getD (i + 1) 0 + 1)) (xs.getD i 0 + 1):=by
    have a1:=hM2 _ (.head _)
    have a2:=hM2 _ (.tail _ (.head _))
    have a3:=hM2 _ (.tail _ (.tail _ (.head _)))
    simp only [List.mem_cons,List.not_mem_nil,or_false] at hM1
    exact eq_min3 a1 a2 a3 hM1
   walk1
   refine lappend ‹_› ‹_› ((Ext.upd hlm) _ _ hlw) (by lia) fun s₁₁ n₁₁ q₁₁ F₁₁ O₁₁ => ?_
   have qq₁₁:=Same.trans ‹_› q₁₁
   walk1
   refine Turn.mk' qq₁₁ F₁₁ O₁₁ ⟨m1,m2,m3,m4,(e6.trans (Ext.upd hlm)).upd' hlb,_,_,upd_self ..,?_⟩
   refine hws.append (.cons ⟨tM,?_⟩ .nil)
   rw [hMn,hcost]
  walk1
  exact Mid.mk' (Same.trans ‹_› q₆) F₆ O₆ J
 refine holdP ?_;intro G;rcases J₃ with ⟨m1,m2,m3,m4,e3,ws,nw,hlw,hws⟩;unfold G;clear G
 have qq₃:=Same.trans qB q₃
 refine xH ?_;intro _ _
 walk1
 first | refine xN ?_ | walk1
 exact Ends.mk' qq₃ F₃ O₃ ⟨e3,lb,ws,nw,rfl,hlb,hlw,hws⟩
inductive ResG {S : Type} (nx : S → Nat → Option S) (fin : S → Prop) : List (List Nat × S × Nat) → Option (List Nat) → Prop
 | nil : ResG nx fin [] none
 | skip {w q b es r} : (∀ n,b ≤ n → nx q n = none) → ResG nx fin es r → ResG nx fin ((w,q,b) :: es) r
 | hit {w q b es n q'} : b ≤ n → nx q n = some q' → (∀ j,b ≤ j → j < n → nx q j = none) → fin q' → ResG nx fin ((w,q,b) :: es) (some (w ++ [n]))
 | push {w q b es n q' r} : b ≤ n → nx q n = some q' → (∀ j,b ≤ j → j < n → nx q j = none) → ¬ fin q' → ResG nx fin ((w ++ [n],q',0) :: es) r → ResG nx fin ((w,q,b) :: es) r
noncomputable def row0 (n : Nat) : List Int:=(List.range (n + 1)).map fun (j : Nat) => (j : Int)
noncomputable def rowOf (tm u : List Nat) : List Int:=u.foldl (rowStep tm) (row0 tm.length)
theorem rowOf_snoc (tm u : List Nat) (c : Nat) : rowOf tm (u ++ [c]) = rowStep tm (rowOf tm u) c:=by simp [rowOf]
theorem rowStep_len (tm : List Nat) (xs : List Int) (c : Nat) : (rowStep tm xs c).length = tm.length + 1:=rowAux_len tm xs c _
theorem rowOf_len (tm : List Nat) (u : List Nat) : (rowOf tm u).length = tm.length + 1:=by
 rcases List.eq_nil_or_concat u with rfl | ⟨u',c,rfl⟩
 ·simp [rowOf,row0]
 rw [List.concat_eq_append,rowOf_snoc];exact rowStep_len ..
noncomputable def fits (k : Nat) (row : List Int) : Bool:=row.any fun x => decide (x ≤ (k : Int))
noncomputable def rnx (tm : List Nat) (k : Nat) (row : List Int) (n : Nat) : Option (List Int):=if fits k (rowStep tm row n) = true then some (rowStep tm row n) else none
noncomputable def rfin (k : Nat) (row : List Int) : Prop:=row.getLastD 0 ≤ (k : Int)
theorem rnx_none {tm : List Nat} {k : Nat} {row : List Int} {n : Nat} : rnx tm k row n = none ↔ fits k (rowStep tm row n) = false:=by
 unfold rnx
 cases h : fits k (rowStep tm row n) <;> simp
theorem fits_iff {k : Nat} {row : List Int} : fits k row = true ↔ ∃ x ∈ row,x ≤ (k : Int):=by simp [fits]
theorem aux_get (tm : List Nat) (xs : List Int) (c : Nat) : ∀ i j,j ≤ i → (rowAux tm xs c i).getD j 0 = (rowAux tm xs c j).getD j 0
 | 0,j,h => by
  have : j = 0:=by exact xs33 ‹_›
  subst this;rfl
 | i + 1,j,h => by
  by_cases hj : j = i + 1
  ·subst hj;rfl
  rw [← aux_get tm xs c i j (by lia)]
  show (rowAux tm xs c i ++ _).getD j 0 = _
  rw [List.getD_eq_getElem?_getD,List.getElem?_append_left (by rw [rowAux_len];exact xs46 ‹_› ‹_›),← List.getD_eq_getElem?_getD]
theorem aux_top (tm : List Nat) (xs : List Int) (c i : Nat) : (rowAux tm xs c (i + 1)).getD (i + 1) 0 = min (min ((rowAux tm xs c i).getD i 0 + 1) (xs.getD (i + 1) 0 + 1)) (xs.getD i 0 + if tm.getD i 0 = c then 0 else 1):=by
 show (rowAux tm xs c i ++ _).getD (i + 1) 0 = _
 rw [List.getD_eq_getElem?_getD,List.getElem?_append_right (by rw [rowAux_len];exact Nat.le_refl _),rowAux_len]
 simp
theorem step_zero (tm : List Nat) (xs : List Int) (c : Nat) : (rowStep tm xs c).getD 0 0 = xs.getD 0 0 + 1:=by
 unfold rowStep
 rw [aux_get _ _ _ _ 0 (Nat.zero_le _)];rfl
theorem step_succ (tm : List Nat) (xs : List Int) (c i : Nat) (h : i < tm.length) : (rowStep tm xs c).getD (i + 1) 0 = min (min ((rowStep tm xs c).getD i 0 + 1) (xs.getD (i + 1) 0 + 1)) (xs.getD i 0 + if tm.getD i 0 = c then 0 else 1):=by
 unfold rowStep
 rw [aux_get _ _ _ _ (i + 1) ‹_›,aux_top,aux_get _ _ _ tm.length i (by exact xs88 ‹_›)]
theorem step_ge {tm : List Nat} {xs : List Int} {m : Int} (c : Nat) (h : ∀ i,i ≤ tm.length → m ≤ xs.getD i 0 + i) : ∀ i,i ≤ tm.length → m + 1 ≤ (rowStep tm xs c).getD i 0 + i
 | 0,_ => by
  have:=h 0 (Nat.zero_le _)
  rw [step_zero];lia
 | i + 1,hi => by
  have h1:=step_ge c h i (by exact xs88 ‹_›)
  have h2:=h (i + 1) hi
  have h3:=h i (by exact xs88 ‹_›)
  rw [step_succ _ _ _ _ ‹_›]
  have : m + 1 - ((i + 1 : Nat) : Int) ≤ min (min ((rowStep tm xs c).getD i 0 + 1) (xs.getD (i + 1) 0 + 1)) (xs.getD i 0 + if tm.getD i 0 = c then 0 else 1):=le_min3 (by lia) (by lia) (by split <;> lia)
  lia
theorem row_ge (tm : List Nat) (u : List Nat) : ∀ i,i ≤ tm.length → (u.length : Int) ≤ (rowOf tm u).getD i 0 + i:=by
 rcases List.eq_nil_or_concat u with rfl | ⟨u',c,rfl⟩
 ·intro i hi
  show ((0 : Nat) : Int) ≤ (row0 tm.length).getD i 0 + i
  unfold row0
  rw [List.getD_eq_getElem?_getD,List.getElem?_map,List.getElem?_range (by exact xs91 ‹_›)]
  simp
  lia
 rw [List.concat_eq_append,rowOf_snoc]
 have ih:=row_ge tm u'
 intro i hi
 have:=step_ge c ih i hi
 simp only [List.length_append,List.length_cons,List.length_nil]
 push_cast
 assumption
termination_by u.length
decreasing_by all_goals (simp_all [List.concat_eq_append])
theorem fits_len {tm : List Nat} {k : Nat} {u : List Nat} (h : fits k (rowOf tm u) = true) : u.length ≤ tm.length + k:=by
 refine xe12 (fits_iff.mp h) fun x hx hk => ?_
 refine xe11 (List.mem_iff_getElem?.mp hx) fun i hi => ?_
 have hil:=(List.getElem?_eq_some_iff.mp hi).1
 rw [rowOf_len] at hil
 have:=row_ge tm u i (by exact xs15 ‹_›)
 rw [List.getD_eq_getElem?_getD,hi] at this
 simp at this
 lia
theorem step_dom {tm : List Nat} (xs : List Int) (b n : Nat) (hn : n ∉ tm) : ∀ i,i ≤ tm.length → (rowStep tm xs b).getD i 0 ≤ (rowStep tm xs n).getD i 0
 | 0,_ => by rw [step_zero,step_zero];exact Int.le_refl _
 | i + 1,hi => by
  have ih:=step_dom xs b n hn i (by exact xs88 ‹_›)
  rw [step_succ _ _ _ _ ‹_›,step_succ _ _ _ _ ‹_›]
  have hne : tm.getD i 0 ≠ n:=fun z => hn (by
   rw [← z,List.getD_eq_getElem?_getD,List.getElem?_eq_getElem ‹_›]
   exact List.getElem_mem _)
  exact min3_mono (Int.add_le_add_right ih 1) (Int.le_refl _) (by split <;> lia)
theorem fits_dom {tm : List Nat} {k : Nat} {xs : List Int} {b n : Nat} (hn : n ∉ tm) (h : fits k (rowStep tm xs n) = true) : fits k (rowStep tm xs b) = true:=by
 refine xe12 (fits_iff.mp h) fun x hx hk => ?_
 refine xe11 (List.mem_iff_getElem?.mp hx) fun i hi => ?_
 have hil:=(List.getElem?_eq_some_iff.mp hi).1
 rw [rowStep_len] at hil
 have h1:=step_dom (tm:=tm) xs b n hn i (by exact xs15 ‹_›)
 rw [List.getD_eq_getElem?_getD,List.getD_eq_getElem?_getD,hi] at h1
 have hil2 : i < (rowStep tm xs b).length:=by rw [rowStep_len];assumption
 rw [List.getElem?_eq_getElem hil2] at h1
 exact fits_iff.mpr ⟨_,List.getElem_mem hil2,by simp at h1;lia⟩
theorem first_fit {tm : List Nat} {k : Nat} {xs : List Int} {b : Nat} {cs : List Nat} (hcs : ∀ c,c ∈ cs ↔ c ∈ tm ∧ b < c) (hsrt : cs.Pairwise (· ≤ ·)) :
  ((b :: cs).filter (fun c => fits k (rowStep tm xs c)) = [] → ∀ n,b ≤ n → rnx tm k xs n = none) ∧
  ∀ c r,(b :: cs).filter (fun c => fits k (rowStep tm xs c)) = c :: r → b ≤ c ∧ rnx tm k xs c = some (rowStep tm xs c) ∧ ∀ j,b ≤ j → j < c → rnx tm k xs j = none:=by
 have hin : ∀ n,b ≤ n → fits k (rowStep tm xs n) = true → fits k (rowStep tm xs b) = true ∨ n ∈ cs:=fun n hn hf => by
  by_cases hnb : n = b
  ·subst hnb;exact .inl hf
  by_cases hm : n ∈ tm
  ·exact .inr ((hcs n).mpr ⟨hm,by lia⟩)
  exact .inl (fits_dom hm hf)
 refine ⟨fun h n hn => ?_,fun c r h => ?_⟩
 ·rw [rnx_none]
  cases hf : fits k (rowStep tm xs n) with
  | false => rfl
  | true =>
   have hno:=List.filter_eq_nil_iff.mp h
   rcases hin n hn hf with h1 | h1
   ·exact absurd h1 (hno b (.head _))
   exact absurd hf (hno n (.tail _ h1))
 have hsorted : (b :: cs).Pairwise (· ≤ ·):=List.pairwise_cons.mpr ⟨fun c hc => Nat.le_of_lt ((hcs c).mp hc).2,hsrt⟩
 have hc : c ∈ (b :: cs).filter (fun c => fits k (rowStep tm xs c)):=by rw [h];exact .head _
 refine xe02 (List.mem_filter.mp hc) fun hc1 hc2 => ?_
 have hbc : b ≤ c:=by
  rcases List.mem_cons.mp hc1 with rfl | h1
  ·exact Nat.le_refl _
  exact Nat.le_of_lt ((hcs c).mp h1).2
 refine ⟨hbc,by unfold rnx;rw [if_pos hc2],fun j hj hjc => ?_⟩
 rw [rnx_none]
 cases hf : fits k (rowStep tm xs j) with
 | false => rfl
 | true =>
  have hmin : ∀ y ∈ (b :: cs).filter (fun c => fits k (rowStep tm xs c)),c ≤ y:=fun y hy => by
   have hp:=hsorted.filter (fun c => fits k (rowStep tm xs c))
   rw [h] at hp hy
   rcases List.mem_cons.mp hy with rfl | h1
   ·exact Nat.le_refl _
   exact (List.pairwise_cons.mp hp).1 y h1
  rcases hin j hj hf with h1 | h1
  ·have:=hmin b (List.mem_filter.mpr ⟨.head _,h1⟩);lia
  have:=hmin j (List.mem_filter.mpr ⟨.tail _ h1,hf⟩);lia
noncomputable def ent (tm u : List Nat) (size : Nat) : List Nat × List Int × Nat:=(u.take size,rowOf tm (u.take size),if size < u.length then u.getD size 0 + 1 else 0)
noncomputable def rest (tm u : List Nat) (j : Nat) : List (List Nat × List Int × Nat):=(List.range j).reverse.map (ent tm u)
theorem rest_succ (tm u : List Nat) (j : Nat) : rest tm u (j + 1) = ent tm u j :: rest tm u j:=by simp [rest,List.range_succ]
noncomputable def LL (tm : List Nat) (k : Nat) (u : List Nat) (r : Option (List Nat)) : Prop :=
 (rfin k (rowOf tm u) ∧ r = some u) ∨ (¬ rfin k (rowOf tm u) ∧ ResG (rnx tm k) (rfin k) (rest tm u (u.length + 1)) r)
noncomputable def rowAt (R : Addr) (σ : Sg) (xs : List Int) (v : Value) : Prop:=∃ a ws n,v = .ref a ∧ a ≠ R ∧ σ a = some (listOf ws.toArray n) ∧ All2 isI xs ws
theorem rowAt.move {R : Addr} {σ σ' : Sg} {xs : List Int} {v : Value} (h : rowAt R σ xs v) (k : ∀ a ws n,a ≠ R → σ a = some (listOf ws n) → σ' a = some (listOf ws n)) : rowAt R σ' xs v :=
 xe34 (h) fun a ws n h1 h2 h3 h4 => ⟨a,ws,n,h1,h2,k _ _ _ h2 h3,h4⟩
noncomputable def rowsL (tm u : List Nat) (i : Nat) : List (List Int):=(List.range (i + 1)).map fun j => rowOf tm (u.take j)
structure LsC (L R : Addr) (tm : List Nat) (k : Nat) (t1 t2 : Tok) (rws : List (List Int)) (σ : Sg) : Prop where
 ck : IsC σ (L + 2) (.int k t2)
 ct : IsC σ (L + 1) (.str (sw tm) t1)
 cr : ∃ o v,σ (L + 3) = some o ∧ o.data = .cell v
 cl : ∃ o v,σ (L + 4) = some o ∧ o.data = .cell v
 rows : ∃ vs n,σ R = some (listOf vs.toArray n) ∧ All2 (rowAt R σ) rws vs
theorem LsC.ext {L R : Addr} {tm : List Nat} {k : Nat} {t1 t2 : Tok} {rws : List (List Int)} {σ σ' : Sg} (h : LsC L R tm k t1 t2 rws σ) (e : Ext σ σ') : LsC L R tm k t1 t2 rws σ' :=
 ⟨h.ck.move fun o => e _ _,h.ct.move fun o => e _ _,let ⟨o,v,h1,h2⟩:=h.cr;⟨o,v,e _ _ h1,h2⟩,let ⟨o,v,h1,h2⟩:=h.cl;⟨o,v,e _ _ h1,h2⟩,let ⟨vs,n,h1,h2⟩:=h.rows;⟨vs,n,e _ _ h1,h2.imp fun _ _ r => r.move fun a ws n _ => e _ _⟩⟩
theorem LsC.push {L R : Addr} {tm : List Nat} {k : Nat} {t1 t2 : Tok} {rws : List (List Int)} {σ : Sg} (h : LsC L R tm k t1 t2 rws σ) {vs : List Value} {n n' : Nat} (hR : σ R = some (listOf vs.toArray n)) {xs : List Int} {v : Value} (hall : All2 (rowAt R σ) rws vs) (hv : rowAt R σ xs v) :
  LsC L R tm k t1 t2 (rws ++ [xs]) (upd σ R (listOf (vs ++ [v]).toArray n')):=by
 have ne : ∀ {c : Addr} {o : Obj} {x : Option Value},σ c = some o → o.data = .cell x → c ≠ R:=fun {c o x} h1 h2 z => by
  rw [z,hR] at h1;cases h1;cases h2
 have kp : ∀ {c : Addr} {o : Obj},c ≠ R → σ c = some o → upd σ R (listOf (vs ++ [v]).toArray n') c = some o:=fun {c o} h e => by rw [upd_ne h];exact e
 refine ⟨?_,?_,?_,?_,⟨_,_,upd_self ..,?_⟩⟩
 ·refine xe12 h.ck fun o h1 h2 => ?_
  exact ⟨o,kp (ne h1 h2) h1,h2⟩
 ·refine xe12 h.ct fun o h1 h2 => ?_
  exact ⟨o,kp (ne h1 h2) h1,h2⟩
 ·refine xe22 h.cr fun o x h1 h2 => ?_
  exact ⟨o,x,kp (ne h1 h2) h1,h2⟩
 ·refine xe22 h.cl fun o x h1 h2 => ?_
  exact ⟨o,x,kp (ne h1 h2) h1,h2⟩
 exact (hall.append (.cons hv .nil)).imp fun _ _ r => r.move fun a ws n h e => kp h e
theorem LsC.cell {L R : Addr} {tm : List Nat} {k : Nat} {t1 t2 : Tok} {rws : List (List Int)} {σ : Sg} (h : LsC L R tm k t1 t2 rws σ) {c : Addr} (hc : c = L + 3 ∨ c = L + 4) {o : Obj} {v : Value} (ho : IsC (upd σ c o) c v) : LsC L R tm k t1 t2 rws (upd σ c o):=by
 have ne : ∀ a b : Nat,a ≠ b → (L + a : Addr) ≠ L + b:=fun a b h z => h (Nat.add_left_cancel z)
 have kp : ∀ {b : Addr} {o' : Obj},b ≠ c → σ b = some o' → upd σ c o b = some o':=fun {b o'} h e => by rw [upd_ne h];exact e
 have hcc : ∃ o x,σ c = some o ∧ o.data = .cell x:=by
  rcases hc with rfl | rfl
  ·exact h.cr
  exact h.cl
 refine xe22 hcc fun oc xc hc1 hc2 => ?_
 try clear hcc
 have nl : ∀ {a : Addr} {ws : Array Value} {n : Nat},σ a = some (listOf ws n) → a ≠ c:=fun {a ws n} e z => by
  rw [z,hc1] at e;cases e;cases hc2
 have n1 : (L + 1 : Addr) ≠ c:=by rcases hc with rfl | rfl <;> exact ne _ _ (by decide)
 have n2 : (L + 2 : Addr) ≠ c:=by rcases hc with rfl | rfl <;> exact ne _ _ (by decide)
 refine ⟨h.ck.move fun o => kp n2,h.ct.move fun o => kp n1,?_,?_,?_⟩
 ·rcases hc with rfl | rfl
  ·refine xe12 ho fun o' h1 h2 => ?_
   try clear ho;exact ⟨o',_,h1,h2⟩
  refine xe22 h.cr fun o' x h1 h2 => ?_;exact ⟨o',x,kp (ne _ _ (by decide)) h1,h2⟩
 ·rcases hc with rfl | rfl
  ·refine xe22 h.cl fun o' x h1 h2 => ?_;exact ⟨o',x,kp (ne _ _ (by decide)) h1,h2⟩
  refine xe12 ho fun o' h1 h2 => ?_
  try clear ho;exact ⟨o',_,h1,h2⟩
 refine xe22 h.rows fun vs n h1 h2 => ?_
 exact ⟨vs,n,kp (nl h1) h1,h2.imp fun _ _ r => r.move fun a ws n _ e => kp (nl e) e⟩
structure LdJ (L R : Addr) (tm : List Nat) (k : Nat) (u : List Nat) (t1 t2 t3 : Tok) (i : Nat) (m : Str → Option Value) (σ : Sg) : Prop where
 m1 : m (Str.ofString "text") = some (.str (sw u) t3)
 m2 : m (Str.ofString "rows") = some (.ref R)
 c : LsC L R tm k t1 t2 (rowsL tm u u.length) σ
 res : ∀ r,ResG (rnx tm k) (rfin k) (rest tm u (u.length + 1 - i)) r → LL tm k u r
theorem rnx_fits {tm : List Nat} {k : Nat} {q : List Int} {n : Nat} {q' : List Int} (h : rnx tm k q n = some q') : fits k (rowStep tm q n) = true:=by
 unfold rnx at h
 split at h
 ·assumption
 cases h
theorem rowAt.cell {R c : Addr} {σ : Sg} {xs : List Int} {v : Value} {o o' : Obj} {x : Option Value} (h : rowAt R σ xs v) (h1 : σ c = some o) (h2 : o.data = .cell x) : rowAt R (upd σ c o') xs v :=
 h.move fun a ws n _ e => by
  have : a ≠ c:=fun z => by rw [z,h1] at e;cases e;cases h2
  rw [upd_ne this];exact e
structure LwC (L R : Addr) (tm : List Nat) (k : Nat) (u : List Nat) (t1 t2 t3 : Tok) (w : List Nat) (b : Nat) (m : Str → Option Value) (σ : Sg) : Prop where
 m1 : m (Str.ofString "text") = some (.str (sw u) t3)
 m2 : m (Str.ofString "rows") = some (.ref R)
 m3 : ∃ t,m (Str.ofString "found") = some (.str (sw w) t)
 c : LsC L R tm k t1 t2 (rowsL tm u u.length) σ
 row : ∃ v,IsC σ (L + 3) v ∧ rowAt R σ (rowOf tm w) v
 low : ∃ t,IsC σ (L + 4) (.int b t)
theorem ne_L (L : Addr) {a b : Nat} (h : a ≠ b) : (L + a : Addr) ≠ L + b:=fun z => h (Nat.add_left_cancel z)
theorem IsC.away {c d : Addr} {σ : Sg} {v : Value} {o : Obj} (h : IsC σ c v) (hn : c ≠ d) : IsC (upd σ d o) c v:=h.move fun o e => by rw [upd_ne hn];exact e
inductive LwI (ι : Sd) (g : Heap) (L R : Addr) (s : Shared) (tm : List Nat) (k : Nat) (u : List Nat) (t1 t2 t3 : Tok) (sz n : Nat) (s' : Shared) : Prop
 | ofx (m') (σ') (wd) (b) (h1 : Same s s') (h2 : Fr g L s'.heap m') (h3 : Own ι g L s'.heap σ') (h4 : LwC L R tm k u t1 t2 t3 wd b m' σ') (h5 : wd.length ≤ 10) (h6 : b ≤ 1000000) (h7 : ((m' (Str.ofString "going") = some (.bool true) ∧ (∀ r,ResG (rnx tm k) (rfin k) ((wd,rowOf tm wd,b) :: rest tm u sz) r → LL tm k u r) ∧ n = 20 - wd.length) ∨ (m' (Str.ofString "going") = some (.bool false) ∧ (∀ r,ResG (rnx tm k) (rfin k) (rest tm u sz) r → LL tm k u r) ∧ n = 0)))
set_option maxHeartbeats 100000000 in
theorem lawLeast (w : World) (σ : Sg) (tm : List Nat) (k : Nat) (u : List Nat) (t1 t2 t3 : Tok) (htm : tm.length ≤ 4) (hk : k ≤ 2) (hu : u.length ≤ 10) (huc : ∀ c ∈ u,c < 1000000) (htc : ∀ c ∈ tm,c < 1000000) :
  Spec w 363 4 [.str (sw tm) t1,.int k t2,.str (sw u) t3] [] σ (fun v σ' => ∃ r,((r = none ∧ v = .none) ∨ ∃ l t,r = some l ∧ v = .str (sw l) t) ∧ LL tm k u r):=by
 refine' spec_ofC (binds:=[(Str.ofString "term",.str (sw tm) t1),(Str.ofString "k",.int k t2),(Str.ofString "text",.str (sw u) t3)]) ?ho ?hcd ?hb ?hki ?hnd ?c1 ?c2 ?c3 ?_
 (case ho => k_is)
 (case hcd => k_is)
 (case hb => (intro _ _;exact BindsTo.of_eq rfl))
 (case hki => (intro n x hx;simp only [List.mem_cons,List.not_mem_nil,or_false] at hx;rcases hx with rfl | rfl | rfl <;> first | exact .inl rfl | exact .inr ⟨rfl,rfl⟩))
 (case hnd => decide)
 (case c1 => exact rfl)
 (case c2 => exact rfl)
 (case c3 => exact rfl)
 intro A g L ι s cells C F Xc O hcn env R;have X:=C.X;refine xe31 C.T fun mean mg mb T => ?_;have S0:=Same.refl s
 refine xe45 (CellsAre.four (n₁:=Str.ofString "low") (n₂:=Str.ofString "row") (n₃:=Str.ofString "k") (n₄:=Str.ofString "term") (c₁:=L + 4) (c₂:=L + 3) (c₃:=L + 2) (c₄:=L + 1) (show CellsAre _ [(Str.ofString "low",L + 4),(Str.ofString "row",L + 3),(Str.ofString "k",L + 2),(Str.ofString "term",L + 1)] cells from Xc)) fun o1 o2 o3 o4 zq1 d1 d2 d3 d4 => ?_
 subst zq1
 have d1 : o1.data = .cell none:=d1
 have d2 : o2.data = .cell none:=d2
 have d3 : o3.data = .cell (some (.int k t2)):=d3
 have d4 : o4.data = .cell (some (.str (sw tm) t1)):=d4
 have F : Fr g L s.heap (fun y => if y = Str.ofString "text" then some (.str (sw u) t3) else none):=F
 have n43 : (L + 4 : Addr) ≠ L + 3:=Nat.ne_of_gt (Nat.lt_succ_self _)
 have ne : ∀ a b : Nat,a ≠ b → (L + a : Addr) ≠ L + b:=fun a b h z => h (Nat.add_left_cancel z)
 have s1 : addL σ [(L + 4,o1),(L + 3,o2),(L + 2,o3),(L + 1,o4)] (L + 4) = some o1:=upd_self ..
 have s2 : addL σ [(L + 4,o1),(L + 3,o2),(L + 2,o3),(L + 1,o4)] (L + 3) = some o2:=by
  show upd (upd _ _ _) _ _ _ = _
  rw [upd_ne (ne 3 4 (by decide))];exact upd_self ..
 have s3 : addL σ [(L + 4,o1),(L + 3,o2),(L + 2,o3),(L + 1,o4)] (L + 2) = some o3:=by
  show upd (upd (upd _ _ _) _ _) _ _ _ = _
  rw [upd_ne (ne 2 4 (by decide)),upd_ne (ne 2 3 (by decide))];exact upd_self ..
 have s4 : addL σ [(L + 4,o1),(L + 3,o2),(L + 2,o3),(L + 1,o4)] (L + 1) = some o4:=by
  show upd (upd (upd (upd _ _ _) _ _) _ _) _ _ _ = _
  rw [upd_ne (ne 1 4 (by decide)),upd_ne (ne 1 3 (by decide)),upd_ne (ne 1 2 (by decide))];exact upd_self ..
 generalize addL σ [(L + 4,o1),(L + 3,o2),(L + 2,o3),(L + 1,o4)] = σ₀ at O s1 s2 s3 s4
 have ck : IsC σ₀ (L + 2) (.int k t2):=⟨o3,s3,d3⟩
 have ct : IsC σ₀ (L + 1) (.str (sw tm) t1):=⟨o4,s4,d4⟩
 refine xH ?_;intro _ _
 iterate 3 walk1
 refine sListComp [] (by rfl) (by rfl) (by intro y hy hl;simp only [List.mem_cons,List.not_mem_nil,or_false] at hy;rcases hy with rfl | rfl <;> rfl) ?_
 walk1
 first | refine xN ?_ | walk1
 iterate 4 walk1
 first | refine xN ?_ | walk1
 iterate 2 walk1
 refine nameC (c:=L + 1) ‹_› (by rfl) ct ?_
 walk1
 refine slen ‹_› ‹_› (by lia) fun s₁ ta q₁ F₁ O₁ => ?_
 have qq₁:=Same.trans ‹_› q₁
 iterate 3 walk1
 refine srange1 ‹_› ‹_› fun s₂ r u1 u2 u3 q₂ F₂ O₂ hr => ?_
 have qq₂:=Same.trans ‹_› q₂
 refine compRange (n:=tm.length + 1) (fun i acc σ' => σ' = σ₀ ∧ acc.length = i ∧ All2 isI ((List.range i).map fun (j : Nat) => (j : Int)) acc) C.hh hr (by push_cast;lia) (by lia) (by intro y hy;simp only [List.mem_cons,List.not_mem_nil,or_false] at hy;rcases hy with rfl | rfl <;> (intro z;cases z)) (by rfl) (by rfl) F₂ O₂ ⟨rfl,rfl,.nil⟩ (fun i acc σ' h => by rw [h.2.1];exact Nat.le_refl _) (fun i t Cn acc σ₃ s₃ ι' mC q₃ hi hJ F₃ O₃ hN hm => ?_) fun D acc cD σ₃ s₃ q₃ hD F₃ O₃ hJ => ?_
 ·refine xe03 hJ fun zq2 hal hall => ?_
  try clear hJ
  subst zq2
  refine wpAny_tests_nil ?_
  simp only [if_true]
  refine nameS O₃ hN hm ?_
  refine StepC.mk' (Same.refl _) F₃ O₃ ⟨rfl,by simp [hal],?_⟩
  rw [List.range_succ,List.map_append]
  exact hall.append (.cons ⟨t,rfl⟩ .nil)
 refine xe03 hJ fun zq3 hal hall => ?_
 try clear hJ
 subst zq3
 have qq₃:=Same.trans qq₂ q₃
 walk1
 refine znewList ‹_› ‹_› (by simp) fun s₄ R hR q₄ F₄ O₄ => ?_
 have qq₄:=Same.trans qq₃ q₄
 have e4 : Ext σ₃ (upd (upd σ₃ D (listOf acc.toArray cD)) R (listOf [Value.ref D].toArray 0)):=(Ext.upd hD).trans (Ext.upd hR)
 have hDR : D ≠ R:=ne_of_none hR (upd_self ..)
 have L4 : LsC L R tm k t1 t2 (rowsL tm u 0) (upd (upd σ₃ D (listOf acc.toArray cD)) R (listOf [Value.ref D].toArray 0)):=⟨ck.move fun o => e4 _ _,ct.move fun o => e4 _ _,⟨o2,_,e4 _ _ s2,d2⟩,⟨o1,_,e4 _ _ s1,d1⟩,_,_,upd_self ..,.cons ⟨D,acc,cD,rfl,hDR,by rw [upd_ne hDR];exact upd_self ..,hall⟩ .nil⟩
 generalize (upd (upd σ₃ D (listOf acc.toArray cD)) R (listOf [Value.ref D].toArray 0)) = σ₄ at *
 refine xS ?_;intros
 rename_i sB FB OB qB
 have SB:=Same.refl sB
 refine cut (ι:=ι) (g:=g) (L:=L) (fun m σ' => m (Str.ofString "text") = some (.str (sw u) t3) ∧ m (Str.ofString "rows") = some (.ref R) ∧ LsC L R tm k t1 t2 (rowsL tm u u.length) σ') ?_ fun m₅ σ₅ s₅ q₅ F₅ O₅ J₅ => ?_
 ·refine wpAny_For ?_
  first | refine xN ?_ | walk1
  refine forStr (fun i m σ' => m (Str.ofString "text") = some (.str (sw u) t3) ∧ m (Str.ofString "rows") = some (.ref R) ∧ LsC L R tm k t1 t2 (rowsL tm u i) σ') C.hh FB OB ⟨rfl,rfl,L4⟩ (fun i cc t m₆ σ₆ s₆ ι' back q₆ hc J F₆ O₆ => ?_) fun m₆ σ₆ s₆ q₆ F₆ O₆ J => ?_
  ·clear q₆
   refine xe03 J fun m1 m2 L6 => ?_
   try clear J
   have S6:=Same.refl s₆
   refine xe22 L6.rows fun vs nv hRv hrows => ?_
   have hil:=(List.getElem?_eq_some_iff.mp hc).1
   have hrl : rowsL tm u i = (List.range i).map (fun j => rowOf tm (u.take j)) ++ [rowOf tm (u.take i)]:=by simp [rowsL,List.range_succ]
   have hrows0:=hrows
   rw [hrl] at hrows
   refine xe23 (All2.split hrows) fun vs' vl zq4 hr1 hr2 => ?_
   subst zq4
   refine xe12 (?_ : ∃ vt,vl = [vt] ∧ rowAt R σ₆ (rowOf tm (u.take i)) vt) fun vt zq378 zq379 => ?_
   ·cases hr2 with
    | cons h t => cases t;exact ⟨_,rfl,h⟩
   subst zq378
   refine xe34 zq379 fun a0 ws0 n0 zq579 ha0R ha0 hws0 => ?_
   try clear zq379
   subst zq579
   have hvl:=hrows0.length
   simp [rowsL] at hvl
   refine xH ?_;intro _ _
   iterate 2 walk1
   first | refine xN ?_ | walk1
   refine lmeth ‹_› hRv PySem.F.slot_list_append PySem.F.type_list_append ?_
   iterate 3 walk1
   first | refine xN ?_ | walk1
   iterate 3 walk1
   first | refine xN ?_ | walk1
   iterate 3 walk1
   refine llast ‹_› ‹_› hRv (by lia) fun s₇ q₇ F₇ O₇ => ?_
   have qq₇:=Same.trans ‹_› q₇
   walk1
   first | refine xN ?_ | walk1
   walk1
   refine nameC (c:=L + 1) ‹_› (by rfl) L6.ct ?_
   iterate 2 walk1
   refine (lawRow w _ a0 ws0 n0 (rowOf tm (u.take i)) tm cc t t1 ha0 hws0 (rowOf_len ..) (by lia)).call (C.le (by decide)) ‹_› ‹_› fun v σ₈ s₈ q₈ F₈ O₈ hP => ?_
   have qq₈:=Same.trans ‹_› q₈
   refine xe02 hP fun e₈ zq380 => ?_
   try clear hP
   refine xe34 zq380 fun lb ws8 n8 zq580 hlb hlb8 hws8 => ?_
   try clear zq380
   subst zq580
   have L8:=L6.ext e₈
   have hRv8:=e₈ _ _ hRv
   have hlbR : lb ≠ R:=(ne_of_none hlb hRv).symm
   walk1
   refine lappend ‹_› ‹_› hRv8 (by simp;lia) fun s₉ n₉ q₉ F₉ O₉ => ?_
   have qq₉:=Same.trans ‹_› q₉
   have L9:=L8.push (n':=n₉) hRv8 (hrows0.imp fun _ _ r => r.move fun a ws n _ => e₈ _ _) (xs:=rowOf tm (u.take (i + 1))) (v:=.ref lb) ⟨lb,ws8,n8,rfl,hlbR,hlb8,by rw [List.take_add_one,hc];show All2 isI (rowOf tm (u.take i ++ [cc])) _;rw [rowOf_snoc];exact hws8⟩
   walk1
   refine Turn.mk' qq₉ F₉ O₉ ⟨m1,m2,?_⟩
   have hrl2 : rowsL tm u (i + 1) = rowsL tm u i ++ [rowOf tm (u.take (i + 1))]:=by simp [rowsL,List.range_succ]
   rw [hrl2];exact L9
  walk1
  exact Mid.mk' (Same.trans ‹_› q₆) F₆ O₆ J
 refine xe03 J₅ fun m1 m2 L5 => ?_
 try clear J₅
 have qq₅:=Same.trans qB q₅
 refine xe22 L5.rows fun vs nv hRv hrows => ?_
 have hrl : rowsL tm u u.length = (List.range u.length).map (fun j => rowOf tm (u.take j)) ++ [rowOf tm u]:=by simp [rowsL,List.range_succ]
 have hrows0:=hrows
 rw [hrl] at hrows
 refine xe23 (All2.split hrows) fun vs' vl zq5 hr1 hr2 => ?_
 subst zq5
 refine xe12 (?_ : ∃ vt,vl = [vt] ∧ rowAt R σ₅ (rowOf tm u) vt) fun vt zq381 zq382 => ?_
 ·cases hr2 with
  | cons h t => cases t;exact ⟨_,rfl,h⟩
 subst zq381
 refine xe34 zq382 fun a0 ws0 n0 zq581 ha0R ha0 hws0 => ?_
 try clear zq382
 subst zq581
 have hvl:=hrows0.length
 simp [rowsL] at hvl
 have hwl0:=hws0.length
 rw [rowOf_len] at hwl0
 refine xe22 (last_int hws0 (by rw [rowOf_len];exact Nat.succ_pos _)) fun wr te zq6 hwr => ?_
 subst zq6
 rw [rowOf_len] at hwr
 refine xH ?_;intro _ _
 iterate 4 walk1
 first | refine xN ?_ | walk1
 iterate 3 walk1
 refine llast ‹_› ‹_› hRv (by lia) fun s₆ q₆ F₆ O₆ => ?_
 have qq₆:=Same.trans ‹_› q₆
 iterate 4 walk1
 refine llast ‹_› ‹_› ha0 (by lia) fun s₇ q₇ F₇ O₇ => ?_
 have qq₇:=Same.trans qq₆ q₇
 refine nameC (c:=L + 2) ‹_› (by rfl) L5.ck ?_
 iterate 3 walk1
 refine xH ?_;intro _ _
 walk1
 first | refine xN ?_ | walk1
 ·rename_i hcc _ _
  show Ends _ _ _ _ _ _ _
  exact Ends.mk' qq₇ F₇ O₇ ⟨some u,.inr ⟨u,t3,rfl,rfl⟩,.inl ⟨hcc,rfl⟩⟩
 rename_i hcc
 walk1
 refine cutR (ι:=ι) (g:=g) (L:=L) (fun m σ' => LL tm k u none) ?_ fun m₈ σ₈ s₈ q₈ F₈ O₈ J₈ => ?_
 ·have S7:=Same.refl s₇
  refine wpAny_For ?_
  walk1
  first | refine xN ?_ | walk1
  iterate 3 walk1
  first | refine xN ?_ | walk1
  iterate 2 walk1
  first | refine xN ?_ | walk1
  walk1
  refine slen ‹_› ‹_› (by lia) fun s₉ ta q₉ F₉ O₉ => ?_
  have qq₉:=Same.trans ‹_› q₉
  iterate 9 walk1
  refine srangeDown (n:=u.length) (by lia) ‹_› ‹_› fun s₁₀ rg v1 v2 v3 q₁₀ F₁₀ O₁₀ hrg => ?_
  have qq₁₀:=Same.trans ‹_› q₁₀
  refine forDown (n:=u.length) (fun i m σ' => LdJ L R tm k u t1 t2 t3 i m σ') C.hh F₁₀ O₁₀ hrg (by lia) ⟨m1,m2,L5,fun r hr => .inr ⟨hcc,hr⟩⟩ (fun i ti mB σB sB ι' back qB hi J FB OB => ?_) fun mB σB sB qB FB OB J => ?_
  ·have qL:=qB
   clear qB
   refine holdP ?_;intro G;rcases J with ⟨m1,m2,LB,hres⟩;unfold G;clear G
   have SB:=Same.refl sB
   refine xe22 LB.rows fun vs nv hRv hrows => ?_
   have hsz1 : u.length + 1 - i = u.length - i + 1:=by lia
   have hszu : u.length - i ≤ u.length:=by lia
   have hsz2 : u.length + 1 - (i + 1) = u.length - i:=by lia
   rw [hsz1] at hres
   generalize u.length - i = sz at *
   have hvl : vs.length = u.length + 1:=by have:=hrows.length;simp [rowsL] at this;lia
   have hvg:=List.getElem?_eq_getElem (l:=vs) (i:=sz) (by lia)
   generalize vs[sz] = vrow at hvg
   refine xe12 (hrows.get2 hvg) fun xr hxr hrow => ?_
   have hxr : xr = rowOf tm (u.take sz):=by
    rw [rowsL,List.getElem?_map,List.getElem?_range (by lia)] at hxr
    cases hxr;rfl
   subst hxr
   have hres' : ∀ r,ResG (rnx tm k) (rfin k) ((u.take sz,rowOf tm (u.take sz),(if sz < u.length then u.getD sz 0 + 1 else 0)) :: rest tm u sz) r → LL tm k u r:=fun r hr => hres r (by rw [rest_succ];exact hr)
   refine xH ?_;intro _ _
   iterate 2 walk1
   first | refine xN ?_ | walk1
   iterate 3 walk1
   first | refine xN ?_ | walk1
   walk1
   refine' sslice_to (s:=⟨_,_,_,_,_⟩) ?F ?O ?h0 ?hl ?_
   (case F => assumption)
   (case O => assumption)
   (case h0 => lia)
   (case hl => lia)
   intro sC tC qC FC OC
   have qqC:=Same.trans ‹_› qC
   rw [show ((sz : Int)).toNat = sz from by lia]
   refine xS ?_;intros
   refine xH ?_;intro _ _
   iterate 2 walk1
   first | refine xN ?_ | walk1
   first | refine xN ?_ | walk1
   refine lsub ‹_› ‹_› hRv hvg rfl (by lia) fun sD qD FD OD => ?_
   have qqD:=Same.trans ‹_› qD
   refine xe22 LB.cr fun ocr vcr hcr1 hcr2 => ?_
   refine storeC (c:=L + 3) ‹_› ‹_› (by rfl) hcr1 hcr2 (fun sE oE qE FE OE hE hEc => ?_)
   have qqE:=Same.trans ‹_› qE
   have LE:=LB.cell (.inl rfl) hE
   have hrowE:=hrow.cell (o':=oE) hcr1 hcr2
   have SE:=Same.refl sE
   refine xe22 LE.cl fun ocl vcl hcl1 hcl2 => ?_
   refine cut (ι:=ι') (g:=g) (L:=L) (LwC L R tm k u t1 t2 t3 (u.take sz) (if sz < u.length then u.getD sz 0 + 1 else 0)) ?_ fun mG σG sG qG FG OG JG => ?_
   ·iterate 3 walk1
    first | refine xN ?_ | walk1
    walk1
    first | refine xN ?_ | walk1
    iterate 2 walk1
    first | refine xN ?_ | walk1
    walk1
    refine slen ‹_› ‹_› (by lia) fun sH tH qH FH OH => ?_
    have qqH:=Same.trans ‹_› qH
    iterate 3 walk1
    ·rename_i hlt
     have hlt : sz < u.length:=by lia
     iterate 2 walk1
     first | refine xN ?_ | walk1
     iterate 3 walk1
     first | refine xN ?_ | walk1
     first | refine xN ?_ | walk1
     refine ssub (c:=u.getD sz 0) (i:=sz) ‹_› ‹_› (by rw [List.getD_eq_getElem?_getD,List.getElem?_eq_getElem hlt];rfl) rfl (by lia) fun sI tI qI FI OI => ?_
     have qqI:=Same.trans ‹_› qI
     iterate 4 walk1
     refine storeC (c:=L + 4) ‹_› ‹_› (by rfl) hcl1 hcl2 (fun sJ oJ qJ FJ OJ hJ hJc => ?_)
     have qqJ:=Same.trans ‹_› qJ
     refine Mid.mk' qqJ FJ OJ ⟨m1,m2,⟨_,rfl⟩,LE.cell (.inr rfl) hJ,⟨_,hE.away (ne_L L (by decide)),hrowE.cell hcl1 hcl2⟩,by rw [if_pos hlt];exact ⟨_,hJ⟩⟩
    rename_i hlt
    have hlt : ¬ sz < u.length:=by lia
    iterate 1 walk1
    refine storeC (c:=L + 4) ‹_› ‹_› (by rfl) hcl1 hcl2 (fun sI oI qI FI OI hI hIc => ?_)
    have qqI:=Same.trans qqH qI
    refine Mid.mk' qqI FI OI ⟨m1,m2,⟨_,rfl⟩,LE.cell (.inr rfl) hI,⟨_,hE.away (ne_L L (by decide)),hrowE.cell hcl1 hcl2⟩,by rw [if_neg hlt];exact ⟨_,hI⟩⟩
   have SG:=Same.refl sG
   refine xH ?_;intro _ _
   iterate 2 walk1
   refine xS ?_;intros
   refine xH ?_;intro _ _
   refine whileL (LwI ι' g L R sG tm k u t1 t2 t3 sz) (20 - (u.take sz).length) ⟨_,_,u.take sz,(if sz < u.length then u.getD sz 0 + 1 else 0),by assumption,by assumption,by assumption,⟨(by exact JG.m1),(by exact JG.m2),(by exact JG.m3),JG.c,JG.row,JG.low⟩,by simp;lia,?_,.inl ⟨(by exact rfl),hres',rfl⟩⟩ ?_
   ·split
    ·rename_i hlt
     rw [List.getD_eq_getElem?_getD,List.getElem?_eq_getElem hlt]
     exact huc _ (List.getElem_mem _)
    lia
   intro n sK zq585
   refine holdP ?_;intro G;rcases zq585 with ⟨mK,σK,wd,b,qK,FK,OK,JK,hwl,hb,hgo⟩;unfold G;clear G
   walk1
   rcases hgo with ⟨hg1,hgr,rfl⟩ | ⟨hg1,hgr,rfl⟩
   ·have SK:=Same.refl sK
    refine xe11 JK.m3 fun tf hf => ?_
    first | refine xN ?_ | walk1
    iterate 2 walk1
    refine xH ?_;intro _ _
    iterate 2 walk1
    refine xe11 JK.low fun tl hlw => ?_
    walk1
    walk1
    refine nameC (c:=L + 4) ‹_› (by rfl) hlw ?_
    iterate 1 walk1
    refine znewList ‹_› ‹_› (by simp) fun sM lc hlc qM FM OM => ?_
    have qqM:=Same.trans ‹_› qM
    walk1
    first | refine xN ?_ | walk1
    walk1
    walk1
    have hlwM : IsC (upd σK lc (listOf [Value.int b tl].toArray 0)) (L + 4) (.int b tl):=hlw.move fun o => (Ext.upd hlc) _ _
    have LM : LsC L R tm k t1 t2 (rowsL tm u u.length) (upd σK lc (listOf [Value.int b tl].toArray 0)):=JK.c.ext (Ext.upd hlc)
    have hlcM:=upd_self σK lc (listOf [Value.int b tl].toArray 0)
    refine sListComp [(Str.ofString "low",L + 4)] (by rfl) (by rfl) (by intro y hy hl;simp only [List.mem_cons,List.not_mem_nil,or_false] at hy;rcases hy with rfl | rfl | rfl | rfl <;> first | rfl | cases hl) ?_
    refine nameC (c:=L + 1) ‹_› (by rfl) LM.ct ?_
    generalize hσM : upd σK lc (listOf [Value.int b tl].toArray 0) = σM at *
    refine compStr (fun i acc σ' => σ' = σM ∧ acc.length ≤ i ∧ All2 isI (((tm.take i).filter (fun c => decide (b < c))).map (fun (c : Nat) => (c : Int))) acc) C.hh (by lia) (by intro y hy;simp only [List.mem_cons,List.not_mem_nil,or_false] at hy;rcases hy with rfl | rfl | rfl | rfl <;> (intro z;cases z)) (by rfl) (by rfl) ‹_› ‹_› ⟨rfl,Nat.zero_le _,.nil⟩ (fun i acc σ' h => h.2.1) (fun i cc tc Cn acc σN sN ι₂ mC qN hc hJ FN ON hN hm => ?_) fun D acc cD σN sN qN hD FN ON hJ => ?_
    ·refine xe03 hJ fun zq7 hal hall => ?_
     try clear hJ
     subst zq7
     have SN:=Same.refl sN
     refine wpAny_tests_one ?_
     iterate 3 walk1
     first | refine xN ?_ | walk1
     iterate 2 walk1
     refine nameS ‹_› hN hm ?_
     iterate 2 walk1
     refine nameC (c:=L + 4) ‹_› (by rfl) hlwM ?_
     iterate 2 walk1
     have htake : ∀ (P : Nat → Bool),((tm.take (i + 1)).filter P).map (fun (c : Nat) => (c : Int)) = ((tm.take i).filter P).map (fun (c : Nat) => (c : Int)) ++ if P cc = true then [(cc : Int)] else []:=fun P => by
      rw [List.take_add_one,hc,List.filter_append,List.map_append]
      cases hp : P cc <;> simp [hp]
     by_cases hbc : b < cc
     ·rw [show decide ((b : Int) < (cc : Int)) = true from decide_eq_true (by lia)]
      change (if true = true then _ else _)
      rw [if_pos rfl]
      walk1
      first | refine xN ?_ | walk1
      iterate 2 walk1
      refine nameS ‹_› hN hm ?_
      iterate 2 walk1
      refine StepC.mk' SN ‹_› ‹_› ⟨rfl,by simp;lia,?_⟩
      rw [htake,if_pos (by simp;lia)]
      exact hall.append (.cons ⟨_,rfl⟩ .nil)
     rw [show decide ((b : Int) < (cc : Int)) = false from decide_eq_false (by lia)]
     change (if false = true then _ else _)
     rw [if_neg (by decide)]
     refine StepC.mk' SN ‹_› ‹_› ⟨rfl,by lia,?_⟩
     rw [htake,if_neg (by simp;lia),List.append_nil]
     exact hall
    refine xe03 hJ fun zq8 hal hall => ?_
    try clear hJ
    subst zq8
    have qqN:=Same.trans qqM qN
    rw [List.take_length] at hall
    have eD:=Ext.upd (o:=listOf acc.toArray cD) hD
    walk1
    have hfl:=List.length_filter_le (fun c => decide (b < c)) tm
    refine ssort_int ‹_› ‹_› (upd_self ..) hall (by rw [List.length_map];lia) fun sO Ds vso nso co hDs qO FO OO hO hperm hsrt => ?_
    have qqO:=Same.trans qqN qO
    refine xe14 (ints_nat hperm hsrt) fun cs zq9 hcs1 hcs2 hcs3 => ?_
    subst zq9
    have hcs : ∀ c,c ∈ cs ↔ c ∈ tm ∧ b < c:=fun c => (hcs2 c).trans (by rw [List.mem_filter];simp)
    have eO:=Ext.upd (o:=listOf vso.toArray co) hDs
    have hvsl:=hO.length
    rw [List.length_map] at hvsl
    refine ladd ‹_› ‹_› (eO _ _ (eD _ _ hlcM)) (upd_self ..) (by simp;lia) fun sP dc hdc qP FP OP => ?_
    have qqP:=Same.trans ‹_› qP
    have eP:=Ext.upd (o:=listOf ([Value.int b tl] ++ vso).toArray 0) hdc
    have hcodes : All2 isI (iN (b :: cs)) ([Value.int b tl] ++ vso):=.cons ⟨_,rfl⟩ hO
    have e6 : Ext σN (upd (upd (upd σN D (listOf acc.toArray cD)) Ds (listOf vso.toArray co)) dc (listOf ([Value.int b tl] ++ vso).toArray 0)):=(eD.trans eO).trans eP
    have hdcP:=upd_self (upd (upd σN D (listOf acc.toArray cD)) Ds (listOf vso.toArray co)) dc (listOf ([Value.int b tl] ++ vso).toArray 0)
    generalize (upd (upd (upd σN D (listOf acc.toArray cD)) Ds (listOf vso.toArray co)) dc (listOf ([Value.int b tl] ++ vso).toArray 0)) = σP at *
    have LP:=LM.ext e6
    refine xe12 JK.row fun vrw hrwK hraK => ?_
    have hcm : ∀ c ∈ b :: cs,c ≤ 1000000:=fun c hc => by
     rcases List.mem_cons.mp hc with rfl | h
     ·exact hb
     exact Nat.le_of_lt (htc c ((hcs c).mp h).1)
    have eKP : Ext σK σP:=fun a o e => e6 _ _ (hσM ▸ (Ext.upd hlc) _ _ e)
    have hrwP : IsC σP (L + 3) vrw:=hrwK.move fun o => eKP _ _
    have hraP : rowAt R σP (rowOf tm wd) vrw:=hraK.move fun a ws n _ e => eKP _ _ e
    refine xe34 hraP fun ra rws rn zq10 hraR hraA hraI => ?_
    try clear hraP
    subst zq10
    refine xS ?_;intros
    refine xH ?_;intro _ _
    refine sAssignComp [(Str.ofString "term",L + 1),(Str.ofString "row",L + 3),(Str.ofString "k",L + 2)] (by rfl) (by rfl) (by intro y hy hl;simp only [List.mem_cons,List.not_mem_nil,or_false] at hy;rcases hy with rfl | rfl | rfl | rfl | rfl | rfl | rfl | rfl <;> first | rfl | cases hl) (by rfl) ?_
    first | refine xN ?_ | walk1
    refine compLstU (cn:=0) (la:=dc) (vs:=[Value.int b tl] ++ vso) (fun i acc σ' => Ext σP σ' ∧ acc.length ≤ i ∧ All2 isI (iN (((b :: cs).take i).filter (fun c => fits k (rowStep tm (rowOf tm wd) c)))) acc) C.hh (by simp;lia) (fun i acc σ' h => h.1 _ _ hdcP) (by intro y hy;simp only [List.mem_cons,List.not_mem_nil,or_false] at hy;rcases hy with rfl | rfl | rfl | rfl | rfl | rfl | rfl | rfl <;> (intro z;cases z)) (by rfl) (by rfl) ‹_› ‹_› ⟨Ext.refl _,Nat.zero_le _,.nil⟩ (fun i acc σ' h => h.2.1) (fun i v Cn acc2 σQ sQ ι₂ mC qQ hv hJ FQ OQ hN hm => ?_) (fun D2 acc2 cD2 σQ sQ qQ hD2 FQ OQ hJ => ?_)
    ·refine xe03 hJ fun eQ hal2 hall2 => ?_
     try clear hJ
     refine xe12 (hcodes.get2 hv) fun x hx zq383 => ?_
     refine xe11 zq383 fun tx zq582 => ?_
     try clear zq383
     subst zq582
     refine xe12 (?_ : ∃ cc,(b :: cs)[i]? = some cc ∧ x = (cc : Int)) fun cc hcc zq384 => ?_
     ·rw [List.getElem?_map] at hx
      cases h : (b :: cs)[i]? with
      | none => rw [h] at hx;cases hx
      | some cc => rw [h] at hx;cases hx;exact ⟨cc,rfl,rfl⟩
     subst zq384
     have hccb:=hcm cc (List.mem_of_getElem? hcc)
     have SQ:=Same.refl sQ
     have LQ:=LP.ext eQ
     refine wpAny_tests_one ?_
     iterate 3 walk1
     first | refine xN ?_ | walk1
     iterate 2 walk1
     walk1
     first | refine xN ?_ | walk1
     iterate 2 walk1
     refine nameC (c:=L + 3) ‹_› (by rfl) (hrwP.move fun o => eQ _ _) ?_
     iterate 2 walk1
     first | refine xN ?_ | walk1
     iterate 2 walk1
     refine nameS ‹_› hN hm ?_
     iterate 2 walk1
     walk1
     refine nameC (c:=L + 1) ‹_› (by rfl) LQ.ct ?_
     iterate 1 walk1
     rw [show ((cc : Int)).toNat = cc from by lia]
     refine ⟨X.keeps FQ.keep,?_⟩
     refine (lawRow w _ ra rws rn (rowOf tm wd) tm cc _ t1 (eQ _ _ hraA) hraI (rowOf_len ..) (by lia)).call (C.le (by decide)) ‹_› ‹_› fun v σS sS qS FS OS hP => ?_
     have qqS:=Same.trans ‹_› qS
     refine xe02 hP fun eS zq385 => ?_
     try clear hP
     refine xe34 zq385 fun lm wsm nm zq583 hlm hlmS hwsm => ?_
     try clear zq385
     subst zq583
     walk1
     refine smin C.hh ‹_› ‹_› hlmS hwsm (by rw [rowStep_len];exact Nat.succ_pos _) fun sT Mn tM qT FT OT hM1 hM2 => ?_
     have qqT:=Same.trans ‹_› qT
     have hfit : fits k (rowStep tm (rowOf tm wd) cc) = decide (Mn ≤ (k : Int)):=by
      cases hd : decide (Mn ≤ (k : Int)) with
      | true => exact fits_iff.mpr ⟨Mn,hM1,of_decide_eq_true hd⟩
      | false =>
       cases hf : fits k (rowStep tm (rowOf tm wd) cc) with
       | false => rfl
       | true =>
        refine xe12 (fits_iff.mp hf) fun y hy1 hy2 => ?_
        have:=hM2 y hy1
        exact absurd (Int.le_trans this hy2) (of_decide_eq_false hd)
     have LT:=LQ.ext eS
     refine nameC (c:=L + 2) ‹_› (by rfl) LT.ck ?_
     iterate 2 walk1
     have htake : iN (((b :: cs).take (i + 1)).filter (fun c => fits k (rowStep tm (rowOf tm wd) c))) = iN (((b :: cs).take i).filter (fun c => fits k (rowStep tm (rowOf tm wd) c))) ++ if fits k (rowStep tm (rowOf tm wd) cc) = true then [(cc : Int)] else []:=by
      rw [List.take_add_one,hcc,List.filter_append,iN,List.map_append]
      cases hp : fits k (rowStep tm (rowOf tm wd) cc) <;> simp [hp]
     rw [← hfit]
     cases hf : fits k (rowStep tm (rowOf tm wd) cc) with
     | true =>
      rw [hf,if_pos rfl] at htake
      change (if true = true then _ else _)
      rw [if_pos rfl]
      refine nameS ‹_› hN hm ?_
      refine StepC.mk' qqT ‹_› ‹_› ⟨eQ.trans eS,by simp;lia,?_⟩
      show All2 isI (iN (((b :: cs).take (i + 1)).filter (fun c => fits k (rowStep tm (rowOf tm wd) c)))) _
      rw [htake]
      exact hall2.append (.cons ⟨_,rfl⟩ .nil)
     | false =>
      rw [hf,if_neg (by decide),List.append_nil] at htake
      change (if false = true then _ else _)
      rw [if_neg (by decide)]
      refine StepC.mk' qqT ‹_› ‹_› ⟨eQ.trans eS,by lia,?_⟩
      show All2 isI (iN (((b :: cs).take (i + 1)).filter (fun c => fits k (rowStep tm (rowOf tm wd) c)))) _
      rw [htake]
      exact hall2
    refine xe03 hJ fun eQ hal2 hall2 => ?_
    try clear hJ
    have hlcs : ([Value.int b tl] ++ vso).length = (b :: cs).length:=by simp;lia
    rw [hlcs,List.take_length] at hall2
    have eD2:=Ext.upd (o:=listOf acc2.toArray cD2) hD2
    have qqQ : Same sK sQ:=Same.trans ‹_› qQ
    have SQ:=Same.refl sQ
    have LQ:=LP.ext (eQ.trans eD2)
    refine xH ?_;intro _ _
    iterate 2 walk1
    first | refine xN ?_ | walk1
    walk1
    walk1
    refine znewList ‹_› ‹_› (by simp) fun sU ln hln qU FU OU => ?_
    have qqU:=Same.trans qqQ (Same.trans ‹_› qU)
    have eU:=Ext.upd (o:=listOf ([] : List Value).toArray 0) hln
    have hD2U:=eU _ _ (upd_self σQ D2 (listOf acc2.toArray cD2))
    refine leqnil (by have:=C.room;show A.units < 9900;lia) ‹_› ‹_› hD2U (upd_self ..) ?_
    refine xe02 (first_fit (k:=k) (xs:=rowOf tm wd) hcs hcs1) fun hff1 hff2 => ?_
    have LU:=LQ.ext eU
    have hgo2 : ∀ a o,σP a = some o → upd (upd σQ D2 (listOf acc2.toArray cD2)) ln (listOf ([] : List Value).toArray 0) a = some o:=((eQ.trans eD2).trans eU)
    generalize hσU : upd (upd σQ D2 (listOf acc2.toArray cD2)) ln (listOf ([] : List Value).toArray 0) = σU at *
    cases hfl : (b :: cs).filter (fun c => fits k (rowStep tm (rowOf tm wd) c)) with
    | nil =>
     rw [hfl] at hall2
     cases hall2
     simp only [List.isEmpty_nil]
     iterate 2 walk1
     refine xH ?_;intro _ _
     iterate 2 walk1
     refine xS ?_;intros
     iterate 2 walk1
     show Less _ _ _
     refine ⟨0,by lia,_,_,wd,b,Same.trans qK ‹_›,by assumption,by assumption,⟨(by exact JK.m1),(by exact JK.m2),(by exact JK.m3),LU,⟨_,hrwK.move (fun o e => hgo2 _ _ (eKP _ _ e)),hraK.move fun a ws n _ e => hgo2 _ _ (eKP _ _ e)⟩,tl,hlw.move fun o e => hgo2 _ _ (eKP _ _ e)⟩,hwl,hb,.inr ⟨(by exact rfl),fun r hr => hgr r (.skip (hff1 hfl) hr),rfl⟩⟩
    | cons c0 cr =>
     rw [hfl] at hall2
     refine xe03 (hff2 _ _ hfl) fun hbc hnx hlt => ?_
     cases hall2 with
     | cons hv0 hvr =>
      refine xe11 hv0 fun tv0 zq11 => ?_
      try clear hv0
      subst zq11
      simp only [List.isEmpty_cons]
      iterate 2 walk1
      refine xH ?_;intro _ _
      walk1
      have hc0b : c0 ≤ 1000000:=hcm c0 (by have : c0 ∈ (b :: cs).filter (fun c => fits k (rowStep tm (rowOf tm wd) c)):=(by rw [hfl];exact .head _);exact (List.mem_filter.mp this).1)
      walk1
      first | refine xN ?_ | walk1
      walk1
      first | refine xN ?_ | walk1
      iterate 3 walk1
      first | refine xN ?_ | walk1
      walk1
      refine lsub ‹_› ‹_› hD2U (i:=0) rfl (by lia) (by simp at hal2 ⊢;lia) fun sV qV FV OV => ?_
      have qqV:=Same.trans ‹_› qV
      iterate 3 walk1
      refine xS ?_;intros
      rename_i sX FX OX qqX
      have SX:=Same.refl sX
      refine xH ?_;intro _ _
      iterate 2 walk1
      first | refine xN ?_ | walk1
      iterate 2 walk1
      refine nameC (c:=L + 3) ‹_› (by rfl) (hrwK.move fun o e => hgo2 _ _ (eKP _ _ e)) ?_
      iterate 2 walk1
      first | refine xN ?_ | walk1
      iterate 3 walk1
      first | refine xN ?_ | walk1
      walk1
      refine lsub ‹_› ‹_› hD2U (i:=0) rfl (by lia) (by simp at hal2 ⊢;lia) fun sY qY FY OY => ?_
      have qqY:=Same.trans ‹_› qY
      iterate 3 walk1
      refine nameC (c:=L + 1) ‹_› (by rfl) LU.ct ?_
      walk1
      rw [show ((c0 : Int)).toNat = c0 from by lia]
      refine ⟨X.keeps FY.keep,?_⟩
      refine (lawRow w _ ra rws rn (rowOf tm wd) tm c0 _ t1 (hgo2 _ _ hraA) hraI (rowOf_len ..) (by lia)).call (C.le (by decide)) ‹_› ‹_› fun v σZ sZ qZ FZ OZ hP => ?_
      have qqZ:=Same.trans ‹_› qZ
      refine xe02 hP fun eZ zq386 => ?_
      try clear hP
      refine xe34 zq386 fun lz wsz nz zq584 hlz hlzZ hwsz => ?_
      try clear zq386
      subst zq584
      have LZ:=LU.ext eZ
      refine xe22 LZ.cr fun ocr2 vcr2 hcr21 hcr22 => ?_
      refine storeC (c:=L + 3) ‹_› ‹_› (by rfl) hcr21 hcr22 (fun sa oa qa Fa Oa hca hac => ?_)
      have qqa:=Same.trans qqZ qa
      have La:=LZ.cell (.inl rfl) hca
      refine xe22 LZ.rows fun vsR nR hRZ hrowsZ => ?_
      have hlzR : lz ≠ R:=by
       refine xe22 LU.rows fun vsR' nR' hRU _ => ?_
       exact (ne_of_none hlz hRU).symm
      have hraa : rowAt R (upd σZ (L + 3) oa) (rowOf tm (wd ++ [c0])) (.ref lz):=rowAt.cell (by rw [rowOf_snoc];exact ⟨lz,wsz,nz,rfl,hlzR,hlzZ,hwsz⟩) hcr21 hcr22
      refine xe22 La.cl fun ocl2 vcl2 hcl21 hcl22 => ?_
      refine xH ?_;intro _ _
      iterate 2 walk1
      refine storeC (c:=L + 4) ‹_› ‹_› (by rfl) hcl21 hcl22 (fun sb ob qb Fb Ob hcb hbc' => ?_)
      have qqb:=Same.trans ‹_› qb
      have Lb:=La.cell (.inr rfl) hcb
      have hrab:=hraa.cell (o':=ob) hcl21 hcl22
      have hcab : IsC (upd (upd σZ (L + 3) oa) (L + 4) ob) (L + 3) (.ref lz):=hca.away (ne_L L (by decide))
      generalize (upd (upd σZ (L + 3) oa) (L + 4) ob) = σb at *
      refine xe34 (id hrab) fun rb rbs rbn hrbe hrbR hrbA hrbI => ?_
      cases hrbe
      refine xe22 (last_int hrbI (by rw [rowOf_len];exact Nat.succ_pos _)) fun wrb tb zq12 hwrb => ?_
      subst zq12
      rw [rowOf_len] at hwrb
      refine xH ?_;intro _ _
      iterate 3 walk1
      refine nameC (c:=L + 3) ‹_› (by rfl) hcab ?_
      iterate 3 walk1
      refine llast ‹_› ‹_› hrbA (by lia) fun sc qc Fc Oc => ?_
      have qqc:=Same.trans ‹_› qc
      refine nameC (c:=L + 2) ‹_› (by rfl) Lb.ck ?_
      have hfd : (sw wd ++ (⟨#[((c0 : Int)).toNat]⟩ : Str) : Str) = sw (wd ++ [c0]):=sw_app wd [c0]
      iterate 3 walk1
      refine xH ?_;intro _ _
      walk1
      first | refine xN ?_ | walk1
      ·rename_i hfin _ _
       rw [hfd]
       show MidR _ _ _ _ _ _ _ _
       refine MidR.ret (Ends.mk' (Same.trans qq₇ (Same.trans qq₁₀ (Same.trans qL (Same.trans qqE (Same.trans qG (Same.trans qK (Same.trans qqX qqc))))))) ‹_› (back _ _ ‹_›) ⟨some (wd ++ [c0]),.inr ⟨_,_,rfl,rfl⟩,hgr _ (.hit hbc hnx hlt (by rw [← rowOf_snoc];exact hfin))⟩)
      rename_i hfin
      iterate 3 walk1
      show Less _ _ _
      have hlen6 : (wd ++ [c0]).length ≤ tm.length + k:=fits_len (by rw [rowOf_snoc];exact rnx_fits hnx)
      have hlen7 : (wd ++ [c0]).length = wd.length + 1:=by simp
      have hlen8 : (wd ++ [c0]).length ≤ 10:=by lia
      refine ⟨20 - (wd ++ [c0]).length,xs105 hlen7 hlen8,_,_,wd ++ [c0],0,Same.trans qK (Same.trans qqX qqc),by assumption,by assumption,⟨(by exact JK.m1),(by exact JK.m2),⟨_,(by rw [← hfd];rfl)⟩,Lb,⟨_,hcab,hrab⟩,_,hcb⟩,by lia,by lia,.inl ⟨(by exact hg1),fun r hr => hgr r (.push hbc hnx hlt (by rw [← rowOf_snoc];exact hfin) (by rw [← rowOf_snoc];exact hr)),rfl⟩⟩
   have SK:=Same.refl sK
   first | refine xN ?_ | walk1
   iterate 2 walk1
   iterate 2 walk1
   show Turn _ _ _ _ _ _ _
   have qqK:=Same.trans qG qK
   refine Turn.mk' (Same.trans (Same.trans qqE qqK) ‹_›) ‹_› ‹_› ⟨JK.m1,JK.m2,JK.c,?_⟩
   rw [hsz2];exact hgr
  walk1
  exact MidR.mk' (Same.trans qq₁₀ qB) FB OB (J.res none (by rw [Nat.sub_self];exact .nil))
 refine xH ?_;intro _ _
 iterate 2 walk1
 exact Ends.mk' (Same.trans qq₇ q₈) F₈ O₈ ⟨none,.inl ⟨rfl,rfl⟩,J₈⟩
noncomputable def ExtBut (a : Addr) (σ σ' : Sg) : Prop:=∀ b o,b ≠ a → σ b = some o → σ' b = some o
inductive ExpI (w : World) (ι : Sd) (g : Heap) (L : Addr) (s : Shared) (σ σ0 : Sg) (N : Nfa) (c : NfaCells) (S : List St) (a l x : Addr) (n : Nat) (s' : Shared) : Prop
 | ofx (m') (σ') (S') (fr) (vs) (c') (h1 : Same s s') (h2 : Fr g L s'.heap m') (h3 : Own ι g L s'.heap σ') (h4 : m' (Str.ofString "states") = some (.ref a)) (h5 : m' (Str.ofString "transitions") = some (.ref c.D)) (h6 : m' (Str.ofString "frontier") = some (.ref l)) (h7 : σ' l = some (listOf vs.toArray c')) (h8 : All2 ((k1 pg w).is σ') fr vs) (h9 : SetIn (k1 pg w) σ' a S') (h10 : Ext σ0 σ') (h11 : ExtBut a σ σ') (h12 : (∀ k ∈ S,k ∈ S')) (h13 : (∀ k ∈ S',Clo N.tr (· ∈ S) k)) (h14 : (∀ k ∈ fr,k ∈ S')) (h15 : (∀ k ∈ S',k ∈ fr ∨ ∀ d,N.tr k eps d → d ∈ S')) (h16 : (∀ k ∈ S',k ∈ N.U)) (h17 : fr.length ≤ S'.length) (h18 : n = 2 * (60 - S'.length) + fr.length)
theorem expandN (w : World) (σ σ0 : Sg) (x a : Addr) (N : Nfa) (c : NfaCells) (hN : NfaIs w σ0 x N c) (e0 : Ext σ0 σ) (ha : σ0 a = none) (S : List St) (hS : SetIn (k1 pg w) σ a S) (hsub : ∀ k ∈ S,k ∈ N.U) (hone : ∀ k d d',N.tr k eps d → N.tr k eps d' → d = d') :
  Spec w 198 3 [.ref x,.ref a] [] σ (fun v σ' => v = .ref a ∧ ExtBut a σ σ' ∧ ∃ S',SetIn (k1 pg w) σ' a S' ∧ ∀ k,k ∈ S' ↔ Clo N.tr (· ∈ S) k):=by
 refine' spec_of (binds:=[(Str.ofString "self",.ref x),(Str.ofString "states",.ref a)]) ?ho ?hcd ?hb ?hl ?c1 ?c2 ?c3 ?c4 ?_;((case ho => k_is);(case hcd => k_is);(case hb => (first | (intro _ _;exact BindsTo.of_eq rfl) | (intro _ Xh;exact binds_K Xh rfl (by k_is) rfl rfl rfl)));(case hl => exact locs rfl);(case c1 => exact rfl);(case c2 => exact rfl);(case c3 => exact rfl);(case c4 => decide))
 intro A g L ι s C F O env R;have X:=C.X;refine xe31 C.T fun mean mg mb T => ?_;have S0:=Same.refl s
 have I:=(hN.move e0).inst
 refine xH ?_;intro _ _
 iterate 2 walk1
 first | refine xN ?_ | walk1
 (refine iget ‹_› ‹_› ‹_› ‹_› (by k_is) (by k_is) (by k_is) (by k_is) (by first | assumption | rfl) (by rfl) (quietly ‹_› ‹_› ?_);intro _ hq _ _;have _:=Same.trans ‹_› hq;clear hq)
 refine xS ?_;intros
 refine xH ?_;intro _ _
 iterate 2 walk1
 first | refine xN ?_ | walk1
 iterate 2 walk1
 first | refine xN ?_ | walk1
 walk1
 refine slist C.hh ‹_› ‹_› hS fun s₁ l S₁ acc c₁ hl q₁ F₁ O₁ p₁ a₁ => ?_
 have hq2:=Same.trans ‹_› q₁
 have hla : l ≠ a:=fun z => by
  refine xe32 hS.obj fun _ _ _ z1 _ => ?_
  rw [← z,hl] at z1;cases z1
 have hl0 : σ0 l = none:=by
  cases q : σ0 l with
  | none => rfl
  | some o => rw [e0 _ _ q] at hl;cases hl
 refine xS ?_;intros
 refine xH ?_;intro _ _
 have el : Ext σ (upd σ l (lstObj acc c₁)):=Ext.upd hl
 refine whileL (ExpI w ι g L s σ σ0 N c S a l x) (2 * (60 - S.length) + S₁.length) ⟨_,_,S,S₁,acc.toList,c₁,by assumption,by assumption,by assumption,rfl,rfl,rfl,?_,a₁.imp (fun _ _ r => (k1 pg w).mono el.tx r),hS.move el.tx (fun o e => el _ _ e),e0.trans el,(fun b o _ e => el b o e),(fun k h => h),(fun k h => .base h),(fun k h => p₁.mem_iff.mp h),(fun k h => .inl (p₁.mem_iff.mpr h)),hsub,Nat.le_of_eq p₁.length_eq,rfl⟩ ?_
 ·rw [upd_self,Array.toArray_toList]
 intro n s₂ zq1
 refine holdP ?_;intro G;rcases zq1 with ⟨m₂,σ₂,S₂,fr,vs,c₂,q₂,F₂,O₂,m1,m2,m3,hlv,hfr,hS₂,e2,b2,i1,i2,i3,i4,i5,i6,hn⟩;unfold G;clear G
 walk1
 first | refine xN ?_ | walk1
 have hN₂ : NfaIs w σ₂ x N c:=hN.move e2
 have hvl:=hfr.length
 have hS₂l : S₂.length ≤ 60:=Nat.le_trans (nodup_sub hS₂.nd i5) hN.bU
 refine ltruthy O₂ hlv (by lia) (quietly F₂ O₂ fun s₃ q₃ F₃ O₃ => ?_)
 have qq₃:=Same.trans q₂ q₃
 rcases List.eq_nil_or_concat vs with rfl | ⟨vs',y,rfl⟩
 ·simp only [List.isEmpty_nil,Bool.not_true,Bool.false_eq_true,if_false]
  walk1
  refine xH ?_;intro _ _
  walk1
  first | refine xN ?_ | walk1
  refine Ends.mk' qq₃ F₃ O₃ ⟨rfl,b2,S₂,hS₂,fun k => ⟨i2 k,fun h => ?_⟩⟩
  induction h with
  | base h => exact i1 _ h
  | step _ h2 ih =>
   have : fr = []:=List.eq_nil_of_length_eq_zero (by simpa using hvl)
   rcases i4 _ ih with z | z
   ·rw [this] at z;cases z
   exact z _ h2
 refine xe23 (?_ : ∃ fr' ky,fr = fr' ++ [ky] ∧ All2 ((k1 pg w).is σ₂) fr' vs' ∧ (k1 pg w).is σ₂ ky y) fun fr' ky hfr0 hfr1 hy => ?_
 ·have go : ∀ {l : List Value} {fr : List St},All2 ((k1 pg w).is σ₂) fr (l ++ [y]) → ∃ fr' ky,fr = fr' ++ [ky] ∧ All2 ((k1 pg w).is σ₂) fr' l ∧ (k1 pg w).is σ₂ ky y:=by
   intro l
   induction l with
   | nil =>
    intro fr h
    cases h with
    | cons r t => cases t;exact ⟨[],_,rfl,.nil,r⟩
   | cons v l ih =>
    intro fr h
    cases h with
    | cons r t =>
     refine xe23 (ih t) fun fr' ky e1 e2 e3 => ?_
     exact ⟨_ :: fr',ky,by rw [e1];rfl,.cons r e2,e3⟩
  exact go (by simpa using hfr)
 subst hfr0
 have hne : (!(vs'.concat y).isEmpty) = true:=by simp
 rw [hne]
 simp only [if_true]
 rw [List.concat_eq_append] at hlv
 refine xH ?_;intro _ _
 walk1
 walk1
 first | refine xN ?_ | walk1
 refine lmeth O₃ hlv PySem.F.slot_list_pop PySem.F.type_list_pop ?_
 walk1
 have hvl2 : vs'.length ≤ 60:=by have:=hfr1.length;simp at i6;lia
 refine lpop F₃ O₃ hlv (by lia) fun s₄ n₄ q₄ F₄ O₄ => ?_
 have qq₄:=Same.trans qq₃ q₄
 have e4 : Ext σ0 (upd σ₂ l (listOf vs'.toArray n₄)):=e2.upd' hl0
 have tx4 : TX σ₂ (upd σ₂ l (listOf vs'.toArray n₄)):=upd_tx hlv (by simp)
 have hN₄ : NfaIs w (upd σ₂ l (listOf vs'.toArray n₄)) x N c:=hN.move e4
 have hy4 : (k1 pg w).is (upd σ₂ l (listOf vs'.toArray n₄)) ky y:=(k1 pg w).mono tx4 hy
 have hS₄ : SetIn (k1 pg w) (upd σ₂ l (listOf vs'.toArray n₄)) a S₂:=hS₂.move tx4 fun o e => by rw [upd_ne (Ne.symm hla)];exact e
 refine xS ?_;intros
 refine xH ?_;intro _ _
 iterate 3 walk1
 first | refine xN ?_ | walk1
 first | refine xN ?_ | walk1
 have stay : (∀ d,N.tr ky eps d → d ∈ S₂) → ∀ (s' : Shared) (m' : Str → Option Value),Same s s' → Fr g L s'.heap m' → Own ι g L s'.heap (upd σ₂ l (listOf vs'.toArray n₄)) → m' (Str.ofString "states") = some (.ref a) → m' (Str.ofString "transitions") = some (.ref c.D) → m' (Str.ofString "frontier") = some (.ref l) → Less (ExpI w ι g L s σ σ0 N c S a l x) n s':=fun hin s' m' q F' O' a1 a2 a3 => by
  refine ⟨2 * (60 - S₂.length) + fr'.length,by simp at hn;lia,m',_,S₂,fr',vs',n₄,q,F',O',a1,a2,a3,upd_self ..,hfr1.imp fun _ _ r => (k1 pg w).mono tx4 r,hS₄,e4,fun b o hb e => ?_,i1,i2,fun k hk => i3 k (List.mem_append_left _ hk),fun k hk => ?_,i5,by simp at i6;lia,rfl⟩
  ·have hbl : b ≠ l:=ne_of_none hl e
   rw [upd_ne hbl];exact b2 b o hb e
  rcases i4 k hk with z | z
  ·rcases List.mem_append.mp z with z | z
   ·exact .inl z
   simp only [List.mem_singleton] at z;subst z;exact .inr hin
  exact .inr z
 refine din (k1d _ _) (k1r _ _) (C.r1 (by decide)) ‹_› hN₄.tr hy4 (quietly ‹_› ‹_› ?_)
 (intro _ hq _ _;have _:=Same.trans ‹_› hq;clear hq)
 cases hin : c.inner ky with
 | none =>
  simp only [Option.map_none,Option.isSome_none]
  iterate 5 walk1
  refine stay (fun d hd => ?_) _ _ ‹_› ‹_› ‹_› ?_ ?_ ?_
  rotate_left
  ·exact m1
  ·exact m2
  ·exact m3
  refine xe11 (hN₄.has _ _ _ hd) fun a' ha' => ?_
  refine xe11 (hN₄.lin _ _ _ ha') fun d' hd' => ?_
  rw [hin] at hd';cases hd'
 | some d =>
  simp only [Option.map_some,Option.isSome_some]
  iterate 4 walk1
  first | refine xN ?_ | walk1
  walk1
  first | refine xN ?_ | walk1
  first | refine xN ?_ | walk1
  refine dsub (k1d _ _) (k1r _ _) (C.r1 (by decide)) ‹_› ‹_› hN₄.tr hy4 (by rw [hin];rfl) ?_
  (intro _ hq _ _;have _:=Same.trans ‹_› hq;clear hq)
  have hDd:=hN₄.inn _ _ hin
  refine sdin ‹_› hDd (quietly ‹_› ‹_› ?_)
  (intro _ hq _ _;have _:=Same.trans ‹_› hq;clear hq)
  cases hlb : c.lab ky eps with
  | none =>
   simp only [Option.map_none,Option.isSome_none]
   iterate 5 walk1
   refine stay (fun d hd => ?_) _ _ ‹_› ‹_› ‹_› ?_ ?_ ?_
   rotate_left
   ·exact m1
   ·exact m2
   ·exact m3
   refine xe11 (hN₄.has _ _ _ hd) fun a' ha' => ?_
   rw [hlb] at ha';cases ha'
  | some b =>
   simp only [Option.map_some,Option.isSome_some]
   iterate 4 walk1
   refine xH ?_;intro _ _
   iterate 4 walk1
   first | refine xN ?_ | walk1
   first | refine xN ?_ | walk1
   refine xe12 (hN₄.lab _ _ _ hlb) fun Se hSe hSe2 => ?_
   refine dsub (k1d _ _) (k1r _ _) (C.r1 (by decide)) ‹_› ‹_› hN₄.tr hy4 (by rw [hin];rfl) ?_
   (intro _ hq _ _;have _:=Same.trans ‹_› hq;clear hq)
   first | refine xN ?_ | walk1
   walk1
   refine sdsub ‹_› ‹_› hDd (by rw [hlb];rfl) ?_
   (intro _ hq _ _;have _:=Same.trans ‹_› hq;clear hq)
   refine meth_set ‹_› hSe PySem.F.slot_set_difference PySem.F.type_set_difference ?_
   iterate 2 walk1
   first | refine xN ?_ | walk1
   walk1
   have hSel : Se.length ≤ 1:=by
    match Se,hSe.nd,hSe2 with
    | [],_,_ => exact Nat.zero_le _
    | [_],_,_ => exact Nat.le_refl _
    | u :: v :: r,nd,h2 =>
     have:=hone ky u v ((h2 u).mp (by simp)) ((h2 v).mp (by simp))
     subst this
     simp at nd
   refine sdiff (k1d _ _) (k1r _ _) (tup_loud _) (C.r1 (by decide)) ‹_› ‹_› hSe hS₄ (by lia) (by lia) fun s₅ nb R ob hnb q₅ F₅ O₅ hR hR2 hcls => ?_
   have qq₅:=Same.trans ‹_› q₅
   have e5 : Ext (upd σ₂ l (listOf vs'.toArray n₄)) (upd (upd σ₂ l (listOf vs'.toArray n₄)) nb ob):=Ext.upd hnb
   have hal : a ≠ nb:=by
    refine xe32 hS₄.obj fun _ _ _ z _ => ?_
    exact ne_of_none hnb z
   have hlnb : l ≠ nb:=ne_of_none hnb (upd_self ..)
   refine xS ?_;intros
   refine xH ?_;intro _ _
   iterate 2 walk1
   first | refine xN ?_ | walk1
   refine lmeth ‹_› (e5 _ _ (upd_self ..)) PySem.F.slot_list_extend PySem.F.type_list_extend ?_
   iterate 3 walk1
   first | refine xN ?_ | walk1
   iterate 2 walk1
   first | refine xN ?_ | walk1
   walk1
   refine slist C.hh ‹_› ‹_› hR fun s₆ l2 R₂ acc2 c₂' hl2 q₆ F₆ O₆ p₆ a₆ => ?_
   have qq₆:=Same.trans ‹_› q₆
   have e6:=Ext.upd (o:=lstObj acc2 c₂') hl2
   walk1
   have hll2 : l ≠ l2:=ne_of_none hl2 (e5 _ _ (upd_self ..))
   have hal2 : a ≠ l2:=by
    refine xe32 hS₄.obj fun _ _ _ z _ => ?_
    exact ne_of_none hl2 (e5 _ _ z)
   have hnl2 : nb ≠ l2:=ne_of_none hl2 (upd_self ..)
   have hRl : R.length ≤ 1:=by
    have : R.length ≤ Se.length:=nodup_sub hR.nd fun k hk => ((hR2 k).mp hk).1
    lia
   have hacc : acc2.toList.length = R.length:=by rw [← a₆.length,p₆.length_eq]
   refine lextend ‹_› ‹_› (e6 _ _ (e5 _ _ (upd_self ..))) (ws:=acc2.toList) (n2:=c₂') (by rw [upd_self,Array.toArray_toList]) (by lia) fun s₇ n₇ q₇ F₇ O₇ => ?_
   have qq₇:=Same.trans ‹_› q₇
   refine xH ?_;intro _ _
   walk1
   walk1
   first | refine xN ?_ | walk1
   have tx7 : TX (upd (upd (upd σ₂ l (listOf vs'.toArray n₄)) nb ob) l2 (lstObj acc2 c₂')) (upd (upd (upd (upd σ₂ l (listOf vs'.toArray n₄)) nb ob) l2 (lstObj acc2 c₂')) l (listOf (vs' ++ acc2.toList).toArray n₇)):=upd_tx (e6 _ _ (e5 _ _ (upd_self ..))) (by simp)
   have tx57:=(e5.tx.trans e6.tx).trans tx7
   have S7:=(hS₄.move (e5.tx.trans e6.tx) fun o e => e6 _ _ (e5 _ _ e)).move tx7 fun o e => by rw [upd_ne (Ne.symm hla)];exact e
   have R7:=(hR.move e6.tx fun o e => e6 _ _ e).move tx7 fun o e => by rw [upd_ne (Ne.symm hlnb)];exact e
   refine meth_set ‹_› S7 PySem.F.slot_set_update PySem.F.type_set_update ?_
   walk1
   walk1
   first | refine xN ?_ | walk1
   walk1
   have hdis : (S₂ ++ R).Nodup:=List.nodup_append.mpr ⟨hS₂.nd,hR.nd,fun u hu v hv e => by subst e;exact ((hR2 u).mp hv).2 hu⟩
   refine supdate (k1d _ _) (k1r _ _) (tup_loud _) (C.r1 (by decide)) hal ‹_› ‹_› S7 R7 (by lia) fun s₈ S₈ ob₈ q₈ F₈ O₈ hS₈ hm₈ hcls₈ => ?_
   have qq₈:=Same.trans ‹_› q₈
   walk1
   walk1
   have hU8 : ∀ k ∈ S₈,k ∈ N.U:=fun k hk => by
    rcases (hm₈ k).mp hk with z | z
    ·exact i5 k z
    exact hN.trU _ _ _ ((hSe2 k).mp ((hR2 k).mp z).1)
   have hl8 : S₂.length + R.length ≤ S₈.length:=by
    have:=nodup_sub hdis (U:=S₈) fun k hk => (hm₈ k).mpr (List.mem_append.mp hk)
    rwa [List.length_append] at this
   have hl8' : S₈.length ≤ 60:=Nat.le_trans (nodup_sub hS₈.nd hU8) hN.bU
   have p6l : R₂.length = R.length:=p₆.length_eq
   have tx8 : TX (upd (upd (upd (upd σ₂ l (listOf vs'.toArray n₄)) nb ob) l2 (lstObj acc2 c₂')) l (listOf (vs' ++ acc2.toList).toArray n₇)) (upd (upd (upd (upd (upd σ₂ l (listOf vs'.toArray n₄)) nb ob) l2 (lstObj acc2 c₂')) l (listOf (vs' ++ acc2.toList).toArray n₇)) a ob₈):=by
    refine xe32 S7.obj fun _ _ _ z _ => ?_
    exact upd_tx z (by simp)
   have cell : ∀ b o,b ≠ a → b ≠ l → σ₂ b = some o → (upd (upd (upd (upd (upd σ₂ l (listOf vs'.toArray n₄)) nb ob) l2 (lstObj acc2 c₂')) l (listOf (vs' ++ acc2.toList).toArray n₇)) a ob₈) b = some o:=fun b o h1 h2 e => by
    have h3 : upd σ₂ l (listOf vs'.toArray n₄) b = some o:=by rw [upd_ne h2];exact e
    have h4:=e6 _ _ (e5 _ _ h3)
    rw [upd_ne h1,upd_ne h2];exact h4
   refine ⟨2 * (60 - S₈.length) + (fr' ++ R₂).length,by simp at hn ⊢;exact xs101 hn ‹_› ‹_› ‹_›,_,_,S₈,fr' ++ R₂,vs' ++ acc2.toList,n₇,by assumption,F₈,O₈,?_,?_,?_,?_,?_,hS₈,?_,?_,fun k hk => (hm₈ k).mpr (.inl (i1 k hk)),fun k hk => ?_,fun k hk => ?_,fun k hk => ?_,hU8,by simp at i6 ⊢;lia,rfl⟩
   ·exact m1
   ·exact m2
   ·exact m3
   ·rw [upd_ne hla,upd_self]
   ·exact (hfr1.imp fun _ _ r => (k1 pg w).mono (tx4.trans (tx57.trans tx8)) r).append (a₆.imp fun _ _ r => (k1 pg w).mono ((e6.tx.trans tx7).trans tx8) r)
   ·intro b o e
    have h1 : b ≠ a:=fun z => by rw [z,ha] at e;cases e
    have h2 : b ≠ l:=fun z => by rw [z,hl0] at e;cases e
    exact cell b o h1 h2 (e2 _ _ e)
   ·intro b o hb e
    have h2 : b ≠ l:=ne_of_none hl e
    exact cell b o hb h2 (b2 b o hb e)
   ·rcases (hm₈ k).mp hk with z | z
    ·exact i2 k z
    exact .step (i2 ky (i3 ky (List.mem_append_right _ (.head _)))) ((hSe2 k).mp ((hR2 k).mp z).1)
   ·rcases List.mem_append.mp hk with z | z
    ·exact (hm₈ k).mpr (.inl (i3 k (List.mem_append_left _ z)))
    exact (hm₈ k).mpr (.inr (p₆.mem_iff.mp z))
   rcases (hm₈ k).mp hk with z | z
   ·rcases i4 k z with y' | y'
    ·rcases List.mem_append.mp y' with y' | y'
     ·exact .inl (List.mem_append_left _ y')
     simp only [List.mem_singleton] at y'
     subst y'
     refine .inr fun d hd => (hm₈ d).mpr ?_
     have hde:=(hSe2 d).mpr hd
     by_cases q : d ∈ S₂
     ·exact .inl q
     exact .inr ((hR2 d).mpr ⟨hde,q⟩)
    exact .inr fun d hd => (hm₈ d).mpr (.inl (y' d hd))
   exact .inl (List.mem_append_right _ (p₆.mem_iff.mpr z))
noncomputable def IsQ (w : World) (σ : Sg) (P : St → Prop) (v : Value) : Prop:=∃ q : List St,(k2 pg w).is σ q v ∧ q.Pairwise (fun a b => lexLt a b = true) ∧ ∀ k,k ∈ q ↔ P k
theorem clo_sub {w : World} {σ : Sg} {x : Addr} {N : Nfa} {c : NfaCells} (hN : NfaIs w σ x N c) {P : St → Prop} (hP : ∀ k,P k → k ∈ N.U) {k : St} (h : Clo N.tr P k) : k ∈ N.U:=by
 induction h with
 | base h => exact hP _ h
 | step _ h _ => exact hN.trU _ _ _ h
theorem clo_congr {tr : St → Str → St → Prop} {P P' : St → Prop} (h : ∀ k,P k ↔ P' k) (k : St) : Clo tr P k ↔ Clo tr P' k:=by
 have : P = P':=funext fun k => propext (h k)
 rw [this]
theorem ext_but {σ0 σ σ' : Sg} {a : Addr} (e : Ext σ0 σ) (ha : σ0 a = none) (b : ExtBut a σ σ') : Ext σ0 σ':=fun c o q => b c o (fun z => by rw [z,ha] at q;cases q) (e c o q)
theorem startN (w : World) (σ : Sg) (x : Addr) (N : Nfa) (c : NfaCells) (hN : NfaIs w σ x N c) (hone : ∀ k d d',N.tr k eps d → N.tr k eps d' → d = d') :
  Spec w 170 4 [.ref x] [] σ (fun v σ' => Ext σ σ' ∧ IsQ w σ' (Clo N.tr (· = N.ini)) v):=by
 refine' spec_of (binds:=[(Str.ofString "self",.ref x)]) ?ho ?hcd ?hb ?hl ?c1 ?c2 ?c3 ?c4 ?_;((case ho => k_is);(case hcd => k_is);(case hb => (first | (intro _ _;exact BindsTo.of_eq rfl) | (intro _ Xh;exact binds_K Xh rfl (by k_is) rfl rfl rfl)));(case hl => exact locs rfl);(case c1 => exact rfl);(case c2 => exact rfl);(case c3 => exact rfl);(case c4 => decide))
 intro A g L ι s C F O env R;have X:=C.X;refine xe31 C.T fun mean mg mb T => ?_;have S0:=Same.refl s
 have I:=hN.inst
 refine xH ?_;intro _ _
 iterate 2 walk1
 first | refine xN ?_ | walk1
 iterate 3 walk1
 first | refine xN ?_ | walk1
 iterate 3 walk1
 first | refine xN ?_ | walk1
 refine imeth ‹_› ‹_› ‹_› ‹_› (by k_is) (by k_is) (by k_is) (by first | assumption | rfl) ?_
 iterate 3 walk1
 first | refine xN ?_ | walk1
 iterate 5 walk1
 first | refine xN ?_ | walk1
 (refine iget ‹_› ‹_› ‹_› ‹_› (by k_is) (by k_is) (by k_is) (by k_is) (by first | assumption | rfl) (by rfl) (quietly ‹_› ‹_› ?_);intro _ hq _ _;have _:=Same.trans ‹_› hq;clear hq)
 walk1
 refine znewList ‹_› ‹_› (by simp) fun s₁ l hl q₁ F₁ O₁ => ?_
 have qq₁:=Same.trans ‹_› q₁
 have e1:=Ext.upd (o:=listOf [Value.ref c.iv].toArray 0) hl
 walk1
 refine sfrom1 (k:=N.ini) C.hh (k1d _ _) (k1r _ _) (C.r1 (by decide)) ‹_› ‹_› (upd_self ..) ((k1 pg w).mono e1.tx hN.ini) fun s₂ b ob hb q₂ F₂ O₂ hS₂ => ?_
 have qq₂:=Same.trans ‹_› q₂
 have e2:=e1.trans (Ext.upd (o:=ob) hb)
 have hb0 : σ b = none:=by
  cases q : σ b with
  | none => rfl
  | some o => rw [e1 _ _ q] at hb;cases hb
 walk1
 refine ⟨X.keeps F₂.keep,?_⟩
 refine (expandN w _ σ x b N c hN e2 hb0 [N.ini] hS₂ (fun k hk => by simp at hk;subst hk;exact hN.iniU) hone).call C ‹_› ‹_› fun v σ₃ s₃ q₃ F₃ O₃ hP => ?_
 have qq₃:=Same.trans ‹_› q₃
 refine xe03 hP fun zq24 b3 zq25 => ?_
 try clear hP
 subst zq24
 refine xe12 zq25 fun S₃ hS₃ hm₃ => ?_
 try clear zq25
 have e3:=ext_but e2 hb0 b3
 have hU : ∀ k ∈ S₃,k ∈ N.U:=fun k hk => clo_sub hN (fun k hk => by simp at hk;subst hk;exact hN.iniU) ((hm₃ k).mp hk)
 have hl3 : S₃.length ≤ 60:=Nat.le_trans (nodup_sub hS₃.nd hU) hN.bU
 walk1
 refine ssorted C.hh ‹_› ‹_› hS₃ (fun k hk => hN.neU k (hU k hk)) (by lia) fun s₄ D S₄ vs cc hD q₄ F₄ O₄ p₄ w₄ a₄ => ?_
 have qq₄:=Same.trans ‹_› q₄
 have e4:=e3.trans (Ext.upd (o:=listOf vs.toArray cc) hD)
 have hvl : vs.length ≤ 60:=by rw [← a₄.length,p₄.length_eq];exact hl3
 walk1
 refine stuple ‹_› ‹_› (upd_self ..) (by lia) fun s₅ t ht q₅ F₅ O₅ => ?_
 have qq₅:=Same.trans ‹_› q₅
 have e5:=e4.trans (Ext.upd (o:=tupOf vs 0) ht)
 (show Ends _ _ _ _ _ _ _;refine Ends.mk' ‹_› ‹_› ‹_› ?_)
 refine ⟨e5,S₄,⟨t,_,_,rfl,upd_self ..,?_⟩,w₄,fun k => ?_⟩
 ·exact a₄.imp fun _ _ r => (k1 pg w).mono ((Ext.upd (o:=listOf vs.toArray cc) hD).trans (Ext.upd (o:=tupOf vs 0) ht)).tx r
 rw [p₄.mem_iff,hm₃]
 exact clo_congr (fun k => by simp) k
theorem NfaIs.put {w : World} {σ σ₅ : Sg} {x d a : Addr} {N : Nfa} {c : NfaCells} (hN : NfaIs w σ x N c) {src dst : St} {l : Str} (hin : c.inner src = some d) (tx : TX σ σ₅) (keep : ∀ b o,b ≠ d → b ≠ a → σ b = some o → σ₅ b = some o)
  (hD : DS pg w σ₅ d (fun l' => (if l' = l then some a else c.lab src l').map Value.ref)) (hS : ∃ S',SetIn (k1 pg w) σ₅ a S' ∧ ∀ e,e ∈ S' ↔ N.tr src l e ∨ e = dst)
  (hA : c.lab src l = some a ∨ (σ a = none ∧ c.lab src l = none)) (sU : src ∈ N.U) (dU : dst ∈ N.U) (lU : l ∈ N.LU) :
  NfaAt w σ₅ x { N with tr:=fun p q r => N.tr p q r ∨ (p = src ∧ q = l ∧ r = dst) }:=by
 have hset : ∀ b o,σ b = some o → o.cls ≠ .type "set" → b ≠ a:=fun b o e h z => by
  subst z
  rcases hA with h1 | zq3
  ·refine xe12 (hN.lab _ _ _ h1) fun S s1 _ => ?_
   refine xe32 s1.obj fun _ _ _ z _ => ?_
   rw [z] at e;cases e;exact h rfl
  refine xe02 zq3 fun h1 _ => ?_
  try clear zq3
  rw [h1] at e;cases e
 have hdic : ∀ b o,σ b = some o → o.cls ≠ .type "dict" → b ≠ d:=fun b o e h z => by
  subst z
  refine xe13 ((hN.inn _ _ hin).cell) fun o' z1 z2 _ => ?_
  rw [z1] at e;cases e;exact h z2
 have setk : ∀ {b : Addr} {S : List St},SetIn (k1 pg w) σ b S → b ≠ a → SetIn (k1 pg w) σ₅ b S:=fun hS h => hS.move tx fun o e => by
  refine xe32 hS.obj fun _ _ _ z _ => ?_
  exact keep _ _ (hdic _ _ z (by simp)) h e
 have da : d ≠ a:=by
  refine xe13 ((hN.inn _ _ hin).cell) fun o' z1 z2 _ => ?_
  exact hset _ _ z1 (by rw [z2];simp)
 have Da : c.D ≠ a:=by
  refine xe13 hN.tr.cell fun o' z1 z2 _ => ?_
  exact hset _ _ z1 (by rw [z2];simp)
 have laba : ∀ k l' b,¬ (k = src ∧ l' = l) → c.lab k l' = some b → b ≠ a:=fun k l' b h e z => by
  subst z
  rcases hA with h1 | zq4
  ·exact h (hN.inj2 _ _ _ _ _ e h1)
  refine xe02 zq4 fun h1 _ => ?_
  try clear zq4
  refine xe12 (hN.lab _ _ _ e) fun S s1 _ => ?_
  refine xe32 s1.obj fun _ _ _ z _ => ?_
  rw [h1] at z;cases z
 have Faa : c.Fa ≠ a:=fun z => by
  refine xe12 hN.fin fun S s1 _ => ?_
  refine xe32 s1.obj fun _ _ _ z1 _ => ?_
  rcases hA with h1 | zq5
  ·exact hN.finl _ _ (z ▸ h1)
  refine xe02 zq5 fun h1 _ => ?_
  try clear zq5
  rw [z,h1] at z1;cases z1
 refine xe12 hS fun S' hS' hm => ?_
 try clear hS
 refine ⟨{ c with lab:=fun k l' => if k = src ∧ l' = l then some a else c.lab k l' },?_⟩
 exact { hN with
  inst:=⟨keep _ _ (hdic _ _ hN.inst.obj (by show Value.ref 236 ≠ _;simp)) (hset _ _ hN.inst.obj (by show Value.ref 236 ≠ _;simp)) hN.inst.obj,keep _ _ (fun z => hN.dI src (by rw [hin,z])) (hset _ _ hN.inst.dict (by simp)) hN.inst.dict⟩
  tr:=hN.tr.move tx fun o e => keep _ _ (fun z => hN.DI src (by rw [hin,← z])) Da e
  inn:=fun k d' h => by
   by_cases hk : k = src
   ·subst hk
    have : d' = d:=by
     have h' : c.inner k = some d':=h
     rw [hin] at h';cases h';rfl
    subst this
    have e : (fun l' => (if k = k ∧ l' = l then some a else c.lab k l').map Value.ref) = fun l' => (if l' = l then some a else c.lab k l').map Value.ref:=by funext l';simp
    rw [e];exact hD
   have e : (fun l' => (if k = src ∧ l' = l then some a else c.lab k l').map Value.ref) = fun l' => (c.lab k l').map Value.ref:=by funext l';simp [hk]
   rw [e]
   refine xe13 ((hN.inn _ _ h).cell) fun o' z1 z2 _ => ?_
   exact (hN.inn _ _ h).move fun o e => keep _ _ (fun z => hk (hN.inj1 _ _ _ (z ▸ h) hin)) (hset _ _ z1 (by rw [z2];simp)) e
  lab:=fun k l' b h => by
   by_cases hk : k = src ∧ l' = l
   ·refine xe02 hk fun zq1 zq2 => ?_
    try clear hk
    subst zq1
    subst zq2
    simp only [and_self,if_true] at h
    cases h
    exact ⟨S',hS',fun e => by rw [hm];simp⟩
   simp only [hk,if_false] at h
   refine xe12 (hN.lab _ _ _ h) fun S s1 s2 => ?_
   refine ⟨S,setk s1 (laba _ _ _ hk h),fun e => ?_⟩
   rw [s2]
   exact ⟨.inl,fun h => h.elim id fun zm1 => xe03 zm1 fun a1 a2 _ => absurd ⟨a1,a2⟩ hk⟩
  has:=fun k l' e h => by
   by_cases hk : k = src ∧ l' = l
   ·exact ⟨a,by simp [hk]⟩
   rcases h with h | zq6
   ·refine xe11 (hN.has _ _ _ h) fun b hb => ?_
    exact ⟨b,by simp only [hk,if_false];exact hb⟩
   refine xe03 zq6 fun a1 a2 _ => ?_
   try clear zq6
   exact absurd ⟨a1,a2⟩ hk
  ne:=fun k l' b h => by
   by_cases hk : k = src ∧ l' = l
   ·exact ⟨dst,.inr ⟨hk.1,hk.2,rfl⟩⟩
   simp only [hk,if_false] at h
   refine xe11 (hN.ne _ _ _ h) fun e he => ?_
   exact ⟨e,.inl he⟩
  lin:=fun k l' b h => by
   by_cases hk : k = src ∧ l' = l
   ·exact ⟨d,by rw [hk.1];exact hin⟩
   simp only [hk,if_false] at h
   exact hN.lin _ _ _ h
  inj2:=fun k l₁ k' l₂ b h h' => by
   by_cases hk : k = src ∧ l₁ = l <;> by_cases hk' : k' = src ∧ l₂ = l
   ·exact ⟨hk.1.trans hk'.1.symm,hk.2.trans hk'.2.symm⟩
   ·simp only [hk,and_self,if_true] at h;simp only [hk',if_false] at h'
    cases h;exact absurd rfl (laba _ _ _ hk' h')
   ·simp only [hk',and_self,if_true] at h';simp only [hk,if_false] at h
    cases h';exact absurd rfl (laba _ _ _ hk h)
   simp only [hk,if_false] at h;simp only [hk',if_false] at h'
   exact hN.inj2 _ _ _ _ _ h h'
  fin:=xe12 (hN.fin) fun S s1 s2 => ⟨S,setk s1 Faa,s2⟩
  finl:=fun k l' h => by
   by_cases hk : k = src ∧ l' = l
   ·simp only [hk,and_self,if_true] at h
    exact Faa (Option.some.inj h).symm
   simp only [hk,if_false] at h
   exact hN.finl _ _ h
  ini:=(k1 pg w).mono tx hN.ini
  trU:=fun k l' e h => h.elim (hN.trU _ _ _) fun h => h.2.2 ▸ dU
  labU:=fun k l' b h => by
   by_cases hk : k = src ∧ l' = l
   ·rw [hk.2];exact lU
   simp only [hk,if_false] at h
   exact hN.labU _ _ _ h }
inductive AddM (w : World) (ι : Sd) (g : Heap) (L : Addr) (s : Shared) (m : Str → Option Value) (σ : Sg) (x : Addr) (N : Nfa) (src : St) (v : Value) (s' : Shared) : Prop
 | ofx (σ') (c') (d) (h1 : v = .ref d) (h2 : Same s s') (h3 : Fr g L s'.heap m) (h4 : Own ι g L s'.heap σ') (h5 : TX σ σ') (h6 : NfaIs w σ' x N c') (h7 : c'.inner src = some d)
inductive AddM2 (w : World) (ι : Sd) (g : Heap) (L : Addr) (s : Shared) (m : Str → Option Value) (σ : Sg) (x : Addr) (N : Nfa) (src dst : St) (l : Str) (v : Value) (s' : Shared) : Prop
 | ofx (σ') (a) (S) (h1 : v = .ref a) (h2 : Same s s') (h3 : Fr g L s'.heap m) (h4 : Own ι g L s'.heap σ') (h5 : TX σ σ') (h6 : SetIn (k1 pg w) σ' a S) (h7 : S.length ≤ 60) (h8 : ∀ o S',SetIn (k1 pg w) (upd σ' a o) a S' → (∀ k,k ∈ S' ↔ k ∈ S ∨ k = dst) → NfaAt w (upd σ' a o) x { N with tr:=fun p q r => N.tr p q r ∨ (p = src ∧ q = l ∧ r = dst) })
theorem addTrN (w : World) (σ : Sg) (x sa da : Addr) (N : Nfa) (c : NfaCells) (hN : NfaIs w σ x N c) (src dst : St) (l : Str) (tk : Tok) (hs : (k1 pg w).is σ src (.ref sa)) (hd : (k1 pg w).is σ dst (.ref da)) (sU : src ∈ N.U) (dU : dst ∈ N.U) (lU : l ∈ N.LU) :
  Spec w 177 3 [.ref x,.ref sa,.str l tk,.ref da] [] σ (fun v σ' => v = .none ∧ TX σ σ' ∧ NfaAt w σ' x { N with tr:=fun a b d => N.tr a b d ∨ (a = src ∧ b = l ∧ d = dst) }):=by
 refine' spec_of (binds:=[(Str.ofString "self",.ref x),(Str.ofString "src",.ref sa),(Str.ofString "label",.str l tk),(Str.ofString "dest",.ref da)]) ?ho ?hcd ?hb ?hl ?c1 ?c2 ?c3 ?c4 ?_;((case ho => k_is);(case hcd => k_is);(case hb => (first | (intro _ _;exact BindsTo.of_eq rfl) | (intro _ Xh;exact binds_K Xh rfl (by k_is) rfl rfl rfl)));(case hl => exact locs rfl);(case c1 => exact rfl);(case c2 => exact rfl);(case c3 => exact rfl);(case c4 => decide))
 intro A g L ι s C F O env R;have X:=C.X;refine xe31 C.T fun mean mg mb T => ?_;have S0:=Same.refl s
 have hb:=modules_low T.nolimit
 have I:=hN.inst
 refine xH ?_;intro _ _
 iterate 5 walk1
 first | refine xN ?_ | walk1
 (refine iget ‹_› ‹_› ‹_› ‹_› (by k_is) (by k_is) (by k_is) (by k_is) (by first | assumption | rfl) (by rfl) (quietly ‹_› ‹_› ?_);intro _ hq _ _;have _:=Same.trans ‹_› hq;clear hq)
 refine dmeth ‹_› hN.tr PySem.F.slot_dict_setdefault PySem.F.type_dict_setdefault ?_
 iterate 2 walk1
 first | refine xN ?_ | walk1
 walk1
 refine wpAny_Dict_empty ?_
 rename_i s1 F1 O1 q1
 refine xe04 (snew F1 O1 hb pg w rfl) fun hn0 F₁ O₁ D₁ => ?_
 generalize s1.heap.objs.size = d0 at hn0 F₁ O₁ D₁ ⊢
 have qq₁ : Same s { s1 with heap:=s1.heap.push { cls:=.type "dict",data:=.dict #[] } }:=⟨q1.1,q1.2⟩
 have e1:=Ext.upd (o:={ cls:=.type "dict",data:=.dict #[] }) hn0
 have hN₁:=hN.move e1
 walk1
 have hUi : ∃ U : List St,U.length ≤ 5000 ∧ ∀ k,(fun k => (c.inner k).map Value.ref) k ≠ none → k ∈ U:=⟨N.U,Nat.le_trans hN.bU (by decide),fun k hk => by
  cases q : c.inner k with
  | none => simp [q] at hk
  | some d => exact hN.innU k d q⟩
 refine wpAny_mono (Q:=AddM w ι g L s (fun y => List.lookup y [(Str.ofString "self",Value.ref x),(Str.ofString "src",.ref sa),(Str.ofString "label",.str l tk),(Str.ofString "dest",.ref da)].reverse) σ x N src) (E:=fun _ _ => False) (dsetdef (k1d _ _) (k1r _ _) (C.r1 (by decide)) F₁ O₁ hN₁.tr ((k1 pg w).mono e1.tx hs) hUi (fun s₂ u q₂ hu => ?_) (fun s₂ o hnone q₂ F₂ O₂ hD₂ hc₂ => ?_)) (fun v s₂ h => ?_) fun _ _ e => e
 ·cases q : c.inner src with
  | none => simp [q] at hu
  | some d =>
   simp [q] at hu
   exact ⟨_,c,d,hu.symm,Same.trans qq₁ q₂.1,by rw [q₂.2];exact F₁,by rw [q₂.2];exact O₁,e1.tx,hN₁,q⟩
 ·have hin : c.inner src = none:=by
   cases q : c.inner src with
   | none => rfl
   | some d => simp [q] at hnone
  have ne : ∀ b ob,b ≠ c.D → (upd σ d0 { cls:=.type "dict",data:=.dict #[] }) b = some ob → (upd (upd σ d0 { cls:=.type "dict",data:=.dict #[] }) c.D o) b = some ob:=fun b ob h e => by rw [upd_ne h];exact e
  have tx2 : TX (upd σ d0 { cls:=.type "dict",data:=.dict #[] }) (upd (upd σ d0 { cls:=.type "dict",data:=.dict #[] }) c.D o):=by
   refine xe13 hN₁.tr.cell fun _ z zc _ => ?_
   exact upd_tx z (by rw [zc];simp)
  have setne : ∀ {a : Addr} {S : List St},SetIn (k1 pg w) (upd σ d0 { cls:=.type "dict",data:=.dict #[] }) a S → a ≠ c.D:=fun hS z => by
   refine xe13 hN₁.tr.cell fun _ z1 zc _ => ?_
   refine xe32 hS.obj fun _ _ _ z2 _ => ?_
   rw [z,z1] at z2
   have:=congrArg Obj.cls (Option.some.inj z2)
   rw [zc] at this
   simp at this
  have xD : x ≠ c.D:=fun z => by
   refine xe13 hN₁.tr.cell fun _ z1 zc _ => ?_
   have z2:=hN₁.inst.obj
   rw [z,z1] at z2
   have:=congrArg Obj.cls (Option.some.inj z2)
   rw [zc] at this
   cases this
  have dD0 : d0 ≠ c.D:=fun z => by
   refine xe12 hN.tr.cell fun _ z1 _ => ?_
   rw [← z,hn0] at z1;cases z1
  refine ⟨_,{ c with inner:=fun k => if k = src then some d0 else c.inner k },d0,rfl,Same.trans qq₁ q₂,F₂,O₂,e1.tx.trans tx2,?_,by simp⟩
  have hD₂' : DH (k1 pg w) (upd (upd σ d0 { cls:=.type "dict",data:=.dict #[] }) c.D o) c.D (fun k => (if k = src then some d0 else c.inner k).map Value.ref):=by
   have : (fun k => (if k = src then some d0 else c.inner k).map Value.ref) = mapSet (fun k => (c.inner k).map Value.ref) src (.ref d0):=by
    funext k;unfold mapSet;split <;> rfl
   rw [this];exact hD₂
  have hlab0 : ∀ l,c.lab src l = none:=fun l => by
   cases q : c.lab src l with
   | none => rfl
   | some a => refine xe11 (hN.lin _ _ _ q) fun d hd => ?_;rw [hin] at hd;cases hd
  have dcell : ∀ k d,c.inner k = some d → d ≠ d0:=fun k d h z => by
   refine xe12 ((hN.inn k d h).cell) fun _ z1 _ => ?_
   rw [z,hn0] at z1;cases z1
  exact { hN₁ with
   inst:=⟨ne _ _ xD hN₁.inst.obj,ne _ _ hN.dD hN₁.inst.dict⟩
   tr:=hD₂'
   inn:=fun k d h => by
    by_cases hk : k = src
    ·subst hk
     simp at h;subst h
     have:=D₁.move (σ':=upd (upd σ d0 { cls:=.type "dict",data:=.dict #[] }) c.D o) fun ob e => ne _ _ dD0 e
     have e : (fun l => (c.lab k l).map Value.ref) = fun _ => none:=by funext l;rw [hlab0];rfl
     rw [e];exact this
    simp [hk] at h
    exact (hN₁.inn k d h).move fun ob e => ne _ _ (fun z => hN.DI k (by rw [← z];exact h)) e
   lab:=fun k l a h => xe12 (hN₁.lab k l a h) fun S s1 s2 => ⟨S,s1.move tx2 fun ob e => ne _ _ (setne s1) e,s2⟩
   lin:=fun k l a h => by
    refine xe11 (hN.lin k l a h) fun d hd => ?_
    by_cases hk : k = src
    ·exact ⟨d0,by simp [hk]⟩
    exact ⟨d,by simp [hk,hd]⟩
   inj1:=fun k k' d h h' => by
    by_cases hk : k = src <;> by_cases hk' : k' = src
    ·rw [hk,hk']
    ·simp [hk] at h;simp [hk'] at h';exact absurd h.symm (dcell _ _ h')
    ·simp [hk] at h;simp [hk'] at h';exact absurd h'.symm (dcell _ _ h)
    simp [hk] at h;simp [hk'] at h';exact hN.inj1 _ _ _ h h'
   fin:=xe12 (hN₁.fin) fun S s1 s2 => ⟨S,s1.move tx2 fun ob e => ne _ _ (setne s1) e,s2⟩
   ini:=(k1 pg w).mono tx2 hN₁.ini
   dI:=fun k h => by
    by_cases hk : k = src
    ·simp [hk] at h
     have:=hN.inst.dict
     rw [← h,hn0] at this;cases this
    simp [hk] at h;exact hN.dI k h
   DI:=fun k h => by
    by_cases hk : k = src
    ·simp [hk] at h;exact dD0 h
    simp [hk] at h;exact hN.DI k h
   innU:=fun k d h => by
    by_cases hk : k = src
    ·rw [hk];exact sU
    simp [hk] at h;exact hN.innU k d h }
 refine holdP ?_;intro G;rcases h with ⟨σ',c',d,rfl,q',F',O',tx',hN',hin'⟩;unfold G;clear G
 have hDd:=hN'.inn _ _ hin'
 refine sdmeth O' hDd PySem.F.slot_dict_setdefault PySem.F.type_dict_setdefault ?_
 iterate 2 walk1
 first | refine xN ?_ | walk1
 iterate 2 walk1
 first | refine xN ?_ | walk1
 walk1
 refine snew0 ‹_› ‹_› fun s₃ nb hnb q₃ F₃ O₃ => ?_
 have qq₃:=Same.trans ‹_› q₃
 walk1
 have e₃:=Ext.upd (o:=set0 w) hnb
 have hN₃:=hN'.move e₃
 have hD₃:=hN₃.inn _ _ hin'
 have hUl : ∃ U : List Str,U.length ≤ 5000 ∧ ∀ k,(fun l => (c'.lab src l).map Value.ref) k ≠ none → k ∈ U:=⟨N.LU,Nat.le_trans hN.bL (by decide),fun k hk => by
  cases q : c'.lab src k with
  | none => simp [q] at hk
  | some a => exact hN'.labU _ _ _ q⟩
 have dnb : d ≠ nb:=by
  refine xe12 hDd.cell fun _ z1 _ => ?_
  exact ne_of_none hnb z1
 refine wpAny_mono (Q:=AddM2 w ι g L s (fun y => List.lookup y [(Str.ofString "self",Value.ref x),(Str.ofString "src",.ref sa),(Str.ofString "label",.str l tk),(Str.ofString "dest",.ref da)].reverse) σ x N src dst l) (E:=fun _ _ => False) (sdsetdef F₃ O₃ hD₃ hUl (fun s₄ u q₄ hu => ?_) (fun s₄ o hnone q₄ F₄ O₄ hD₄ hc₄ => ?_)) (fun v s₄ h => ?_) fun _ _ e => e
 ·cases q : c'.lab src l with
  | none => simp [q] at hu
  | some a =>
   simp [q] at hu
   refine xe12 (hN₃.lab _ _ _ q) fun S s1 s2 => ?_
   have hSl : S.length ≤ 60:=Nat.le_trans (nodup_sub s1.nd fun e he => hN.trU _ _ _ ((s2 e).mp he)) hN.bU
   refine ⟨_,a,S,hu.symm,Same.trans ‹_› q₄.1,by rw [q₄.2];exact F₃,by rw [q₄.2];exact O₃,tx'.trans e₃.tx,s1,hSl,fun o S' hS' hm => ?_⟩
   refine xe32 s1.obj fun _ _ _ z _ => ?_
   have da : d ≠ a:=fun zz => by
    refine xe13 hD₃.cell fun _ z1 z2 _ => ?_
    rw [zz,z] at z1;cases z1;simp at z2
   refine hN₃.put hin' (upd_tx z (by simp)) (fun b o _ h e => by rw [upd_ne h];exact e) ?_ ⟨S',hS',fun e => by rw [hm,s2]⟩ (.inl q) sU dU lU
   have e : (fun l' => (if l' = l then some a else c'.lab src l').map Value.ref) = fun l' => (c'.lab src l').map Value.ref:=by
    funext l'
    by_cases hl : l' = l
    ·subst hl;simp [q]
    simp [hl]
   rw [e]
   exact hD₃.move fun o e => by rw [upd_ne da];exact e
 ·have hin2 : c'.lab src l = none:=by
   cases q : c'.lab src l with
   | none => rfl
   | some d => simp [q] at hnone
  have S0:=(set0_in (w:=w) (k1 pg w) (σ:=σ') (b:=nb)).move (g':=upd (upd σ' nb (set0 w)) d o) (by
   refine xe13 hD₃.cell fun _ z1 z2 _ => ?_
   exact upd_tx z1 (by rw [z2];simp)) fun o e => by rw [upd_ne (Ne.symm dnb)];exact e
  have tx4 : TX σ' (upd (upd σ' nb (set0 w)) d o):=e₃.tx.trans (by
   refine xe13 hD₃.cell fun _ z1 z2 _ => ?_
   exact upd_tx z1 (by rw [z2];simp))
  refine ⟨_,nb,[],rfl,Same.trans ‹_› q₄,F₄,O₄,tx'.trans tx4,S0,by simp,fun o' S' hS' hm => ?_⟩
  have tx5 : TX σ' (upd (upd (upd σ' nb (set0 w)) d o) nb o'):=tx4.trans (by
   refine xe32 S0.obj fun _ _ _ z _ => ?_
   exact upd_tx z (by simp))
  refine hN'.put hin' tx5 (fun b ob h1 h2 e => by rw [upd_ne h2,upd_ne h1,upd_ne h2];exact e) ?_ ⟨S',hS',fun e => ?_⟩ (.inr ⟨hnb,hin2⟩) sU dU lU
  ·have e : (fun l' => (if l' = l then some nb else c'.lab src l').map Value.ref) = smapSet (fun l => (c'.lab src l).map Value.ref) l (.ref nb):=by
    funext l';unfold smapSet;split <;> rfl
   rw [e]
   exact hD₄.move fun o e => by rw [upd_ne dnb];exact e
  rw [hm]
  refine ⟨fun h => h.elim (fun h => nomatch h) .inr,fun h => h.elim (fun h => ?_) .inr⟩
  refine xe11 (hN'.has _ _ _ h) fun a ha => ?_
  rw [hin2] at ha;cases ha
 refine holdP ?_;intro G;rcases h with ⟨σ₄,a,S,rfl,q₄,F₄,O₄,tx₄,hS₄,hSl,hput⟩;unfold G;clear G
 refine meth_set ‹_› hS₄ PySem.F.slot_set_add PySem.F.type_set_add ?_
 iterate 2 walk1
 first | refine xN ?_ | walk1
 walk1
 refine sadd (k1d _ _) (k1r _ _) (C.r1 (by decide)) F₄ O₄ hS₄ ((k1 pg w).mono tx₄ hd) (by lia) fun s₅ S' o q₅ F₅ O₅ hS₅ hm₅ hc₅ => ?_
 have qq₅:=Same.trans q₄ q₅
 walk1
 (show Ends _ _ _ _ _ _ _;refine Ends.mk' ‹_› ‹_› ‹_› ?_)
 refine ⟨rfl,tx₄.trans ?_,hput _ _ hS₅ hm₅⟩
 refine xe32 hS₄.obj fun _ _ _ z _ => ?_
 exact upd_tx z (by simp)
theorem Inst.set {σ : Sg} {x dx C : Addr} {es es' : List DictEntry} {n n' : Nat} (I : Inst σ x dx C es n) : Inst (upd σ dx (dictOf es' n')) x dx C es' n':=by
 have hne : x ≠ dx:=fun z => by
  have h1:=I.obj
  rw [z,I.dict] at h1
  have:=congrArg Obj.cls (Option.some.inj h1)
  cases this
 exact ⟨by rw [upd_ne hne];exact I.obj,upd_self ..⟩
theorem initN (w : World) (σ : Sg) (x dx iv : Addr) (n : Nat) (I : Inst σ x dx 236 [] n) (ini : St) (hi : (k1 pg w).is σ ini (.ref iv)) (U : List St) (LU : List Str) (bU : U.length ≤ 60) (bL : LU.length ≤ 60) (hU : ini ∈ U) (neU : ∀ k ∈ U,k ≠ []) :
  Spec w 163 3 [.ref x,.ref iv] [] σ (fun v σ' => v = .none ∧ NfaAt w σ' x ⟨fun _ _ _ => False,fun _ => False,ini,U,LU⟩):=by
 refine' spec_of (binds:=[(Str.ofString "self",.ref x),(Str.ofString "initial",.ref iv)]) ?ho ?hcd ?hb ?hl ?c1 ?c2 ?c3 ?c4 ?_;((case ho => k_is);(case hcd => k_is);(case hb => (first | (intro _ _;exact BindsTo.of_eq rfl) | (intro _ Xh;exact binds_K Xh rfl (by k_is) rfl rfl rfl)));(case hl => exact locs rfl);(case c1 => exact rfl);(case c2 => exact rfl);(case c3 => exact rfl);(case c4 => decide))
 intro A g L ι s C F O env R;have X:=C.X;refine xe31 C.T fun mean mg mb T => ?_;have S0:=Same.refl s
 have hb:=modules_low T.nolimit
 refine xH ?_;intro _ _
 walk1
 refine wpAny_Dict_empty ?_
 refine xe04 (dnew F O hb (k1 pg w) rfl) fun hn F₁ O₁ D₁ => ?_
 generalize s.heap.objs.size = D at hn F₁ O₁ D₁ ⊢
 have qq : Same s { s with heap:=s.heap.push { cls:=.type "dict",data:=.dict #[] } }:=⟨rfl,rfl⟩
 have e1:=Ext.upd (o:={ cls:=.type "dict",data:=.dict #[] }) hn
 have I₁:=I.move e1
 first | refine xN ?_ | walk1
 (refine iset ‹_› ‹_› ‹_› ‹_› (by k_is) (by k_is) (by k_is) (by k_is) (by first | rfl | decide) (by first | decide | (simp;done)) ?_;intro _ _ _ hq _ _;have _:=Same.trans ‹_› hq;clear hq)
 rename_i s2 h1 t1 F2 O2 q2
 have I₂:=I₁.set (es':=[⟨h1,.str (Str.ofString "transitions") t1,.ref D⟩]) (n':=putN (Str.ofString "transitions") [] n)
 refine xH ?_;intro _ _
 iterate 2 walk1
 first | refine xN ?_ | walk1
 walk1
 refine snew0 ‹_› ‹_› fun s₃ b hbn q₃ F₃ O₃ => ?_
 have qq₃:=Same.trans ‹_› q₃
 have e3:=Ext.upd (o:=set0 w) hbn
 have I₃:=I₂.move e3
 first | refine xN ?_ | walk1
 (refine iset ‹_› ‹_› ‹_› ‹_› (by k_is) (by k_is) (by k_is) (by k_is) (by first | rfl | decide) (by first | decide | (simp;done)) ?_;intro _ _ _ hq _ _;have _:=Same.trans ‹_› hq;clear hq)
 rename_i s4 h2 t2 F4 O4 q4
 have I₄:=I₃.set (es':=[⟨h1,.str (Str.ofString "transitions") t1,.ref D⟩,⟨h2,.str (Str.ofString "final_states") t2,.ref b⟩]) (n':=putN (Str.ofString "final_states") [⟨h1,.str (Str.ofString "transitions") t1,.ref D⟩] (putN (Str.ofString "transitions") [] n))
 refine xH ?_;intro _ _
 walk1
 first | refine xN ?_ | walk1
 first | refine xN ?_ | walk1
 (refine iset ‹_› ‹_› ‹_› ‹_› (by k_is) (by k_is) (by k_is) (by k_is) (by first | rfl | decide) (by first | decide | (simp;done)) ?_;intro _ _ _ hq _ _;have _:=Same.trans ‹_› hq;clear hq)
 rename_i s5 h3 t3 F5 O5 q5
 have I₅:=I₄.set (es':=[⟨h1,.str (Str.ofString "transitions") t1,.ref D⟩,⟨h2,.str (Str.ofString "final_states") t2,.ref b⟩,⟨h3,.str (Str.ofString "initial") t3,.ref iv⟩]) (n':=putN (Str.ofString "initial") [⟨h1,.str (Str.ofString "transitions") t1,.ref D⟩,⟨h2,.str (Str.ofString "final_states") t2,.ref b⟩] (putN (Str.ofString "final_states") [⟨h1,.str (Str.ofString "transitions") t1,.ref D⟩] (putN (Str.ofString "transitions") [] n)))
 walk1
 (show Ends _ _ _ _ _ _ _;refine Ends.mk' ‹_› ‹_› ‹_› ?_)
 have hDdx : D ≠ dx:=(ne_of_none hn I.dict).symm
 have hbdx : b ≠ dx:=(ne_of_none hbn I₂.dict).symm
 have hDb : D ≠ b:=ne_of_none hbn (by rw [upd_ne hDdx];exact upd_self ..)
 refine ⟨rfl,⟨dx,D,b,iv,h1,h2,h3,t1,t2,t3,putN (Str.ofString "initial") [⟨h1,.str (Str.ofString "transitions") t1,.ref D⟩,⟨h2,.str (Str.ofString "final_states") t2,.ref b⟩] (putN (Str.ofString "final_states") [⟨h1,.str (Str.ofString "transitions") t1,.ref D⟩] (putN (Str.ofString "transitions") [] n)),fun _ => none,fun _ _ => none⟩,?_⟩
 exact { inst:=I₅,tr:=D₁.move ((upd_tx I₁.dict (by simp)).trans (e3.tx.trans ((upd_tx I₃.dict (by simp)).trans (upd_tx I₄.dict (by simp))))) fun o e => by (rw [upd_ne hDdx,upd_ne hDdx,upd_ne hDb,upd_ne hDdx];exact e),inn:=fun k d h => (nomatch h),lab:=fun k l a h => (nomatch h),has:=fun k l d h => h.elim,ne:=fun k l a h => (nomatch h),lin:=fun k l a h => (nomatch h),inj1:=fun k k' d h => (nomatch h),inj2:=fun k l k' l' a h => (nomatch h),fin:=⟨[],(set0_in (w:=w) (k1 pg w)).move ((upd_tx I₃.dict (by simp)).trans (upd_tx I₄.dict (by simp))) fun o e => by (rw [upd_ne hbdx,upd_ne hbdx];exact e),fun k => by simp⟩,finl:=fun k l h => (nomatch h),ini:=(k1 pg w).mono (e1.tx.trans ((upd_tx I₁.dict (by simp)).trans (e3.tx.trans ((upd_tx I₃.dict (by simp)).trans (upd_tx I₄.dict (by simp)))))) hi,dD:=hDdx.symm,dI:=fun k h => (nomatch h),DI:=fun k h => (nomatch h),bU:=bU,bL:=bL,trU:=fun k l d h => h.elim,innU:=fun k d h => (nomatch h),labU:=fun k l a h => (nomatch h),finU:=fun k h => h.elim,iniU:=hU,neU:=neU }
theorem addFinalN (w : World) (σ : Sg) (x dx a : Addr) (es : List DictEntry) (n : Nat) (I : Inst σ x dx 236 es n) (hg : getL (Str.ofString "final_states") es = some (some (.ref a))) (v : Value) {k : List Int} {S : List (List Int)} (hS : SetIn (k1 pg w) σ a S) (hx : (k1 pg w).is σ k v) (hn : S.length < 1024) :
  Spec w 184 3 [.ref x,v] [] σ (fun v σ' => v = .none ∧ ∃ o S',σ' = upd σ a o ∧ o.cls ≠ .type "tuple" ∧ SetIn (k1 pg w) σ' a S' ∧ ∀ k',k' ∈ S' ↔ k' ∈ S ∨ k' = k):=by
 refine' spec_of (binds:=[(Str.ofString "self",.ref x),(Str.ofString "state",v)]) ?ho ?hcd ?hb ?hl ?c1 ?c2 ?c3 ?c4 ?_;((case ho => k_is);(case hcd => k_is);(case hb => (first | (intro _ _;exact BindsTo.of_eq rfl) | (intro _ Xh;exact binds_K Xh rfl (by k_is) rfl rfl rfl)));(case hl => exact locs rfl);(case c1 => exact rfl);(case c2 => exact rfl);(case c3 => exact rfl);(case c4 => decide))
 intro A g L ι s C F O env R;have X:=C.X;have S0:=Same.refl s
 refine xH ?_;intro _ _
 iterate 3 walk1
 first | refine xN ?_ | walk1
 (refine iget ‹_› ‹_› ‹_› ‹_› (by k_is) (by k_is) (by k_is) (by k_is) (by first | assumption | rfl) (by rfl) (quietly ‹_› ‹_› ?_);intro _ hq _ _;have _:=Same.trans ‹_› hq;clear hq)
 refine meth_set ‹_› hS PySem.F.slot_set_add PySem.F.type_set_add ?_
 iterate 2 walk1
 first | refine xN ?_ | walk1
 walk1
 refine sadd (k1d _ _) (k1r _ _) (C.r1 (by decide)) ‹_› ‹_› hS hx hn fun s' S' o q F' O' hS' hm hc => ?_
 have hq2:=Same.trans ‹_› q
 walk1
 (show Ends _ _ _ _ _ _ _;refine Ends.mk' ‹_› ‹_› ‹_› ?_)
 exact ⟨rfl,o,S',rfl,hc,hS',hm⟩
theorem NfaIs.putFin {w : World} {σ : Sg} {x : Addr} {N : Nfa} {c : NfaCells} (hN : NfaIs w σ x N c) {o : Obj} {S' : List St} {k : St} (hS : SetIn (k1 pg w) (upd σ c.Fa o) c.Fa S') (hm : ∀ s,s ∈ S' ↔ N.fin s ∨ s = k) (kU : k ∈ N.U) :
  NfaAt w (upd σ c.Fa o) x { N with fin:=fun s => N.fin s ∨ s = k }:=by
 refine xe12 hN.fin fun S s1 s2 => ?_
 refine xe32 s1.obj fun _ _ _ z _ => ?_
 have tx : TX σ (upd σ c.Fa o):=upd_tx z (by simp)
 have keep : ∀ b ob,b ≠ c.Fa → σ b = some ob → (upd σ c.Fa o) b = some ob:=fun b ob h e => by rw [upd_ne h];exact e
 have ns : ∀ b ob,σ b = some ob → ob.cls ≠ .type "set" → b ≠ c.Fa:=fun b ob e h q => by
  rw [q,z] at e;cases e;exact h rfl
 refine ⟨c,?_⟩
 exact { hN with
  inst:=⟨keep _ _ (ns _ _ hN.inst.obj (by show Value.ref 236 ≠ _;simp)) hN.inst.obj,keep _ _ (ns _ _ hN.inst.dict (by simp)) hN.inst.dict⟩
  tr:=hN.tr.move tx fun ob e => by
   refine xe13 hN.tr.cell fun o' z1 z2 _ => ?_
   exact keep _ _ (ns _ _ z1 (by rw [z2];simp)) e
  inn:=fun k d h => by
   refine xe13 ((hN.inn _ _ h).cell) fun o' z1 z2 _ => ?_
   exact (hN.inn _ _ h).move fun ob e => keep _ _ (ns _ _ z1 (by rw [z2];simp)) e
  lab:=fun k l a h => xe12 (hN.lab k l a h) fun S s1 s2 => ⟨S,s1.move tx fun ob e => keep _ _ (fun q => hN.finl _ _ (q ▸ h)) e,s2⟩
  fin:=⟨S',hS,hm⟩
  ini:=(k1 pg w).mono tx hN.ini
  finU:=fun s h => h.elim (hN.finU _) fun h => h ▸ kU }
noncomputable def rel (T : List (St × Str × St)) : St → Str → St → Prop:=fun a l d => (a,l,d) ∈ T
theorem rel_add (T : List (St × Str × St)) (a : St) (l : Str) (d : St) : (fun p q r => rel T p q r ∨ (p = a ∧ q = l ∧ r = d)) = rel (T ++ [(a,l,d)]):=by
 funext p q r
 unfold rel
 refine propext ⟨fun h => ?_,fun h => ?_⟩
 ·rcases h with h | ⟨rfl,rfl,rfl⟩
  ·exact List.mem_append_left _ h
  exact List.mem_append_right _ (.head _)
 rcases List.mem_append.mp h with h | h
 ·exact .inl h
 simp only [List.mem_singleton] at h
 cases h;exact .inr ⟨rfl,rfl,rfl⟩
noncomputable def st2 (i e : Nat) : St:=[(i : Int),(e : Int)]
noncomputable def levU (n k : Nat) : List St:=(List.range (n + 1)).flatMap fun i => (List.range (k + 1)).map fun e => st2 i e
noncomputable def levLU (term : List Nat) : List Str:=eps :: anyS :: term.map ch
noncomputable def levE (k i c e : Nat) : List (St × Str × St):=(st2 i e,ch c,st2 (i + 1) e) :: (if e < k then [(st2 i e,anyS,st2 i (e + 1)),(st2 i e,eps,st2 (i + 1) (e + 1)),(st2 i e,anyS,st2 (i + 1) (e + 1))] else [])
noncomputable def levC (k i c : Nat) (j : Nat) : List (St × Str × St):=(List.range j).flatMap (levE k i c)
noncomputable def levP (term : List Nat) (j : Nat) : List (St × Str × St):=(List.range j).map fun i => (st2 i 0,ch (term.getD i 0),st2 (i + 1) 0)
noncomputable def levM (term : List Nat) (k p j : Nat) : List (St × Str × St):=(List.range j).flatMap fun i => levC k (p + i) (term.getD (p + i) 0) (k + 1)
noncomputable def levF (n k j : Nat) : List (St × Str × St):=(List.range j).flatMap fun e => if e < k then [(st2 n e,anyS,st2 n (e + 1))] else []
noncomputable def levN (term : List Nat) (k p : Nat) : Nfa where
 tr:=rel (levP term p ++ levM term k p (term.length - p) ++ levF term.length k (k + 1))
 fin:=fun s => s ∈ (List.range (k + 1)).map (st2 term.length)
 ini:=st2 0 0
 U:=levU term.length k
 LU:=levLU term
theorem mem_levU {n k i e : Nat} (hi : i ≤ n) (he : e ≤ k) : st2 i e ∈ levU n k :=
 List.mem_flatMap.mpr ⟨i,List.mem_range.mpr (by lia),List.mem_map.mpr ⟨e,List.mem_range.mpr (by lia),rfl⟩⟩
theorem levU_len {n k : Nat} (hn : n ≤ 4) (hk : k ≤ 2) : (levU n k).length ≤ 60:=by
 have h1 : n = 0 ∨ n = 1 ∨ n = 2 ∨ n = 3 ∨ n = 4:=by exact xs40 ‹_›
 have h2 : k = 0 ∨ k = 1 ∨ k = 2:=by lia
 rcases h1 with rfl | rfl | rfl | rfl | rfl <;> rcases h2 with rfl | rfl | rfl <;> decide
theorem levU_ne {n k : Nat} : ∀ s ∈ levU n k,s ≠ []:=by
 intro s hs
 refine xe12 (List.mem_flatMap.mp hs) fun i _ h => ?_
 refine xe12 (List.mem_map.mp h) fun e _ zq1 => ?_
 subst zq1
 simp [st2]
theorem makeN (w : World) (σ : Sg) (iv : Addr) (ini : St) (hi : (k1 pg w).is σ ini (.ref iv)) (U : List St) (LU : List Str) (bU : U.length ≤ 60) (bL : LU.length ≤ 60) (hU : ini ∈ U) (neU : ∀ k ∈ U,k ≠ []) :
  Spec w 236 4 [.ref iv] [] σ (fun v σ' => ∃ x,v = .ref x ∧ NfaAt w σ' x ⟨fun _ _ _ => False,fun _ => False,ini,U,LU⟩):=by
 refine (spec_make (w:=w) (C:=236) (fI:=163) (d:=3) (args:=[.ref iv]) (P:=fun x σ' => NfaAt w σ' x ⟨fun _ _ _ => False,fun _ => False,ini,U,LU⟩) (by k_is) (by k_is) (by k_is) fun x dx hx hdx hne => ?_)
 have e1 : Ext σ (upd σ dx (dictOf [] 0)):=Ext.upd hdx
 have e2 : Ext (upd σ dx (dictOf [] 0)) (upd (upd σ dx (dictOf [] 0)) x (instObj 236 dx)):=Ext.upd (by rw [upd_ne hne];exact hx)
 exact initN w _ x dx iv 0 ⟨upd_self ..,by rw [upd_ne (Ne.symm hne)];exact upd_self ..⟩ ini ((k1 pg w).mono (e1.trans e2).tx hi) U LU bU bL hU neU
theorem tupE {w : World} {σ : Sg} {i e : Nat} {x y : Int} {t u : Tok} {a : Addr} (h : σ a = some (tupOf [.int x t,.int y u] 0)) (hx : x = (i : Int)) (hy : y = (e : Int)) : (k1 pg w).is σ (st2 i e) (.ref a):=by
 subst hx;subst hy
 exact ⟨a,_,0,rfl,h,.cons ⟨t,rfl⟩ (.cons ⟨u,rfl⟩ .nil)⟩
structure LevJ (w : World) (term : List Nat) (tk t1 t2 : Tok) (k p : Nat) (x : Addr) (T : List (St × Str × St)) (Fs : List St) (m : Str → Option Value) (σ : Sg) : Prop where
 m1 : m (Str.ofString "term") = some (.str (sw term) tk)
 m2 : m (Str.ofString "k") = some (.int k t1)
 m3 : m (Str.ofString "prefix") = some (.int p t2)
 m4 : m (Str.ofString "nfa") = some (.ref x)
 at_ : NfaAt w σ x ⟨rel T,(· ∈ Fs),st2 0 0,levU term.length k,levLU term⟩
theorem tup2 {w : World} {σ : Sg} {i e : Nat} {t u : Tok} {a : Addr} (h : σ a = some (tupOf [.int i t,.int e u] 0)) : (k1 pg w).is σ (st2 i e) (.ref a) :=
 ⟨a,_,0,rfl,h,.cons ⟨t,rfl⟩ (.cons ⟨u,rfl⟩ .nil)⟩
theorem levAdd (w : World) (σ : Sg) (x : Addr) (T : List (St × Str × St)) (N : Nfa) (hN : NfaAt w σ x { N with tr:=rel T }) {a₁ a₂ : Addr} {tk : Tok} {src dst : St} {l : Str} (h1 : (k1 pg w).is σ src (.ref a₁)) (h2 : (k1 pg w).is σ dst (.ref a₂)) (sU : src ∈ N.U) (dU : dst ∈ N.U) (lU : l ∈ N.LU) :
  Spec w 177 3 [.ref x,.ref a₁,.str l tk,.ref a₂] [] σ (fun v σ' => v = .none ∧ NfaAt w σ' x { N with tr:=rel (T ++ [(src,l,dst)]) }):=by
 refine xe11 hN fun c _ => ?_
 clear hN
 rename_i hN
 refine (addTrN w σ x a₁ a₂ _ c hN src dst l tk h1 h2 sU dU lU).mono (Nat.le_refl _) fun v σ' zm3 => xe03 zm3 fun h1 _ h3 => ⟨h1,?_⟩
 rw [← rel_add];exact h3
theorem mem_lu {term : List Nat} {i c : Nat} (h : term[i]? = some c) : ch c ∈ levLU term:=.tail _ (.tail _ (List.mem_map.mpr ⟨c,List.mem_of_getElem? h,rfl⟩))
theorem gd_of {term : List Nat} {i : Nat} (h : i < term.length) : term[i]? = some (term.getD i 0):=by
 rw [List.getD_eq_getElem?_getD,List.getElem?_eq_getElem h];rfl
theorem levA (w : World) (σ : Sg) (term : List Nat) (tk t1 t2 : Tok) (k p : Nat) (hn : term.length ≤ 4) (hk : k ≤ 2) (hp : p ≤ term.length) :
  Spec w 344 5 [.str (sw term) tk,.int k t1,.int p t2] [] σ (fun v σ' => ∃ x,v = .ref x ∧ NfaAt w σ' x (levN term k p)):=by
 refine' spec_of (binds:=[(Str.ofString "term",.str (sw term) tk),(Str.ofString "k",.int k t1),(Str.ofString "prefix",.int p t2)]) ?ho ?hcd ?hb ?hl ?c1 ?c2 ?c3 ?c4 ?_;((case ho => k_is);(case hcd => k_is);(case hb => (first | (intro _ _;exact BindsTo.of_eq rfl) | (intro _ Xh;exact binds_K Xh rfl (by k_is) rfl rfl rfl)));(case hl => exact locs rfl);(case c1 => exact rfl);(case c2 => exact rfl);(case c3 => exact rfl);(case c4 => decide))
 intro A g L ι s C F O env R;have X:=C.X;refine xe31 C.T fun mean mg mb T => ?_;have S0:=Same.refl s
 have hUl:=levU_len hn hk
 have hLl : (levLU term).length ≤ 60:=by simp [levLU];lia
 refine xH ?_;intro _ _
 iterate 2 walk1
 first | refine xN ?_ | walk1
 iterate 8 walk1
 refine znewTuple ‹_› ‹_› (by simp) fun s₁ iv hiv q₁ F₁ O₁ => ?_
 have qq₁:=Same.trans ‹_› q₁
 walk1
 refine ⟨X.keeps F₁.keep,?_⟩
 refine (makeN w _ iv (st2 0 0) (tup2 (upd_self ..)) (levU term.length k) (levLU term) hUl hLl (mem_levU (Nat.zero_le _) (Nat.zero_le _)) levU_ne).call (C.le (by decide)) ‹_› ‹_› fun v σ₂ s₂ q₂ F₂ O₂ hP => ?_
 have qq₂:=Same.trans ‹_› q₂
 refine xe12 hP fun x zq2 hN => ?_
 try clear hP
 subst zq2
 refine xS ?_;intros
 have hN0 : NfaAt w σ₂ x ⟨rel (levP term 0),(· ∈ []),st2 0 0,levU term.length k,levLU term⟩:=by
  have e1 : rel (levP term 0) = fun _ _ _ => False:=by funext a b c;simp [rel,levP]
  have e2 : (fun s : St => s ∈ ([] : List St)) = fun _ => False:=by funext s;simp
  rw [e1,e2];exact hN
 refine cut (ι:=ι) (g:=g) (L:=L) (LevJ w term tk t1 t2 k p x (levP term p) []) ?_ fun m₃ σ₃ s₃ q₃ F₃ O₃ J₃ => ?_
 ·iterate 2 walk1
  first | refine xN ?_ | walk1
  iterate 2 walk1
  ·refine xH ?_;intro _ _
   refine wpAny_For ?_
   walk1
   first | refine xN ?_ | walk1
   iterate 2 walk1
   first | refine xN ?_ | walk1
   walk1
   refine srange1 ‹_› ‹_› fun s₄ r u1 u2 u3 q₄ F₄ O₄ hr => ?_
   have qq₄:=Same.trans ‹_› q₄
   refine forRange (n:=p) (fun i => LevJ w term tk t1 t2 k p x (levP term i) []) C.hh F₄ O₄ hr (by rw [rangeSize_one];split <;> lia) (small_one (by lia) (by lia) (by lia) (by lia)) ⟨rfl,rfl,rfl,rfl,hN0⟩ (fun i ti m₂ σ₂ s₂ ι' back q₂ hi J F₂ O₂ => ?_) fun m₂ σ₂ s₂ q₂ F₂ O₂ J => ?_
   ·clear q₂
    refine holdP ?_;intro G;rcases J with ⟨m1,m2,m3,m4,hN⟩;unfold G;clear G
    have S2:=Same.refl s₂
    refine xH ?_;intro _ _
    iterate 2 walk1
    first | refine xN ?_ | walk1
    first | refine xN ?_ | walk1
    refine ssub (c:=term.getD i 0) (i:=i) ‹_› ‹_› (gd_of (by lia)) (by lia) (by lia) fun s₅ tc q₅ F₅ O₅ => ?_
    have qq₅:=Same.trans ‹_› q₅
    refine xS ?_;intros
    refine xH ?_;intro _ _
    iterate 2 walk1
    first | refine xN ?_ | walk1
    refine xe11 hN fun c hNc => ?_
    try clear hN
    have I:=hNc.inst
    refine imeth ‹_› ‹_› ‹_› ‹_› (by k_is) (by k_is) (by k_is) (by first | assumption | rfl) ?_
    iterate 4 walk1
    first | refine xN ?_ | walk1
    iterate 3 walk1
    refine znewTuple ‹_› ‹_› (by simp) fun s₆ a₁ ha₁ q₆ F₆ O₆ => ?_
    have qq₆:=Same.trans ‹_› q₆
    walk1
    first | refine xN ?_ | walk1
    iterate 4 walk1
    first | refine xN ?_ | walk1
    iterate 5 walk1
    refine znewTuple ‹_› ‹_› (by simp) fun s₇ a₂ ha₂ q₇ F₇ O₇ => ?_
    have qq₇:=Same.trans ‹_› q₇
    walk1
    refine ⟨X.keeps F₇.keep,?_⟩
    refine (levAdd w _ x (levP term i) ⟨rel (levP term i),(· ∈ []),st2 0 0,levU term.length k,levLU term⟩ ⟨c,hNc.move ((Ext.upd ha₁).trans (Ext.upd ha₂))⟩ (src:=st2 i 0) (dst:=st2 (i + 1) 0) (tupE (e:=0) (by rw [upd_ne (ne_of_none ha₂ (upd_self ..))];exact upd_self ..) (by lia) (by rfl)) (tupE (e:=0) (upd_self ..) (by lia) (by rfl)) (mem_levU (by lia) (by lia)) (mem_levU (by lia) (by lia)) (mem_lu (gd_of (by lia)))).call (C.le (by decide)) F₇ O₇ fun v σ₈ s₈ q₈ F₈ O₈ hP => ?_
    have qq₈:=Same.trans ‹_› q₈
    refine xe02 hP fun zq3 hN8 => ?_
    try clear hP
    subst zq3
    walk1
    refine Turn.mk' qq₈ F₈ O₈ ⟨m1,m2,m3,m4,?_⟩
    have : levP term (i + 1) = levP term i ++ [(st2 i 0,ch (term.getD i 0),st2 (i + 1) 0)]:=by simp [levP,List.range_succ]
    rw [this];exact hN8
   iterate 2 walk1
   exact Mid.mk' (Same.trans ‹_› q₂) F₂ O₂ J
  rename_i hp0
  have hp0 : p = 0:=by lia
  walk1
  refine Mid.mk' (Same.refl _) ‹_› ‹_› ⟨rfl,rfl,rfl,rfl,?_⟩
  subst hp0;exact hN0
 have qq₃:=Same.trans ‹_› q₃
 clear q₃
 refine holdP ?_;intro G;rcases J₃ with ⟨m1,m2,m3,m4,hN₃⟩;unfold G;clear G
 refine cut (ι:=ι) (g:=g) (L:=L) (LevJ w term tk t1 t2 k p x (levP term p ++ levM term k p (term.length - p)) []) ?_ fun m₄ σ₄ s₄ q₄ F₄ O₄ J₄ => ?_
 ·have S3:=Same.refl s₃
  refine wpAny_For ?_
  walk1
  first | refine xN ?_ | walk1
  iterate 2 walk1
  first | refine xN ?_ | walk1
  iterate 2 walk1
  first | refine xN ?_ | walk1
  iterate 2 walk1
  first | refine xN ?_ | walk1
  walk1
  refine slen F₃ O₃ (by lia) fun s₅ t5 q₅ F₅ O₅ => ?_
  have qq₅:=Same.trans ‹_› q₅
  walk1
  refine srange2 F₅ O₅ fun s₆ r u1 u2 u3 q₆ F₆ O₆ hr => ?_
  have qq₆:=Same.trans ‹_› q₆
  refine forRange (n:=term.length - p) (fun i => LevJ w term tk t1 t2 k p x (levP term p ++ levM term k p i) []) C.hh F₆ O₆ hr (by rw [rangeSize_one];split <;> lia) (small_one (by lia) (by lia) (by lia) (by lia)) ⟨m1,m2,m3,m4,by simpa [levM] using hN₃⟩ (fun i ti m₂ σ₂ s₂ ι' back q₂ hi J F₂ O₂ => ?_) fun m₂ σ₂ s₂ q₂ F₂ O₂ J => ?_
  ·clear q₂
   refine holdP ?_;intro G;rcases J with ⟨m1,m2,m3,m4,hN⟩;unfold G;clear G
   have S2:=Same.refl s₂
   refine xH ?_;intro _ _
   iterate 2 walk1
   first | refine xN ?_ | walk1
   first | refine xN ?_ | walk1
   refine ssub (c:=term.getD (p + i) 0) (i:=p + i) ‹_› ‹_› (gd_of (by exact xs16 ‹_›)) (by lia) (by lia) fun s₅ tc q₅ F₅ O₅ => ?_
   have qq₅:=Same.trans ‹_› q₅
   refine xS ?_;intros
   refine xH ?_;intro _ _
   refine wpAny_For ?_
   walk1
   first | refine xN ?_ | walk1
   iterate 3 walk1
   first | refine xN ?_ | walk1
   iterate 3 walk1
   refine srange1 ‹_› ‹_› fun s₄ r u1 u2 u3 q₄ F₄ O₄ hr => ?_
   have qq₄:=Same.trans ‹_› q₄
   refine forRange (n:=k + 1) (fun e m σ => (m (Str.ofString "i") = some (.int (p + i) ti) ∧ m (Str.ofString "c") = some (.str (ch (term.getD (p + i) 0)) tc)) ∧ LevJ w term tk t1 t2 k p x (levP term p ++ levM term k p i ++ levC k (p + i) (term.getD (p + i) 0) e) [] m σ) C.hh F₄ O₄ hr (by rw [rangeSize_one];split <;> lia) (small_one (by lia) (by lia) (by lia) (by lia)) ⟨⟨rfl,rfl⟩,m1,m2,m3,m4,by simpa [levC] using hN⟩ (fun e te m₃ σ₃ s₃ ι' back q₃ he J F₃ O₃ => ?_) fun m₃ σ₃ s₃ q₃ F₃ O₃ J => ?_
   ·clear q₃
    refine holdP ?_;intro G;rcases J with ⟨⟨m5,m6⟩,m1,m2,m3,m4,hN⟩;unfold G;clear G
    have S3:=Same.refl s₃
    refine xe11 hN fun c' hNc => ?_
    try clear hN
    have I:=hNc.inst
    refine xH ?_;intro _ _
    iterate 2 walk1
    first | refine xN ?_ | walk1
    refine imeth ‹_› ‹_› ‹_› ‹_› (by k_is) (by k_is) (by k_is) (by first | assumption | rfl) ?_
    iterate 4 walk1
    first | refine xN ?_ | walk1
    walk1
    first | refine xN ?_ | walk1
    walk1
    refine znewTuple ‹_› ‹_› (by simp) fun s₆ a₁ ha₁ q₆ F₆ O₆ => ?_
    have qq₆:=Same.trans ‹_› q₆
    walk1
    first | refine xN ?_ | walk1
    iterate 4 walk1
    first | refine xN ?_ | walk1
    iterate 3 walk1
    first | refine xN ?_ | walk1
    walk1
    refine znewTuple ‹_› ‹_› (by simp) fun s₇ a₂ ha₂ q₇ F₇ O₇ => ?_
    have qq₇:=Same.trans ‹_› q₇
    walk1
    refine ⟨X.keeps F₇.keep,?_⟩
    refine (levAdd w _ x (levP term p ++ levM term k p i ++ levC k (p + i) (term.getD (p + i) 0) e) ⟨rel (levP term p ++ levM term k p i ++ levC k (p + i) (term.getD (p + i) 0) e),(· ∈ []),st2 0 0,levU term.length k,levLU term⟩ ⟨c',hNc.move ((Ext.upd ha₁).trans (Ext.upd ha₂))⟩ (src:=st2 (p + i) e) (dst:=st2 (p + i + 1) e) (tupE (by rw [upd_ne (ne_of_none ha₂ (upd_self ..))];exact upd_self ..) (by lia) (by lia)) (tupE (upd_self ..) (by lia) (by lia)) (mem_levU (by exact xs16b ‹_›) (by exact xs15 ‹_›)) (mem_levU (by exact xs16 ‹_›) (by exact xs15 ‹_›)) (mem_lu (gd_of (by exact xs16 ‹_›)))).call (C.le (by decide)) F₇ O₇ fun v σ₈ s₈ q₈ F₈ O₈ hP => ?_
    have qq₈:=Same.trans ‹_› q₈
    refine xe02 hP fun zq4 hN => ?_
    try clear hP
    subst zq4
    refine xH ?_;intro _ _
    iterate 2 walk1
    first | refine xN ?_ | walk1
    first | refine xN ?_ | walk1
    iterate 3 walk1
    ·rename_i hlt
     have hlt : e < k:=by lia
     refine xe11 hN fun c' hNc => ?_
     try clear hN
     have I:=hNc.inst
     refine xH ?_;intro _ _
     iterate 2 walk1
     first | refine xN ?_ | walk1
     refine imeth ‹_› ‹_› ‹_› ‹_› (by k_is) (by k_is) (by k_is) (by first | assumption | rfl) ?_
     iterate 4 walk1
     first | refine xN ?_ | walk1
     walk1
     first | refine xN ?_ | walk1
     walk1
     refine znewTuple ‹_› ‹_› (by simp) fun s₆ a₁ ha₁ q₆ F₆ O₆ => ?_
     have qq₆:=Same.trans ‹_› q₆
     walk1
     first | refine xN ?_ | walk1
     iterate 3 walk1
     first | refine xN ?_ | walk1
     iterate 2 walk1
     first | refine xN ?_ | walk1
     iterate 3 walk1
     refine znewTuple ‹_› ‹_› (by simp) fun s₇ a₂ ha₂ q₇ F₇ O₇ => ?_
     have qq₇:=Same.trans ‹_› q₇
     walk1
     refine ⟨X.keeps F₇.keep,?_⟩
     refine (levAdd w _ x ((levP term p ++ levM term k p i ++ levC k (p + i) (term.getD (p + i) 0) e) ++ [(st2 (p + i) e,ch (term.getD (p + i) 0),st2 (p + i + 1) e)]) ⟨rel ((levP term p ++ levM term k p i ++ levC k (p + i) (term.getD (p + i) 0) e) ++ [(st2 (p + i) e,ch (term.getD (p + i) 0),st2 (p + i + 1) e)]),(· ∈ []),st2 0 0,levU term.length k,levLU term⟩ ⟨c',hNc.move ((Ext.upd ha₁).trans (Ext.upd ha₂))⟩ (src:=st2 (p + i) e) (dst:=st2 (p + i) (e + 1)) (tupE (by rw [upd_ne (ne_of_none ha₂ (upd_self ..))];exact upd_self ..) (by lia) (by lia)) (tupE (upd_self ..) (by lia) (by lia)) (mem_levU (by exact xs16b ‹_›) (by lia)) (mem_levU (by exact xs16b ‹_›) (by lia)) (.tail _ (.head _))).call (C.le (by decide)) F₇ O₇ fun v σ₈ s₈ q₈ F₈ O₈ hP => ?_
     have qq₈:=Same.trans ‹_› q₈
     refine xe02 hP fun zq5 hN => ?_
     try clear hP
     subst zq5
     refine xe11 hN fun c' hNc => ?_
     try clear hN
     have I:=hNc.inst
     refine xH ?_;intro _ _
     iterate 2 walk1
     first | refine xN ?_ | walk1
     refine imeth ‹_› ‹_› ‹_› ‹_› (by k_is) (by k_is) (by k_is) (by first | assumption | rfl) ?_
     iterate 4 walk1
     first | refine xN ?_ | walk1
     walk1
     first | refine xN ?_ | walk1
     walk1
     refine znewTuple ‹_› ‹_› (by simp) fun s₆ a₁ ha₁ q₆ F₆ O₆ => ?_
     have qq₆:=Same.trans ‹_› q₆
     walk1
     first | refine xN ?_ | walk1
     iterate 4 walk1
     first | refine xN ?_ | walk1
     iterate 4 walk1
     first | refine xN ?_ | walk1
     iterate 3 walk1
     refine znewTuple ‹_› ‹_› (by simp) fun s₇ a₂ ha₂ q₇ F₇ O₇ => ?_
     have qq₇:=Same.trans ‹_› q₇
     walk1
     refine ⟨X.keeps F₇.keep,?_⟩
     refine (levAdd w _ x (((levP term p ++ levM term k p i ++ levC k (p + i) (term.getD (p + i) 0) e) ++ [(st2 (p + i) e,ch (term.getD (p + i) 0),st2 (p + i + 1) e)]) ++ [(st2 (p + i) e,anyS,st2 (p + i) (e + 1))]) ⟨rel (((levP term p ++ levM term k p i ++ levC k (p + i) (term.getD (p + i) 0) e) ++ [(st2 (p + i) e,ch (term.getD (p + i) 0),st2 (p + i + 1) e)]) ++ [(st2 (p + i) e,anyS,st2 (p + i) (e + 1))]),(· ∈ []),st2 0 0,levU term.length k,levLU term⟩ ⟨c',hNc.move ((Ext.upd ha₁).trans (Ext.upd ha₂))⟩ (src:=st2 (p + i) e) (dst:=st2 (p + i + 1) (e + 1)) (tupE (by rw [upd_ne (ne_of_none ha₂ (upd_self ..))];exact upd_self ..) (by lia) (by lia)) (tupE (upd_self ..) (by lia) (by lia)) (mem_levU (by exact xs16b ‹_›) (by lia)) (mem_levU (by exact xs16 ‹_›) (by lia)) (.head _)).call (C.le (by decide)) F₇ O₇ fun v σ₈ s₈ q₈ F₈ O₈ hP => ?_
     have qq₈:=Same.trans ‹_› q₈
     refine xe02 hP fun zq6 hN => ?_
     try clear hP
     subst zq6
     refine xe11 hN fun c' hNc => ?_
     try clear hN
     have I:=hNc.inst
     refine xH ?_;intro _ _
     iterate 2 walk1
     first | refine xN ?_ | walk1
     refine imeth ‹_› ‹_› ‹_› ‹_› (by k_is) (by k_is) (by k_is) (by first | assumption | rfl) ?_
     iterate 4 walk1
     first | refine xN ?_ | walk1
     walk1
     first | refine xN ?_ | walk1
     walk1
     refine znewTuple ‹_› ‹_› (by simp) fun s₆ a₁ ha₁ q₆ F₆ O₆ => ?_
     have qq₆:=Same.trans ‹_› q₆
     walk1
     first | refine xN ?_ | walk1
     iterate 4 walk1
     first | refine xN ?_ | walk1
     iterate 4 walk1
     first | refine xN ?_ | walk1
     iterate 3 walk1
     refine znewTuple ‹_› ‹_› (by simp) fun s₇ a₂ ha₂ q₇ F₇ O₇ => ?_
     have qq₇:=Same.trans ‹_› q₇
     walk1
     refine ⟨X.keeps F₇.keep,?_⟩
     refine (levAdd w _ x ((((levP term p ++ levM term k p i ++ levC k (p + i) (term.getD (p + i) 0) e) ++ [(st2 (p + i) e,ch (term.getD (p + i) 0),st2 (p + i + 1) e)]) ++ [(st2 (p + i) e,anyS,st2 (p + i) (e + 1))]) ++ [(st2 (p + i) e,eps,st2 (p + i + 1) (e + 1))]) ⟨rel ((((levP term p ++ levM term k p i ++ levC k (p + i) (term.getD (p + i) 0) e) ++ [(st2 (p + i) e,ch (term.getD (p + i) 0),st2 (p + i + 1) e)]) ++ [(st2 (p + i) e,anyS,st2 (p + i) (e + 1))]) ++ [(st2 (p + i) e,eps,st2 (p + i + 1) (e + 1))]),(· ∈ []),st2 0 0,levU term.length k,levLU term⟩ ⟨c',hNc.move ((Ext.upd ha₁).trans (Ext.upd ha₂))⟩ (src:=st2 (p + i) e) (dst:=st2 (p + i + 1) (e + 1)) (tupE (by rw [upd_ne (ne_of_none ha₂ (upd_self ..))];exact upd_self ..) (by lia) (by lia)) (tupE (upd_self ..) (by lia) (by lia)) (mem_levU (by exact xs16b ‹_›) (by lia)) (mem_levU (by exact xs16 ‹_›) (by lia)) (.tail _ (.head _))).call (C.le (by decide)) F₇ O₇ fun v σ₈ s₈ q₈ F₈ O₈ hP => ?_
     have qq₈:=Same.trans ‹_› q₈
     refine xe02 hP fun zq7 hN => ?_
     try clear hP
     subst zq7
     iterate 2 walk1
     show Turn _ _ _ _ _ _ _
     refine Turn.mk' qq₈ F₈ O₈ ⟨⟨m5,m6⟩,m1,m2,m3,m4,?_⟩
     have : levC k (p + i) (term.getD (p + i) 0) (e + 1) = levC k (p + i) (term.getD (p + i) 0) e ++ [(st2 (p + i) e,ch (term.getD (p + i) 0),st2 (p + i + 1) e),(st2 (p + i) e,anyS,st2 (p + i) (e + 1)),(st2 (p + i) e,eps,st2 (p + i + 1) (e + 1)),(st2 (p + i) e,anyS,st2 (p + i + 1) (e + 1))]:=by simp [levC,List.range_succ,levE,hlt]
     rw [this]
     simpa using hN
    rename_i hlt
    have hlt : ¬ e < k:=by lia
    iterate 2 walk1
    show Turn _ _ _ _ _ _ _
    refine Turn.mk' qq₈ F₈ O₈ ⟨⟨m5,m6⟩,m1,m2,m3,m4,?_⟩
    have : levC k (p + i) (term.getD (p + i) 0) (e + 1) = levC k (p + i) (term.getD (p + i) 0) e ++ [(st2 (p + i) e,ch (term.getD (p + i) 0),st2 (p + i + 1) e)]:=by simp [levC,List.range_succ,levE,hlt]
    rw [this]
    simpa using hN
   iterate 2 walk1
   refine Turn.mk' (Same.trans ‹_› q₃) F₃ O₃ ?_
   refine holdP ?_;intro G;rcases J with ⟨_,m1,m2,m3,m4,hN⟩;unfold G;clear G
   refine ⟨m1,m2,m3,m4,?_⟩
   have : levM term k p (i + 1) = levM term k p i ++ levC k (p + i) (term.getD (p + i) 0) (k + 1):=by simp [levM,List.range_succ]
   rw [this,← List.append_assoc];exact hN
  walk1
  exact Mid.mk' (Same.trans ‹_› q₂) F₂ O₂ J
 have qq₄:=Same.trans ‹_› q₄
 clear q₄
 refine holdP ?_;intro G;rcases J₄ with ⟨m1,m2,m3,m4,hN₄⟩;unfold G;clear G
 refine cut (ι:=ι) (g:=g) (L:=L) (LevJ w term tk t1 t2 k p x (levP term p ++ levM term k p (term.length - p) ++ levF term.length k (k + 1)) ((List.range (k + 1)).map (st2 term.length))) ?_ fun m₅ σ₅ s₅ q₅ F₅ O₅ J₅ => ?_
 ·have S4:=Same.refl s₄
  refine wpAny_For ?_
  walk1
  first | refine xN ?_ | walk1
  iterate 3 walk1
  first | refine xN ?_ | walk1
  iterate 3 walk1
  refine srange1 ‹_› ‹_› fun s₆ r u1 u2 u3 q₆ F₆ O₆ hr => ?_
  have qq₆:=Same.trans ‹_› q₆
  refine forRange (n:=k + 1) (fun e => LevJ w term tk t1 t2 k p x (levP term p ++ levM term k p (term.length - p) ++ levF term.length k e) ((List.range e).map (st2 term.length))) C.hh F₆ O₆ hr (by rw [rangeSize_one];split <;> lia) (small_one (by lia) (by lia) (by lia) (by lia)) ⟨m1,m2,m3,m4,by simpa [levF] using hN₄⟩ (fun e te m₂ σ₂ s₂ ι' back q₂ he J F₂ O₂ => ?_) fun m₂ σ₂ s₂ q₂ F₂ O₂ J => ?_
  ·clear q₂
   refine holdP ?_;intro G;rcases J with ⟨m1,m2,m3,m4,hN⟩;unfold G;clear G
   have S2:=Same.refl s₂
   refine cut (ι:=ι') (g:=g) (L:=L) (fun m σ => m (Str.ofString "e") = some (.int (0 + (e : Int)) te) ∧ LevJ w term tk t1 t2 k p x (levP term p ++ levM term k p (term.length - p) ++ levF term.length k (e + 1)) ((List.range e).map (st2 term.length)) m σ) ?_ fun m₅ σ₅ s₅ q₅ F₅ O₅ J₅ => ?_
   ·iterate 2 walk1
    first | refine xN ?_ | walk1
    first | refine xN ?_ | walk1
    iterate 3 walk1
    ·rename_i hlt
     have hlt : e < k:=by lia
     refine xe11 hN fun c' hNc => ?_
     try clear hN
     have I:=hNc.inst
     refine xH ?_;intro _ _
     iterate 2 walk1
     first | refine xN ?_ | walk1
     refine imeth ‹_› ‹_› ‹_› ‹_› (by k_is) (by k_is) (by k_is) (by first | assumption | rfl) ?_
     iterate 5 walk1
     first | refine xN ?_ | walk1
     iterate 2 walk1
     first | refine xN ?_ | walk1
     walk1
     refine slen ‹_› ‹_› (by lia) fun s₅ t5 q₅ F₅ O₅ => ?_
     have qq₅:=Same.trans ‹_› q₅
     walk1
     first | refine xN ?_ | walk1
     walk1
     refine znewTuple ‹_› ‹_› (by simp) fun s₆ a₁ ha₁ q₆ F₆ O₆ => ?_
     have qq₆:=Same.trans ‹_› q₆
     walk1
     first | refine xN ?_ | walk1
     iterate 4 walk1
     first | refine xN ?_ | walk1
     iterate 2 walk1
     first | refine xN ?_ | walk1
     walk1
     refine slen ‹_› ‹_› (by lia) fun s₅ t5 q₅ F₅ O₅ => ?_
     have qq₅:=Same.trans ‹_› q₅
     iterate 2 walk1
     first | refine xN ?_ | walk1
     iterate 3 walk1
     refine znewTuple ‹_› ‹_› (by simp) fun s₇ a₂ ha₂ q₇ F₇ O₇ => ?_
     have qq₇:=Same.trans ‹_› q₇
     walk1
     refine ⟨X.keeps F₇.keep,?_⟩
     refine (levAdd w _ x (levP term p ++ levM term k p (term.length - p) ++ levF term.length k e) ⟨rel (levP term p ++ levM term k p (term.length - p) ++ levF term.length k e),(· ∈ (List.range e).map (st2 term.length)),st2 0 0,levU term.length k,levLU term⟩ ⟨c',hNc.move ((Ext.upd ha₁).trans (Ext.upd ha₂))⟩ (src:=st2 term.length e) (dst:=st2 term.length (e + 1)) (tupE (by rw [upd_ne (ne_of_none ha₂ (upd_self ..))];exact upd_self ..) (by lia) (by lia)) (tupE (upd_self ..) (by lia) (by lia)) (mem_levU (by lia) (by lia)) (mem_levU (by lia) (by lia)) (.tail _ (.head _))).call (C.le (by decide)) F₇ O₇ fun v σ₈ s₈ q₈ F₈ O₈ hP => ?_
     have qq₈:=Same.trans ‹_› q₈
     refine xe02 hP fun zq8 hN => ?_
     try clear hP
     subst zq8
     walk1
     refine Mid.mk' qq₈ F₈ O₈ ⟨rfl,m1,m2,m3,m4,?_⟩
     have : levF term.length k (e + 1) = levF term.length k e ++ [(st2 term.length e,anyS,st2 term.length (e + 1))]:=by simp [levF,List.range_succ,hlt]
     rw [this,← List.append_assoc]
     exact hN
    rename_i hlt
    have hlt : ¬ e < k:=by lia
    walk1
    refine Mid.mk' S2 F₂ O₂ ⟨rfl,m1,m2,m3,m4,?_⟩
    have : levF term.length k (e + 1) = levF term.length k e:=by simp [levF,List.range_succ,hlt]
    rw [this]
    exact hN
   have qq₅:=Same.trans ‹_› q₅
   refine holdP ?_;intro G;rcases J₅ with ⟨m5,m1,m2,m3,m4,c',hNc⟩;unfold G;clear G
   have I:=hNc.inst
   refine xH ?_;intro _ _
   iterate 2 walk1
   first | refine xN ?_ | walk1
   refine imeth ‹_› ‹_› ‹_› ‹_› (by k_is) (by k_is) (by k_is) (by first | assumption | rfl) ?_
   iterate 5 walk1
   first | refine xN ?_ | walk1
   iterate 2 walk1
   first | refine xN ?_ | walk1
   walk1
   refine slen ‹_› ‹_› (by lia) fun s₇ t7 q₇ F₇ O₇ => ?_
   have qq₇:=Same.trans ‹_› q₇
   walk1
   first | refine xN ?_ | walk1
   walk1
   refine znewTuple ‹_› ‹_› (by simp) fun s₆ a₁ ha₁ q₆ F₆ O₆ => ?_
   have qq₆:=Same.trans ‹_› q₆
   walk1
   refine ⟨X.keeps F₆.keep,?_⟩
   refine xe12 hNc.fin fun S hS hSm => ?_
   have e6:=Ext.upd (o:=tupOf [.int term.length t7,.int (0 + (e : Int)) te] 0) ha₁
   have hSl : S.length ≤ 60:=Nat.le_trans (nodup_sub hS.nd fun k' hk' => hNc.finU _ ((hSm _).mp hk')) hNc.bU
   refine (addFinalN w _ x c'.dx c'.Fa _ _ (hNc.move e6).inst rfl (.ref a₁) (k:=st2 term.length e) (hS.move e6.tx fun o h => e6 _ _ h) (tupE (upd_self ..) (by lia) (by lia)) (by lia)).call (C.le (by decide)) F₆ O₆ fun v σ₈ s₈ q₈ F₈ O₈ hP => ?_
   have qq₈:=Same.trans ‹_› q₈
   refine holdP ?_;intro G;rcases hP with ⟨rfl,o,S',rfl,ho,hS',hSm'⟩;unfold G;clear G
   walk1
   refine Turn.mk' qq₈ F₈ O₈ ⟨m1,m2,m3,m4,?_⟩
   have e7 : (fun s => s ∈ (List.range (e + 1)).map (st2 term.length)) = fun s => s ∈ (List.range e).map (st2 term.length) ∨ s = st2 term.length e:=by
    funext s;simp [List.range_succ,or_and_right,exists_or,eq_comm]
   rw [e7]
   exact (hNc.move e6).putFin hS' (fun s => by rw [hSm',hSm]) (mem_levU (by lia) (by exact xs15 ‹_›))
  walk1
  exact Mid.mk' (Same.trans ‹_› q₂) F₂ O₂ J
 refine holdP ?_;intro G;rcases J₅ with ⟨m1,m2,m3,m4,hN₅⟩;unfold G;clear G
 have S5:=Same.refl s₅
 refine xH ?_;intro _ _
 walk1
 first | refine xN ?_ | walk1
 refine Ends.mk' (Same.trans ‹_› q₅) F₅ O₅ ⟨x,rfl,hN₅⟩
noncomputable abbrev Qs:=List St
structure Dfa where
 tr : Qs → Str → Option Qs
 df : Qs → Option Qs
 fin : Qs → Prop
 ini : Qs
 UQ : List Qs
 LU : List Str
structure DfaCells where
 dx : Addr
 D : Addr
 E : Addr
 Fa : Addr
 G : Addr
 iv : Addr
 h1 : Int
 h2 : Int
 h3 : Int
 h4 : Int
 h5 : Int
 t1 : Tok
 t2 : Tok
 t3 : Tok
 t4 : Tok
 t5 : Tok
 n : Nat
 inner : Qs → Option Addr
 vt : Qs → Str → Option Addr
 vd : Qs → Option Addr
 out : Qs → Option Addr
noncomputable abbrev dfaEs (c : DfaCells) : List DictEntry:=[⟨c.h1,.str (Str.ofString "initial") c.t1,.ref c.iv⟩,⟨c.h2,.str (Str.ofString "transitions") c.t2,.ref c.D⟩,⟨c.h3,.str (Str.ofString "defaults") c.t3,.ref c.E⟩,⟨c.h4,.str (Str.ofString "final_states") c.t4,.ref c.Fa⟩,⟨c.h5,.str (Str.ofString "outlabels") c.t5,.ref c.G⟩]
noncomputable def OptIs (w : World) (σ : Sg) (a : Option Addr) (o : Option Qs) : Prop:=(a = none ∧ o = none) ∨ ∃ b q,a = some b ∧ o = some q ∧ (k2 pg w).is σ q (.ref b)
theorem OptIs.mono {w : World} {σ σ' : Sg} {a : Option Addr} {o : Option Qs} (tx : TX σ σ') (h : OptIs w σ a o) : OptIs w σ' a o :=
 h.elim .inl fun zm1 => xe23 zm1 fun b q h1 h2 h3 => .inr ⟨b,q,h1,h2,(k2 pg w).mono tx h3⟩
noncomputable def OptV (w : World) (σ : Sg) (o : Option Qs) (v : Value) : Prop:=(o = none ∧ v = .none) ∨ ∃ q,o = some q ∧ (k2 pg w).is σ q v
noncomputable def OutIs (σ : Sg) (a : Addr) (f : Str → Option Qs) : Prop:=∃ S vs n,σ a = some (listOf vs.toArray n) ∧ All2 isS S vs ∧ S.Pairwise (fun a b => sLt a b = true) ∧ (∀ l,l ∈ S ↔ f l ≠ none)
theorem OutIs.move {σ σ' : Sg} {a : Addr} {f : Str → Option Qs} (h : OutIs σ a f) (k : ∀ o,σ a = some o → σ' a = some o) : OutIs σ' a f :=
 xe32 (h) fun S vs n h1 h2 => ⟨S,vs,n,k _ h1,h2⟩
structure DfaIs (w : World) (σ : Sg) (x : Addr) (M : Dfa) (c : DfaCells) : Prop where
 inst : Inst σ x c.dx 334 (dfaEs c) c.n
 tr : DH (k2 pg w) σ c.D (fun q => (c.inner q).map Value.ref)
 inn : ∀ q d,c.inner q = some d → DS pg w σ d (fun l => (c.vt q l).map Value.ref)
 vt : ∀ q l,OptIs w σ (c.vt q l) (M.tr q l)
 lin : ∀ q l a,c.vt q l = some a → ∃ d,c.inner q = some d
 inj : ∀ q q' d,c.inner q = some d → c.inner q' = some d → q = q'
 df : DH (k2 pg w) σ c.E (fun q => (c.vd q).map Value.ref)
 vd : ∀ q,OptIs w σ (c.vd q) (M.df q)
 fin : ∃ S,SetIn (k2 pg w) σ c.Fa S ∧ ∀ q,q ∈ S ↔ M.fin q
 out : DH (k2 pg w) σ c.G (fun q => (c.out q).map Value.ref)
 outl : ∀ q a,c.out q = some a → OutIs σ a (M.tr q)
 ini : (k2 pg w).is σ M.ini (.ref c.iv)
 dD : c.dx ≠ c.D
 dE : c.dx ≠ c.E
 dG : c.dx ≠ c.G
 DE : c.D ≠ c.E
 DG : c.D ≠ c.G
 EG : c.E ≠ c.G
 id : ∀ q,c.inner q ≠ some c.dx
 iD : ∀ q,c.inner q ≠ some c.D
 iE : ∀ q,c.inner q ≠ some c.E
 iG : ∀ q,c.inner q ≠ some c.G
 bU : M.UQ.length ≤ 1023
 bL : M.LU.length ≤ 60
 inU : ∀ q d,c.inner q = some d → q ∈ M.UQ
 vtL : ∀ q l,M.tr q l ≠ none → l ∈ M.LU
 dfU : ∀ q,M.df q ≠ none → q ∈ M.UQ
 finU : ∀ q,M.fin q → q ∈ M.UQ
 outU : ∀ q a,c.out q = some a → q ∈ M.UQ
theorem DfaIs.move {w : World} {σ σ' : Sg} {x : Addr} {M : Dfa} {c : DfaCells} (h : DfaIs w σ x M c) (e : Ext σ σ') : DfaIs w σ' x M c :=
 { h with
  inst:=h.inst.move e
  tr:=h.tr.move e.tx fun o => e _ _
  inn:=fun k d q => (h.inn k d q).move fun o => e _ _
  vt:=fun q l => (h.vt q l).mono e.tx
  df:=h.df.move e.tx fun o => e _ _
  vd:=fun q => (h.vd q).mono e.tx
  fin:=xe12 (h.fin) fun S s1 s2 => ⟨S,s1.move e.tx fun o => e _ _,s2⟩
  out:=h.out.move e.tx fun o => e _ _
  outl:=fun q a r => (h.outl q a r).move fun o => e _ _
  ini:=(k2 pg w).mono e.tx h.ini }
noncomputable def Foot (c : DfaCells) (b : Addr) : Prop:=b = c.D ∨ b = c.E ∨ b = c.Fa ∨ b = c.G ∨ ∃ q,c.inner q = some b
structure Kp (c : DfaCells) (σ : Sg) (c' : DfaCells) (σ' : Sg) : Prop where
 keep : ∀ b o,¬ Foot c b → σ b = some o → σ' b = some o
 more : ∀ b,Foot c' b → Foot c b ∨ σ b = none
 tx : TX σ σ'
theorem Kp.trans {c c' c'' : DfaCells} {σ σ' σ'' : Sg} (h : Kp c σ c' σ') (k : Kp c' σ' c'' σ'') : Kp c σ c'' σ'' where
 keep b o hb e:=k.keep b o (fun z => (h.more b z).elim hb fun z => by rw [z] at e;cases e) (h.keep b o hb e)
 more b hb:=(k.more b hb).elim (h.more b) fun z => by
  by_cases hc : Foot c b
  ·exact .inl hc
  refine .inr ?_
  cases q : σ b with
  | none => rfl
  | some o => rw [h.keep b o hc q] at z;cases z
 tx:=h.tx.trans k.tx
theorem Kp.ext {c : DfaCells} {σ σ' : Sg} (e : Ext σ σ') : Kp c σ c σ':=⟨fun b o _ h => e b o h,fun _ h => .inl h,e.tx⟩
theorem Kp.up {c c' : DfaCells} {σ σ' σ0 : Sg} (h : Kp c σ c' σ') (e : Ext σ0 σ) (fr : ∀ b,Foot c b → σ0 b = none) : Ext σ0 σ' ∧ ∀ b,Foot c' b → σ0 b = none:=by
 refine ⟨fun b o q => h.keep b o (fun z => by rw [fr b z] at q;cases q) (e b o q),fun b hb => (h.more b hb).elim (fr b) fun z => ?_⟩
 cases q : σ0 b with
 | none => rfl
 | some o => rw [e b o q] at z;cases z
section
variable {w : World} {σ σ' : Sg} {x a : Addr} {M : Dfa} {c : DfaCells}
theorem DfaIs.ninst (hM : DfaIs w σ x M c) {o : Obj} (h : σ a = some o) (hc : o.cls = .type "dict" ∨ o.cls = .type "set" ∨ o.cls = .type "list") : x ≠ a:=fun z => by
 have:=hM.inst.obj
 rw [z,h] at this
 cases this
 rcases hc with h | h | h <;> cases h
theorem DfaIs.nset (hM : DfaIs w σ x M c) {o : Obj} (h : σ a = some o) (hc : o.cls ≠ .type "set") : c.Fa ≠ a:=fun z => by
 refine xe12 hM.fin fun S s1 _ => ?_
 refine xe32 s1.obj fun _ _ _ q _ => ?_
 rw [z,h] at q;cases q;exact hc rfl
theorem DfaIs.nlist (hM : DfaIs w σ x M c) {o : Obj} (h : σ a = some o) (hc : o.cls ≠ .type "list") {q : Qs} {b : Addr} (hb : c.out q = some b) : b ≠ a:=fun z => by
 refine xe32 (hM.outl q b hb) fun _ _ _ q _ => ?_
 rw [z,h] at q;cases q;exact hc rfl
theorem DfaIs.ndict (hM : DfaIs w σ x M c) {o : Obj} (h : σ a = some o) (hc : o.cls ≠ .type "dict") : c.dx ≠ a ∧ c.D ≠ a ∧ c.E ≠ a ∧ c.G ≠ a ∧ ∀ q d,c.inner q = some d → d ≠ a:=by
 refine ⟨fun z => ?_,fun z => ?_,fun z => ?_,fun z => ?_,fun q d hd z => ?_⟩
 ·have:=hM.inst.dict
  rw [z,h] at this;cases this;exact hc rfl
 ·refine xe13 hM.tr.cell fun o' h1 h2 _ => ?_
  rw [z,h] at h1;cases h1;exact hc h2
 ·refine xe13 hM.df.cell fun o' h1 h2 _ => ?_
  rw [z,h] at h1;cases h1;exact hc h2
 ·refine xe13 hM.out.cell fun o' h1 h2 _ => ?_
  rw [z,h] at h1;cases h1;exact hc h2
 refine xe13 ((hM.inn q d hd).cell) fun o' h1 h2 _ => ?_
 rw [z,h] at h1;cases h1;exact hc h2
theorem DfaIs.putFin (hM : DfaIs w σ x M c) {o : Obj} {S' : List Qs} {k : Qs} (hS : SetIn (k2 pg w) (upd σ c.Fa o) c.Fa S') (hm : ∀ s,s ∈ S' ↔ M.fin s ∨ s = k) (kU : k ∈ M.UQ) :
  DfaIs w (upd σ c.Fa o) x { M with fin:=fun s => M.fin s ∨ s = k } c ∧ Kp c σ c (upd σ c.Fa o):=by
 refine xe12 hM.fin fun S s1 s2 => ?_
 refine xe32 s1.obj fun _ _ _ z _ => ?_
 have tx : TX σ (upd σ c.Fa o):=upd_tx z (by simp)
 have keep : ∀ b ob,b ≠ c.Fa → σ b = some ob → (upd σ c.Fa o) b = some ob:=fun b ob h e => by rw [upd_ne h];exact e
 refine xe05 (hM.ndict z (by simp)) fun n1 n2 n3 n4 n5 => ?_
 refine ⟨?_,fun b ob h e => keep b ob (fun z => h (.inr (.inr (.inl z)))) e,fun b h => .inl h,tx⟩
 exact { hM with
  inst:=⟨keep _ _ (hM.ninst z (.inr (.inl rfl))) hM.inst.obj,keep _ _ n1 hM.inst.dict⟩
  tr:=hM.tr.move tx fun ob e => keep _ _ n2 e
  inn:=fun q d h => (hM.inn q d h).move fun ob e => keep _ _ (n5 q d h) e
  vt:=fun q l => (hM.vt q l).mono tx
  df:=hM.df.move tx fun ob e => keep _ _ n3 e
  vd:=fun q => (hM.vd q).mono tx
  fin:=⟨S',hS,hm⟩
  out:=hM.out.move tx fun ob e => keep _ _ n4 e
  outl:=fun q b hb => (hM.outl q b hb).move fun ob e => keep _ _ (hM.nlist z (by simp) hb) e
  ini:=(k2 pg w).mono tx hM.ini
  finU:=fun s h => h.elim (hM.finU _) fun h => h ▸ kU }
theorem DfaIs.putDf (hM : DfaIs w σ x M c) {o : Obj} {src dst : Qs} {b : Addr} (hD : DH (k2 pg w) (upd σ c.E o) c.E (mapSet (fun q => (c.vd q).map Value.ref) src (.ref b))) (hb : (k2 pg w).is σ dst (.ref b)) (kU : src ∈ M.UQ) :
  ∃ c',DfaIs w (upd σ c.E o) x { M with df:=fun q => if q = src then some dst else M.df q } c' ∧ Kp c σ c' (upd σ c.E o) ∧ c'.out = c.out ∧ c'.G = c.G:=by
 refine xe13 hM.df.cell fun oe z zc _ => ?_
 have tx : TX σ (upd σ c.E o):=upd_tx z (by rw [zc];simp)
 have keep : ∀ b ob,b ≠ c.E → σ b = some ob → (upd σ c.E o) b = some ob:=fun b ob h e => by rw [upd_ne h];exact e
 refine ⟨{ c with vd:=fun q => if q = src then some b else c.vd q },?_,⟨fun b ob h e => keep b ob (fun z => h (.inr (.inl z))) e,fun b h => .inl h,tx⟩,rfl,rfl⟩
 exact { hM with
  inst:=⟨keep _ _ (hM.ninst z (.inl zc)) hM.inst.obj,keep _ _ hM.dE hM.inst.dict⟩
  tr:=hM.tr.move tx fun ob e => keep _ _ hM.DE e
  inn:=fun q d h => (hM.inn q d h).move fun ob e => keep _ _ (fun z => hM.iE q (z ▸ h)) e
  vt:=fun q l => (hM.vt q l).mono tx
  df:=by
   have : (fun q => (if q = src then some b else c.vd q).map Value.ref) = mapSet (fun q => (c.vd q).map Value.ref) src (.ref b):=by
    funext q;unfold mapSet;split <;> rfl
   show DH _ _ _ (fun q => (if q = src then some b else c.vd q).map Value.ref)
   rw [this];exact hD
  vd:=fun q => by
   show OptIs w _ (if q = src then some b else c.vd q) (if q = src then some dst else M.df q)
   split
   ·exact .inr ⟨b,dst,rfl,rfl,(k2 pg w).mono tx hb⟩
   exact (hM.vd q).mono tx
  fin:=let ⟨S,s1,s2⟩:=hM.fin;⟨S,s1.move tx fun ob e => keep _ _ (hM.nset z (by rw [zc];simp)) e,s2⟩
  out:=hM.out.move tx fun ob e => keep _ _ (Ne.symm hM.EG) e
  outl:=fun q b hb => (hM.outl q b hb).move fun ob e => keep _ _ (hM.nlist z (by rw [zc];simp) hb) e
  ini:=(k2 pg w).mono tx hM.ini
  dfU:=fun q h => by
   by_cases hq : q = src
   ·exact hq ▸ kU
   exact hM.dfU q (by simpa [hq] using h) }
theorem DfaIs.putTr (hM : DfaIs w σ x M c) (h0 : ∀ q,c.out q = none) {o : Obj} {src dst : Qs} {l : Str} {b d : Addr} (hd : c.inner src = some d) (hD : DS pg w (upd σ d o) d (smapSet (fun l => (c.vt src l).map Value.ref) l (.ref b))) (hb : (k2 pg w).is σ dst (.ref b)) (lU : l ∈ M.LU) :
  ∃ c',DfaIs w (upd σ d o) x { M with tr:=fun q l' => if q = src ∧ l' = l then some dst else M.tr q l' } c' ∧ Kp c σ c' (upd σ d o) ∧ c'.out = c.out ∧ c'.G = c.G:=by
 refine xe13 ((hM.inn _ _ hd).cell) fun oe z zc _ => ?_
 have tx : TX σ (upd σ d o):=upd_tx z (by rw [zc];simp)
 have keep : ∀ b ob,b ≠ d → σ b = some ob → (upd σ d o) b = some ob:=fun b ob h e => by rw [upd_ne h];exact e
 refine ⟨{ c with vt:=fun q l' => if q = src ∧ l' = l then some b else c.vt q l' },?_,⟨fun b ob h e => keep b ob (fun z => h (.inr (.inr (.inr (.inr ⟨src,z ▸ hd⟩))))) e,fun b h => .inl h,tx⟩,rfl,rfl⟩
 exact { hM with
  inst:=⟨keep _ _ (hM.ninst z (.inl zc)) hM.inst.obj,keep _ _ (fun z => hM.id src (z ▸ hd)) hM.inst.dict⟩
  tr:=hM.tr.move tx fun ob e => keep _ _ (fun z => hM.iD src (z ▸ hd)) e
  inn:=fun q d' h => by
   by_cases hq : q = src
   ·subst hq
    have h' : c.inner q = some d':=h
    rw [hd] at h';cases h'
    have : (fun l' => (if q = q ∧ l' = l then some b else c.vt q l').map Value.ref) = smapSet (fun l => (c.vt q l).map Value.ref) l (.ref b):=by
     funext l';unfold smapSet
     by_cases hl : l' = l <;> simp [hl]
    rw [this];exact hD
   have : (fun l' => (if q = src ∧ l' = l then some b else c.vt q l').map Value.ref) = fun l => (c.vt q l).map Value.ref:=by
    funext l';simp [hq]
   rw [this]
   exact (hM.inn q d' h).move fun ob e => keep _ _ (fun z => hq (hM.inj _ _ _ (z ▸ h) hd)) e
  vt:=fun q l' => by
   show OptIs w _ (if q = src ∧ l' = l then some b else c.vt q l') (if q = src ∧ l' = l then some dst else M.tr q l')
   split
   ·exact .inr ⟨b,dst,rfl,rfl,(k2 pg w).mono tx hb⟩
   exact (hM.vt q l').mono tx
  lin:=fun q l' a' h => by
   by_cases hq : q = src ∧ l' = l
   ·exact ⟨d,hq.1 ▸ hd⟩
   exact hM.lin q l' a' (by simpa [hq] using h)
  df:=hM.df.move tx fun ob e => keep _ _ (fun z => hM.iE src (z ▸ hd)) e
  vd:=fun q => (hM.vd q).mono tx
  fin:=xe12 (hM.fin) fun S s1 s2 => ⟨S,s1.move tx fun ob e => keep _ _ (hM.nset z (by rw [zc];simp)) e,s2⟩
  out:=hM.out.move tx fun ob e => keep _ _ (fun z => hM.iG src (z ▸ hd)) e
  outl:=fun q b hb => by
   have hb' : c.out q = some b:=hb
   rw [h0] at hb';cases hb'
  ini:=(k2 pg w).mono tx hM.ini
  vtL:=fun q l' h => by
   by_cases hq : q = src ∧ l' = l
   ·exact hq.2 ▸ lU
   exact hM.vtL q l' (by simpa [hq] using h) }
theorem DfaIs.putIn (hM : DfaIs w σ x M c) {o od : Obj} {src : Qs} {d : Addr} (hd : c.inner src = none) (hdn : σ d = none) (hDs : DS pg w (upd σ d od) d (fun _ => none)) (hD : DH (k2 pg w) (upd (upd σ d od) c.D o) c.D (mapSet (fun q => (c.inner q).map Value.ref) src (.ref d))) (kU : src ∈ M.UQ) :
  ∃ c',DfaIs w (upd (upd σ d od) c.D o) x M c' ∧ Kp c σ c' (upd (upd σ d od) c.D o) ∧ c'.out = c.out ∧ c'.G = c.G ∧ c'.inner src = some d:=by
 refine xe13 hM.tr.cell fun oe z zc _ => ?_
 have hDd : c.D ≠ d:=ne_of_none hdn z
 have tx : TX σ (upd (upd σ d od) c.D o):=(Ext.upd hdn).tx.trans (upd_tx ((Ext.upd hdn) _ _ z) (by rw [zc];simp))
 have keep : ∀ b ob,b ≠ c.D → σ b = some ob → (upd (upd σ d od) c.D o) b = some ob:=fun b ob h e => by rw [upd_ne h,upd_ne (ne_of_none hdn e)];exact e
 have hv0 : ∀ l,c.vt src l = none:=fun l => by
  cases q : c.vt src l with
  | none => rfl
  | some a => refine xe11 (hM.lin _ _ _ q) fun d' h' => ?_;rw [hd] at h';cases h'
 have nd : ∀ q d',c.inner q = some d' → d' ≠ d:=fun q d' h => by
  refine xe12 ((hM.inn q d' h).cell) fun _ z1 _ => ?_
  exact ne_of_none hdn z1
 refine ⟨{ c with inner:=fun q => if q = src then some d else c.inner q },?_,⟨fun b ob h e => keep b ob (fun z => h (.inl z)) e,fun b h => ?_,tx⟩,rfl,rfl,by simp⟩
 ·exact { hM with
   inst:=⟨keep _ _ (hM.ninst z (.inl zc)) hM.inst.obj,keep _ _ hM.dD hM.inst.dict⟩
   tr:=by
    have : (fun q => (if q = src then some d else c.inner q).map Value.ref) = mapSet (fun q => (c.inner q).map Value.ref) src (.ref d):=by
     funext q;unfold mapSet;split <;> rfl
    rw [this];exact hD
   inn:=fun q d' h => by
    by_cases hq : q = src
    ·subst hq
     simp at h;subst h
     have : (fun l => (c.vt q l).map Value.ref) = fun _ => none:=by funext l;rw [hv0];rfl
     rw [this]
     exact hDs.move fun ob e => by rw [upd_ne (Ne.symm hDd)];exact e
    simp [hq] at h
    exact (hM.inn q d' h).move fun ob e => keep _ _ (fun z => hM.iD q (z ▸ h)) e
   vt:=fun q l => (hM.vt q l).mono tx
   lin:=fun q l a' h => by
    refine xe11 (hM.lin q l a' h) fun d' h' => ?_
    by_cases hq : q = src
    ·exact ⟨d,by simp [hq]⟩
    exact ⟨d',by simp [hq,h']⟩
   inj:=fun q q' d' h h' => by
    by_cases hq : q = src <;> by_cases hq' : q' = src
    ·rw [hq,hq']
    ·simp [hq] at h;simp [hq'] at h';exact absurd h.symm (nd _ _ h')
    ·simp [hq] at h;simp [hq'] at h';exact absurd h'.symm (nd _ _ h)
    simp [hq] at h;simp [hq'] at h';exact hM.inj _ _ _ h h'
   df:=hM.df.move tx fun ob e => keep _ _ (Ne.symm hM.DE) e
   vd:=fun q => (hM.vd q).mono tx
   fin:=xe12 (hM.fin) fun S s1 s2 => ⟨S,s1.move tx fun ob e => keep _ _ (hM.nset z (by rw [zc];simp)) e,s2⟩
   out:=hM.out.move tx fun ob e => keep _ _ (Ne.symm hM.DG) e
   outl:=fun q b hb => (hM.outl q b hb).move fun ob e => keep _ _ (hM.nlist z (by rw [zc];simp) hb) e
   ini:=(k2 pg w).mono tx hM.ini
   id:=fun q h => by
    by_cases hq : q = src
    ·simp [hq] at h
     have:=hM.inst.dict
     rw [← h,hdn] at this;cases this
    simp [hq] at h;exact hM.id q h
   iD:=fun q h => by
    by_cases hq : q = src
    ·simp [hq] at h;exact hDd h.symm
    simp [hq] at h;exact hM.iD q h
   iE:=fun q h => by
    by_cases hq : q = src
    ·simp [hq] at h
     refine xe12 hM.df.cell fun _ z1 _ => ?_
     rw [← h,hdn] at z1;cases z1
    simp [hq] at h;exact hM.iE q h
   iG:=fun q h => by
    by_cases hq : q = src
    ·simp [hq] at h
     refine xe12 hM.out.cell fun _ z1 _ => ?_
     rw [← h,hdn] at z1;cases z1
    simp [hq] at h;exact hM.iG q h
   inU:=fun q d' h => by
    by_cases hq : q = src
    ·exact hq ▸ kU
    simp [hq] at h;exact hM.inU q d' h }
 rcases h with h | h | h | h | zq1
 ·exact .inl (.inl h)
 ·exact .inl (.inr (.inl h))
 ·exact .inl (.inr (.inr (.inl h)))
 ·exact .inl (.inr (.inr (.inr (.inl h))))
 refine xe11 zq1 fun q h => ?_
 try clear zq1
 by_cases hq : q = src
 ·simp [hq] at h;exact .inr (h ▸ hdn)
 simp [hq] at h;exact .inl (.inr (.inr (.inr (.inr ⟨q,h⟩))))
theorem DfaIs.putOut (hM : DfaIs w σ x M c) {o : Obj} {q₀ : Qs} {b : Addr} (hD : DH (k2 pg w) (upd σ c.G o) c.G (mapSet (fun q => (c.out q).map Value.ref) q₀ (.ref b))) (hb : OutIs σ b (M.tr q₀)) (kU : q₀ ∈ M.UQ) :
  ∃ c',DfaIs w (upd σ c.G o) x M c' ∧ Kp c σ c' (upd σ c.G o) ∧ ∀ q,c'.out q = if q = q₀ then some b else c.out q:=by
 refine xe13 hM.out.cell fun oe z zc _ => ?_
 have tx : TX σ (upd σ c.G o):=upd_tx z (by rw [zc];simp)
 have keep : ∀ b ob,b ≠ c.G → σ b = some ob → (upd σ c.G o) b = some ob:=fun b ob h e => by rw [upd_ne h];exact e
 have hbG : b ≠ c.G:=fun h => by
  refine xe32 hb fun _ _ _ h1 _ => ?_
  try clear hb
  rw [h,z] at h1;cases h1;simp at zc
 refine ⟨{ c with out:=fun q => if q = q₀ then some b else c.out q },?_,⟨fun b ob h e => keep b ob (fun z => h (.inr (.inr (.inr (.inl z))))) e,fun b h => .inl h,tx⟩,fun q => rfl⟩
 exact { hM with
  inst:=⟨keep _ _ (hM.ninst z (.inl zc)) hM.inst.obj,keep _ _ hM.dG hM.inst.dict⟩
  tr:=hM.tr.move tx fun ob e => keep _ _ hM.DG e
  inn:=fun q d h => (hM.inn q d h).move fun ob e => keep _ _ (fun z => hM.iG q (z ▸ h)) e
  vt:=fun q l => (hM.vt q l).mono tx
  df:=hM.df.move tx fun ob e => keep _ _ hM.EG e
  vd:=fun q => (hM.vd q).mono tx
  fin:=let ⟨S,s1,s2⟩:=hM.fin;⟨S,s1.move tx fun ob e => keep _ _ (hM.nset z (by rw [zc];simp)) e,s2⟩
  out:=by
   have : (fun q => (if q = q₀ then some b else c.out q).map Value.ref) = mapSet (fun q => (c.out q).map Value.ref) q₀ (.ref b):=by
    funext q;unfold mapSet;split <;> rfl
   show DH _ _ _ (fun q => (if q = q₀ then some b else c.out q).map Value.ref)
   rw [this];exact hD
  outl:=fun q a' h => by
   by_cases hq : q = q₀
   ·subst hq
    simp at h;subst h
    exact hb.move fun ob e => keep _ _ hbG e
   simp [hq] at h
   exact (hM.outl q a' h).move fun ob e => keep _ _ (hM.nlist z (by rw [zc];simp) h) e
  ini:=(k2 pg w).mono tx hM.ini
  outU:=fun q a' h => by
   by_cases hq : q = q₀
   ·exact hq ▸ kU
   simp [hq] at h;exact hM.outU q a' h }
theorem DfaIs.away2 {y : Addr} (hM : DfaIs w σ y M c) (tx : TX σ σ') (keep : ∀ b o,(Foot c b ∨ b = y ∨ b = c.dx ∨ ∃ q,c.out q = some b) → σ b = some o → σ' b = some o) : DfaIs w σ' y M c :=
 { hM with
  inst:=⟨keep _ _ (.inr (.inl rfl)) hM.inst.obj,keep _ _ (.inr (.inr (.inl rfl))) hM.inst.dict⟩
  tr:=hM.tr.move tx fun o => keep _ _ (.inl (.inl rfl))
  inn:=fun q d h => (hM.inn q d h).move fun o => keep _ _ (.inl (.inr (.inr (.inr (.inr ⟨q,h⟩)))))
  vt:=fun q l => (hM.vt q l).mono tx
  df:=hM.df.move tx fun o => keep _ _ (.inl (.inr (.inl rfl)))
  vd:=fun q => (hM.vd q).mono tx
  fin:=xe12 (hM.fin) fun S s1 s2 => ⟨S,s1.move tx fun o => keep _ _ (.inl (.inr (.inr (.inl rfl)))),s2⟩
  out:=hM.out.move tx fun o => keep _ _ (.inl (.inr (.inr (.inr (.inl rfl)))))
  outl:=fun q a h => (hM.outl q a h).move fun o => keep _ _ (.inr (.inr (.inr ⟨q,h⟩)))
  ini:=(k2 pg w).mono tx hM.ini }
noncomputable def Ou (c : DfaCells) (σ : Sg) (c' : DfaCells) : Prop:=∀ q b,c'.out q = some b → c.out q = some b ∨ σ b = none
end
noncomputable def Srt (q : Qs) : Prop:=q.Pairwise (fun a b => lexLt a b = true)
theorem lex_irr (a : St) : lexLt a a = false:=by
 cases h : lexLt a a with
 | false => rfl
 | true => have:=lex_asym h;rw [h] at this;exact this
theorem srt_uniq : ∀ {p q : Qs},Srt p → Srt q → (∀ k,k ∈ p ↔ k ∈ q) → p = q
 | [],[],_,_,_ => rfl
 | [],b :: q,_,_,h => absurd ((h b).mpr (.head _)) (by simp)
 | a :: p,[],_,_,h => absurd ((h a).mp (.head _)) (by simp)
 | a :: p,b :: q,hp,hq,h => by
  have hp':=List.pairwise_cons.mp hp
  have hq':=List.pairwise_cons.mp hq
  have hab : a = b:=by
   rcases List.mem_cons.mp ((h a).mp (.head _)) with h1 | h1
   ·exact h1
   rcases List.mem_cons.mp ((h b).mpr (.head _)) with h2 | h2
   ·exact h2.symm
   have h3:=hp'.1 b h2
   have h4:=hq'.1 a h1
   rw [lex_asym h3] at h4;cases h4
  subst hab
  congr 1
  refine srt_uniq hp'.2 hq'.2 fun k => ⟨fun hk => ?_,fun hk => ?_⟩
  ·rcases List.mem_cons.mp ((h k).mp (.tail _ hk)) with h1 | h1
   ·subst h1
    have:=hp'.1 k hk
    rw [lex_irr] at this;cases this
   exact h1
  rcases List.mem_cons.mp ((h k).mpr (.tail _ hk)) with h1 | h1
  ·subst h1
   have:=hq'.1 k hk
   rw [lex_irr] at this;cases this
  exact h1
noncomputable def qOf (P : St → Prop) : Qs:=Classical.epsilon fun q => Srt q ∧ ∀ k,k ∈ q ↔ P k
theorem qOf_eq {P : St → Prop} {q : Qs} (h : Srt q) (hm : ∀ k,k ∈ q ↔ P k) : qOf P = q:=by
 have hs : ∃ q,Srt q ∧ ∀ k,k ∈ q ↔ P k:=⟨q,h,hm⟩
 refine xe02 (Classical.epsilon_spec hs) fun h1 h2 => ?_
 exact srt_uniq h1 h fun k => (h2 k).trans (hm k).symm
noncomputable def nq (N : Nfa) (q : Qs) (l : Str) : Qs:=qOf (Clo N.tr (fun d => ∃ k ∈ q,N.tr k l d ∨ N.tr k anyS d))
noncomputable def q0 (N : Nfa) : Qs:=qOf (Clo N.tr (· = N.ini))
noncomputable def labs (N : Nfa) (q : Qs) (l : Str) : Prop:=∃ k ∈ q,∃ d,N.tr k l d
inductive Reach (N : Nfa) : Qs → Prop
 | ini : Reach N (q0 N)
 | step {q l} : Reach N q → labs N q l → l ≠ eps → Reach N (nq N q l)
noncomputable def subs : Qs → List Qs
 | [] => [[]]
 | a :: l => subs l ++ (subs l).map (a :: ·)
theorem subs_len : ∀ l : Qs,(subs l).length = 2 ^ l.length
 | [] => rfl
 | a :: l => by
  show (subs l ++ (subs l).map (a :: ·)).length = 2 ^ l.length * 2
  rw [List.length_append,List.length_map,subs_len l,Nat.mul_two]
theorem mem_subs : ∀ {U q : Qs},Srt U → Srt q → (∀ k ∈ q,k ∈ U) → q ∈ subs U
 | [],[],_,_,_ => .head _
 | [],a :: q,_,_,h => absurd (h a (.head _)) (by simp)
 | a :: U,[],hU,_,_ => by
  have:=mem_subs (U:=U) (q:=[]) (List.pairwise_cons.mp hU).2 .nil (fun k hk => nomatch hk)
  exact List.mem_append_left _ this
 | a :: U,b :: q,hU,hq,h => by
  have hU':=List.pairwise_cons.mp hU
  have hq':=List.pairwise_cons.mp hq
  by_cases hab : b = a
  ·subst hab
   refine List.mem_append_right _ (List.mem_map.mpr ⟨q,mem_subs hU'.2 hq'.2 fun k hk => ?_,rfl⟩)
   rcases List.mem_cons.mp (h k (.tail _ hk)) with h1 | h1
   ·subst h1
    have:=hq'.1 k hk
    rw [lex_irr] at this;cases this
   exact h1
  refine List.mem_append_left _ (mem_subs hU'.2 hq fun k hk => ?_)
  rcases List.mem_cons.mp (h k hk) with h1 | h1
  ·subst h1
   rcases List.mem_cons.mp hk with h2 | h2
   ·exact absurd h2.symm hab
   rcases List.mem_cons.mp (h b (.head _)) with h3 | h3
   ·exact absurd h3 hab
   have h4:=hU'.1 b h3
   have h5:=hq'.1 k h2
   rw [lex_asym h4] at h5;cases h5
  exact h1
noncomputable def uq (U : Qs) : List Qs:=(subs U).filter fun q => !q.isEmpty
theorem nil_subs : ∀ U : Qs,[] ∈ subs U
 | [] => .head _
 | a :: U => List.mem_append_left _ (nil_subs U)
theorem uq_len {U : Qs} (h : U.length ≤ 10) : (uq U).length ≤ 1023:=by
 have h1 : (uq U).length < (subs U).length:=by
  have : ∀ (l : List Qs),[] ∈ l → (l.filter fun q => !q.isEmpty).length < l.length:=by
   intro l
   induction l with
   | nil => intro h;cases h
   | cons a l ih =>
    intro h
    cases a with
    | nil => simp;exact Nat.lt_succ_of_le (List.length_filter_le _ _)
    | cons x r =>
     have:=ih (by simpa using h)
     simp at this ⊢;lia
  exact this _ (nil_subs U)
 rw [subs_len] at h1
 have : 2 ^ U.length ≤ 2 ^ 10:=Nat.pow_le_pow_right (by decide) h
 lia
theorem mem_uq {U q : Qs} (hU : Srt U) (hq : Srt q) (h : ∀ k ∈ q,k ∈ U) (hn : q ≠ []) : q ∈ uq U :=
 List.mem_filter.mpr ⟨mem_subs hU hq h,by cases q with | nil => exact absurd rfl hn | cons _ _ => rfl⟩
structure Okq (N : Nfa) (q : Qs) : Prop where
 srt : Srt q
 sub : ∀ k ∈ q,k ∈ N.U
 ne : q ≠ []
noncomputable def DoneL (N : Nfa) (M : Dfa) (Sn : List Qs) (q : Qs) (l : Str) : Prop:=nq N q l ∈ Sn ∧ (l = anyS → M.df q = some (nq N q l)) ∧ (l ≠ anyS → M.tr q l = some (nq N q l))
structure Inv (N : Nfa) (M : Dfa) (Dn Al Sn fr : List Qs) : Prop where
 sTr : ∀ q l q',M.tr q l = some q' → labs N q l ∧ l ≠ eps ∧ l ≠ anyS ∧ q' = nq N q l
 sDf : ∀ q q',M.df q = some q' → labs N q anyS ∧ q' = nq N q anyS
 sFi : ∀ q,M.fin q → ∃ k ∈ q,N.fin k
 ini : M.ini = q0 N
 don : ∀ q ∈ Dn,(∀ l,labs N q l → l ≠ eps → DoneL N M Sn q l) ∧ ((∃ k ∈ q,N.fin k) → M.fin q)
 sn : ∀ q ∈ Sn,q ∈ Al ∨ q ∈ fr
 st : q0 N ∈ Al ∨ q0 N ∈ fr
 ok : ∀ q ∈ fr,Okq N q
 sU : ∀ q ∈ Sn,q ∈ uq N.U
 hU : M.UQ = uq N.U
 hL : M.LU = N.LU
structure Le (M M' : Dfa) : Prop where
 tr : ∀ q l q',M.tr q l = some q' → M'.tr q l = some q'
 df : ∀ q q',M.df q = some q' → M'.df q = some q'
 fin : ∀ q,M.fin q → M'.fin q
theorem DoneL.mono {N : Nfa} {M M' : Dfa} {Sn Sn' : List Qs} {q : Qs} {l : Str} (h : DoneL N M Sn q l) (le : Le M M') (hs : ∀ q ∈ Sn,q ∈ Sn') : DoneL N M' Sn' q l :=
 ⟨hs _ h.1,fun e => le.df _ _ (h.2.1 e),fun e => le.tr _ _ _ (h.2.2 e)⟩
theorem Le.refl (M : Dfa) : Le M M:=⟨fun _ _ _ h => h,fun _ _ h => h,fun _ h => h⟩
section
variable {N : Nfa} {M : Dfa} {Dn Al Sn fr : List Qs} {q : Qs} {l : Str}
theorem Inv.addFin (h : Inv N M Dn Al Sn fr) (hq : ∃ k ∈ q,N.fin k) : Inv N { M with fin:=fun s => M.fin s ∨ s = q } Dn Al Sn fr ∧ Le M { M with fin:=fun s => M.fin s ∨ s = q }:=by
 have le : Le M { M with fin:=fun s => M.fin s ∨ s = q }:=⟨fun _ _ _ h => h,fun _ _ h => h,fun _ h => .inl h⟩
 exact ⟨{ h with sFi:=fun s hs => hs.elim (h.sFi s) fun e => e ▸ hq,don:=fun s hs => ⟨fun l a b => ((h.don s hs).1 l a b).mono le fun _ h => h,fun e => .inl ((h.don s hs).2 e)⟩ },le⟩
theorem Inv.addTr (h : Inv N M Dn Al Sn fr) (hl : labs N q l) (h1 : l ≠ eps) (h2 : l ≠ anyS) :
  Inv N { M with tr:=fun q' l' => if q' = q ∧ l' = l then some (nq N q l) else M.tr q' l' } Dn Al Sn fr ∧ Le M { M with tr:=fun q' l' => if q' = q ∧ l' = l then some (nq N q l) else M.tr q' l' }:=by
 have le : Le M { M with tr:=fun q' l' => if q' = q ∧ l' = l then some (nq N q l) else M.tr q' l' }:=⟨fun a b c e => by
  show (if a = q ∧ b = l then some (nq N q l) else M.tr a b) = some c
  split
  ·rename_i hab
   refine xe02 hab fun zq1 zq2 => ?_
   try clear hab
   subst zq1
   subst zq2
   rw [(h.sTr _ _ _ e).2.2.2]
  exact e,fun _ _ h => h,fun _ h => h⟩
 refine ⟨{ h with sTr:=fun a b c e => ?_,don:=fun s hs => ⟨fun l a b => ((h.don s hs).1 l a b).mono le fun _ h => h,(h.don s hs).2⟩ },le⟩
 have e' : (if a = q ∧ b = l then some (nq N q l) else M.tr a b) = some c:=e
 by_cases hab : a = q ∧ b = l
 ·rw [if_pos hab] at e'
  refine xe02 hab fun zq3 zq4 => ?_
  try clear hab
  subst zq3
  subst zq4
  exact ⟨hl,h1,h2,(Option.some.inj e').symm⟩
 rw [if_neg hab] at e'
 exact h.sTr _ _ _ e'
theorem Inv.addDf (h : Inv N M Dn Al Sn fr) (hl : labs N q anyS) :
  Inv N { M with df:=fun q' => if q' = q then some (nq N q anyS) else M.df q' } Dn Al Sn fr ∧ Le M { M with df:=fun q' => if q' = q then some (nq N q anyS) else M.df q' }:=by
 have le : Le M { M with df:=fun q' => if q' = q then some (nq N q anyS) else M.df q' }:=⟨fun _ _ _ h => h,fun a c e => by
  show (if a = q then some (nq N q anyS) else M.df a) = some c
  split
  ·rename_i hab
   subst hab
   rw [(h.sDf _ _ e).2]
  exact e,fun _ h => h⟩
 refine ⟨{ h with sDf:=fun a c e => ?_,don:=fun s hs => ⟨fun l a b => ((h.don s hs).1 l a b).mono le fun _ h => h,(h.don s hs).2⟩ },le⟩
 have e' : (if a = q then some (nq N q anyS) else M.df a) = some c:=e
 by_cases hab : a = q
 ·rw [if_pos hab] at e'
  subst hab
  exact ⟨hl,(Option.some.inj e').symm⟩
 rw [if_neg hab] at e'
 exact h.sDf _ _ e'
theorem Inv.push (h : Inv N M Dn Al Sn fr) (hq : Okq N q) (hU : Srt N.U) {Sn' : List Qs} (hs : ∀ p,p ∈ Sn' ↔ p ∈ Sn ∨ p = q) : Inv N M Dn Al Sn' (fr ++ [q]) :=
 { h with
  don:=fun s a => ⟨fun l b c => ((h.don s a).1 l b c).mono (Le.refl M) fun p hp => (hs p).mpr (.inl hp),(h.don s a).2⟩
  sn:=fun p hp => by
   rcases (hs p).mp hp with h1 | h1
   ·exact (h.sn p h1).imp id (List.mem_append_left _)
   exact .inr (List.mem_append_right _ (by simp [h1]))
  st:=h.st.imp id (List.mem_append_left _)
  ok:=fun p hp => by
   rcases List.mem_append.mp hp with h1 | h1
   ·exact h.ok p h1
   simp at h1;exact h1 ▸ hq
  sU:=fun p hp => by
   rcases (hs p).mp hp with h1 | h1
   ·exact h.sU p h1
   exact h1 ▸ mem_uq hU hq.srt hq.sub hq.ne }
theorem Inv.pop (h : Inv N M Dn Al Sn (fr ++ [q])) : Inv N M Dn (q :: Al) Sn fr :=
 { h with
  sn:=fun p hp => by
   rcases h.sn p hp with h1 | h1
   ·exact .inl (.tail _ h1)
   rcases List.mem_append.mp h1 with h2 | h2
   ·exact .inr h2
   simp at h2;exact .inl (h2 ▸ .head _)
  st:=by
   rcases h.st with h1 | h1
   ·exact .inl (.tail _ h1)
   rcases List.mem_append.mp h1 with h2 | h2
   ·exact .inr h2
   simp at h2;exact .inl (h2 ▸ .head _)
  ok:=fun p hp => h.ok p (List.mem_append_left _ hp) }
theorem Inv.fill (h : Inv N M Dn Al Sn fr) (hl : ∀ l,labs N q l → l ≠ eps → DoneL N M Sn q l) (hf : (∃ k ∈ q,N.fin k) → M.fin q) : Inv N M (q :: Dn) Al Sn fr :=
 { h with
  don:=fun p hp => by
   rcases List.mem_cons.mp hp with h1 | h1
   ·subst h1;exact ⟨hl,hf⟩
   exact h.don p h1 }
structure Right (N : Nfa) (M : Dfa) : Prop where
 ini : M.ini = q0 N
 tr : ∀ q,Reach N q → ∀ l,M.tr q l ≠ none ↔ labs N q l ∧ l ≠ eps ∧ l ≠ anyS
 trv : ∀ q l q',M.tr q l = some q' → labs N q l ∧ l ≠ eps ∧ l ≠ anyS ∧ q' = nq N q l
 df : ∀ q,Reach N q → (M.df q ≠ none ↔ labs N q anyS)
 dfv : ∀ q q',M.df q = some q' → labs N q anyS ∧ q' = nq N q anyS
 fin : ∀ q,Reach N q → (M.fin q ↔ ∃ k ∈ q,N.fin k)
theorem Inv.right (h : Inv N M Dn Dn Sn []) (hae : anyS ≠ eps) : Right N M:=by
 have all : ∀ q,Reach N q → q ∈ Dn:=fun q r => by
  induction r with
  | ini => exact h.st.elim id fun z => nomatch z
  | step _ h1 h2 ih =>
   have:=((h.don _ ih).1 _ h1 h2).1
   exact (h.sn _ this).elim id fun z => nomatch z
 refine ⟨h.ini,fun q r l => ⟨fun e => ?_,fun zm1 => xe03 zm1 fun h1 h2 h3 => ?_⟩,h.sTr,fun q r => ⟨fun e => ?_,fun h1 => ?_⟩,h.sDf,fun q r => ⟨h.sFi q,(h.don q (all q r)).2⟩⟩
 ·cases z : M.tr q l with
  | none => exact absurd z e
  | some q' => exact ⟨(h.sTr _ _ _ z).1,(h.sTr _ _ _ z).2.1,(h.sTr _ _ _ z).2.2.1⟩
 ·rw [((h.don q (all q r)).1 l h1 h2).2.2 h3];simp
 ·cases z : M.df q with
  | none => exact absurd z e
  | some q' => exact (h.sDf _ _ z).1
 rw [((h.don q (all q r)).1 _ h1 hae).2.1 rfl];simp
end
structure LabJ (w : World) (σ : Sg) (N : Nfa) (c : NfaCells) (q : List St) (x b la : Addr) (i : Nat) (m : Str → Option Value) (σ' : Sg) : Prop where
 m2 : m (Str.ofString "transitions") = some (.ref c.D)
 m3 : m (Str.ofString "labels") = some (.ref b)
 ext : Ext σ σ'
 res : ∃ R,SetIn (strV pg w) σ' b R ∧ ∀ l,l ∈ R ↔ ∃ j k,j < i ∧ q[j]? = some k ∧ ∃ d,N.tr k l d
theorem labelsN (w : World) (σ : Sg) (x : Addr) (N : Nfa) (c : NfaCells) (hN : NfaIs w σ x N c) {q : List St} {la : Addr} (hq : (k2 pg w).is σ q (.ref la)) :
  Spec w 212 3 [.ref x,.ref la] [] σ (fun v σ' => Ext σ σ' ∧ ∃ b R,v = .ref b ∧ SetIn (strV pg w) σ' b R ∧ ∀ l,l ∈ R ↔ ∃ k ∈ q,∃ d,N.tr k l d):=by
 refine' spec_of (binds:=[(Str.ofString "self",.ref x),(Str.ofString "states",.ref la)]) ?ho ?hcd ?hb ?hl ?c1 ?c2 ?c3 ?c4 ?_;((case ho => k_is);(case hcd => k_is);(case hb => (first | (intro _ _;exact BindsTo.of_eq rfl) | (intro _ Xh;exact binds_K Xh rfl (by k_is) rfl rfl rfl)));(case hl => exact locs rfl);(case c1 => exact rfl);(case c2 => exact rfl);(case c3 => exact rfl);(case c4 => decide))
 intro A g L ι s C F O env R;have X:=C.X;refine xe31 C.T fun mean mg mb T => ?_;have S0:=Same.refl s
 have I:=hN.inst
 refine xe33 hq fun _ items cn e0 hla hit => ?_
 try clear hq
 cases e0
 refine xH ?_;intro _ _
 iterate 2 walk1
 first | refine xN ?_ | walk1
 (refine iget ‹_› ‹_› ‹_› ‹_› (by k_is) (by k_is) (by k_is) (by k_is) (by first | assumption | rfl) (by rfl) (quietly ‹_› ‹_› ?_);intro _ hq _ _;have _:=Same.trans ‹_› hq;clear hq)
 refine xS ?_;intros
 refine xH ?_;intro _ _
 iterate 2 walk1
 first | refine xN ?_ | walk1
 walk1
 refine snew0 ‹_› ‹_› fun s₁ b hb q₁ F₁ O₁ => ?_
 have qq₁:=Same.trans ‹_› q₁
 refine xS ?_;intros
 refine xH ?_;intro _ _
 refine wpAny_For ?_
 first | refine xN ?_ | walk1
 have hlen : q.length = items.size:=hit.length.trans Array.length_toList
 refine forTup (items:=items) (cn:=cn) (LabJ w σ N c q x b la) C.hh ‹_› ‹_› (fun i m σ' J => J.ext _ _ hla) ⟨rfl,rfl,Ext.upd hb,[],set0_in _,fun d => by simp⟩ (fun i v m₂ σ₂ s₂ ι' back q₂ hi hv J F₂ O₂ => ?_) fun m₂ σ₂ s₂ q₂ F₂ O₂ J => ?_
 ·clear q₂
  refine xe12 (hit.get2 (i:=i) (b:=v) (by rw [Array.getElem?_toList];exact hv)) fun k hkq hk => ?_
  refine xe12 J.res fun R hR hR2 => ?_
  have hN₂:=hN.move J.ext
  have hk₂:=(k1 pg w).mono J.ext.tx hk
  have S2:=Same.refl s₂
  have m2:=J.m2
  have m3:=J.m3
  have hU : ∀ l ∈ R,l ∈ N.LU:=fun l hl => by
   refine xe23 ((hR2 l).mp hl) fun _ k' _ _ zq15 => ?_
   refine xe11 zq15 fun d h => ?_
   try clear zq15
   refine xe11 (hN.has _ _ _ h) fun a' ha' => ?_
   exact hN.labU _ _ _ ha'
  have hRl : R.length ≤ 60:=Nat.le_trans (nodup_sub hR.nd hU) hN.bL
  have fin : ∀ (s' : Shared) m' σ',Same s₂ s' → Fr g L s'.heap m' → Own ι' g L s'.heap σ' → m' (Str.ofString "transitions") = some (.ref c.D) → m' (Str.ofString "labels") = some (.ref b) → Ext σ σ' →
    (∃ R',SetIn (strV pg w) σ' b R' ∧ ∀ l,l ∈ R' ↔ l ∈ R ∨ ∃ d,N.tr k l d) → Turn (LabJ w σ N c q x b la) ι' g L s₂ (i + 1) s':=fun s' m' σ' q' F' O' a2 a3 e' zm1 => xe12 zm1 fun R' r1 r2 => by
   refine Turn.mk' q' F' O' ⟨a2,a3,e',R',r1,fun d => ?_⟩
   rw [r2,hR2]
   constructor
   ·rintro (⟨j,k',hj,h1,h2⟩ | h)
    ·exact ⟨j,k',by lia,h1,h2⟩
    exact ⟨i,k,by exact xs43,hkq,h⟩
   intro zq16
   refine xe23 zq16 fun j k' hj h1 h2 => ?_
   try clear zq16
   rcases Nat.lt_or_ge j i with z | z
   ·exact .inl ⟨j,k',z,h1,h2⟩
   have : j = i:=by lia
   subst this
   rw [hkq] at h1;cases h1;exact .inr h2
  refine xH ?_;intro _ _
  iterate 2 walk1
  first | refine xN ?_ | walk1
  first | refine xN ?_ | walk1
  refine din (k1d _ _) (k1r _ _) (C.r1 (by decide)) ‹_› hN₂.tr hk₂ (quietly ‹_› ‹_› ?_)
  (intro _ hq _ _;have _:=Same.trans ‹_› hq;clear hq)
  cases hin : c.inner k with
  | none =>
   simp only [Option.map_none,Option.isSome_none]
   iterate 4 walk1
   refine fin _ _ _ ‹_› ‹_› ‹_› ?_ ?_ J.ext ⟨R,hR,fun l => ⟨.inl,fun h => h.elim id fun zm4 => xe11 zm4 fun d h => ?_⟩⟩
   ·exact m2
   ·exact m3
   refine xe11 (hN.has _ _ _ h) fun a' ha' => ?_
   refine xe11 (hN.lin _ _ _ ha') fun d' hd' => ?_
   rw [hin] at hd';cases hd'
  | some d =>
   simp only [Option.map_some,Option.isSome_some]
   have hDd:=hN₂.inn _ _ hin
   iterate 2 walk1
   refine xH ?_;intro _ _
   iterate 2 walk1
   first | refine xN ?_ | walk1
   refine meth_set ‹_› hR PySem.F.slot_set_update PySem.F.type_set_update ?_
   iterate 3 walk1
   first | refine xN ?_ | walk1
   first | refine xN ?_ | walk1
   refine dsub (k1d _ _) (k1r _ _) (C.r1 (by decide)) ‹_› ‹_› hN₂.tr hk₂ (by rw [hin];rfl) ?_
   (intro _ hq _ _;have _:=Same.trans ‹_› hq;clear hq)
   walk1
   have hbd : b ≠ d:=fun z => by
    refine xe13 ((hN.inn _ _ hin).cell) fun o h1 h2 _ => ?_
    rw [← z,hb] at h1;cases h1
   refine str_update hbd ‹_› ‹_› hR hDd (U:=N.LU) (fun l hl => ?_) (by have:=hN.bL;lia) fun s₈ S₈ ob₈ q₈ F₈ O₈ hS₈ hm₈ => ?_
   ·cases hq : c.lab k l with
    | none => rw [hq] at hl;exact absurd rfl hl
    | some a' => exact hN.labU _ _ _ hq
   have qq₈:=Same.trans ‹_› q₈
   iterate 2 walk1
   refine fin _ _ _ ‹_› F₈ O₈ ?_ ?_ (J.ext.upd' hb) ⟨S₈,hS₈,fun l => ?_⟩
   ·exact m2
   ·exact m3
   rw [hm₈]
   refine or_congr .rfl ⟨fun h => ?_,fun zm5 => xe11 zm5 fun d' h => ?_⟩
   ·cases hq : c.lab k l with
    | none => rw [hq] at h;exact absurd rfl h
    | some a' => exact hN.ne _ _ _ hq
   refine xe11 (hN.has _ _ _ h) fun a' ha' => ?_
   rw [ha'];simp
 have qq₂:=Same.trans ‹_› q₂
 clear q₂
 have m3:=J.m3
 refine xe12 J.res fun R hR hR2 => ?_
 walk1
 refine xH ?_;intro _ _
 walk1
 first | refine xN ?_ | walk1
 (show Ends _ _ _ _ _ _ _;refine Ends.mk' ‹_› ‹_› ‹_› ?_)
 refine ⟨J.ext,b,R,rfl,hR,fun l => ?_⟩
 rw [hR2]
 constructor
 ·intro zq17
  refine xe23 zq17 fun j k' _ h1 h2 => ?_
  try clear zq17
  exact ⟨k',List.mem_of_getElem? h1,h2⟩
 intro zq18
 refine xe12 zq18 fun k' h1 h2 => ?_
 try clear zq18
 refine xe11 (List.mem_iff_getElem?.mp h1) fun j hj => ?_
 exact ⟨j,k',by rw [← hlen];exact (List.getElem?_eq_some_iff.mp hj).1,hj,h2⟩
structure NextJ (w : World) (σ : Sg) (N : Nfa) (c : NfaCells) (q : List St) (lb : Str) (tk : Tok) (x b la : Addr) (i : Nat) (m : Str → Option Value) (σ' : Sg) : Prop where
 m1 : m (Str.ofString "self") = some (.ref x)
 m2 : m (Str.ofString "transitions") = some (.ref c.D)
 m3 : m (Str.ofString "dest_states") = some (.ref b)
 m4 : m (Str.ofString "label") = some (.str lb tk)
 ext : Ext σ σ'
 res : ∃ R,SetIn (k1 pg w) σ' b R ∧ ∀ d,d ∈ R ↔ ∃ j k,j < i ∧ q[j]? = some k ∧ (N.tr k lb d ∨ N.tr k anyS d)
inductive NextM (w : World) (ι : Sd) (g : Heap) (L : Addr) (s₂ : Shared) (σ : Sg) (N : Nfa) (c : NfaCells) (k : St) (lb : Str) (tk : Tok) (x b d : Addr) (R : List St) (s' : Shared) : Prop
 | ofx (m') (σ') (R1) (h1 : Same s₂ s') (h2 : Fr g L s'.heap m') (h3 : Own ι g L s'.heap σ') (h4 : m' (Str.ofString "self") = some (.ref x)) (h5 : m' (Str.ofString "transitions") = some (.ref c.D)) (h6 : m' (Str.ofString "dest_states") = some (.ref b)) (h7 : m' (Str.ofString "label") = some (.str lb tk)) (h8 : m' (Str.ofString "xs") = some (.ref d)) (h9 : Ext σ σ') (h10 : SetIn (k1 pg w) σ' b R1) (h11 : ∀ e,e ∈ R1 ↔ e ∈ R ∨ N.tr k lb e)
theorem nextN (w : World) (σ : Sg) (x : Addr) (N : Nfa) (c : NfaCells) (hN : NfaIs w σ x N c) (hone : ∀ k d d',N.tr k eps d → N.tr k eps d' → d = d') {q : List St} {la : Addr} (hq : (k2 pg w).is σ q (.ref la)) (lb : Str) (tk : Tok) :
  Spec w 205 4 [.ref x,.ref la,.str lb tk] [] σ (fun v σ' => Ext σ σ' ∧ IsQ w σ' (Clo N.tr (fun d => ∃ k ∈ q,N.tr k lb d ∨ N.tr k anyS d)) v):=by
 refine' spec_of (binds:=[(Str.ofString "self",.ref x),(Str.ofString "states",.ref la),(Str.ofString "label",.str lb tk)]) ?ho ?hcd ?hb ?hl ?c1 ?c2 ?c3 ?c4 ?_;((case ho => k_is);(case hcd => k_is);(case hb => (first | (intro _ _;exact BindsTo.of_eq rfl) | (intro _ Xh;exact binds_K Xh rfl (by k_is) rfl rfl rfl)));(case hl => exact locs rfl);(case c1 => exact rfl);(case c2 => exact rfl);(case c3 => exact rfl);(case c4 => decide))
 intro A g L ι s C F O env R;have X:=C.X;refine xe31 C.T fun mean mg mb T => ?_;have S0:=Same.refl s
 have I:=hN.inst
 refine xe33 hq fun _ items cn e0 hla hit => ?_
 try clear hq
 cases e0
 refine xH ?_;intro _ _
 iterate 2 walk1
 first | refine xN ?_ | walk1
 (refine iget ‹_› ‹_› ‹_› ‹_› (by k_is) (by k_is) (by k_is) (by k_is) (by first | assumption | rfl) (by rfl) (quietly ‹_› ‹_› ?_);intro _ hq _ _;have _:=Same.trans ‹_› hq;clear hq)
 refine xS ?_;intros
 refine xH ?_;intro _ _
 iterate 2 walk1
 first | refine xN ?_ | walk1
 walk1
 refine snew0 ‹_› ‹_› fun s₁ b hb q₁ F₁ O₁ => ?_
 have qq₁:=Same.trans ‹_› q₁
 refine xS ?_;intros
 refine xH ?_;intro _ _
 refine wpAny_For ?_
 first | refine xN ?_ | walk1
 have hlb : la ≠ b:=ne_of_none hb hla
 refine forTup (items:=items) (cn:=cn) (NextJ w σ N c q lb tk x b la) C.hh ‹_› ‹_› (fun i m σ' J => J.ext _ _ hla) ⟨rfl,rfl,rfl,rfl,Ext.upd hb,[],set0_in _,fun d => by simp⟩ (fun i v m₂ σ₂ s₂ ι' back q₂ hi hv J F₂ O₂ => ?_) fun m₂ σ₂ s₂ q₂ F₂ O₂ J => ?_
 ·have qq₂:=q₂
  refine xe12 (hit.get2 (i:=i) (b:=v) (by rw [Array.getElem?_toList];exact hv)) fun k hkq hk => ?_
  refine xe12 J.res fun R hR hR2 => ?_
  have hN₂:=hN.move J.ext
  have hk₂:=(k1 pg w).mono J.ext.tx hk
  have S2:=Same.refl s₂
  have m1:=J.m1
  have m2:=J.m2
  have m3:=J.m3
  have m4:=J.m4
  have fin : ∀ (s' : Shared) m' σ',Same s₂ s' → Fr g L s'.heap m' → Own ι' g L s'.heap σ' → m' (Str.ofString "self") = some (.ref x) → m' (Str.ofString "transitions") = some (.ref c.D) → m' (Str.ofString "dest_states") = some (.ref b) → m' (Str.ofString "label") = some (.str lb tk) → Ext σ σ' →
    (∃ R',SetIn (k1 pg w) σ' b R' ∧ ∀ d,d ∈ R' ↔ d ∈ R ∨ N.tr k lb d ∨ N.tr k anyS d) → Turn (NextJ w σ N c q lb tk x b la) ι' g L s₂ (i + 1) s':=fun s' m' σ' q' F' O' a1 a2 a3 a4 e' zm1 => xe12 zm1 fun R' r1 r2 => by
   refine Turn.mk' q' F' O' ⟨a1,a2,a3,a4,e',R',r1,fun d => ?_⟩
   rw [r2,hR2]
   constructor
   ·rintro (⟨j,k',hj,h1,h2⟩ | h)
    ·exact ⟨j,k',by lia,h1,h2⟩
    exact ⟨i,k,by exact xs43,hkq,h⟩
   intro zq210
   refine xe23 zq210 fun j k' hj h1 h2 => ?_
   try clear zq210
   rcases Nat.lt_or_ge j i with z | z
   ·exact .inl ⟨j,k',z,h1,h2⟩
   have : j = i:=by lia
   subst this
   rw [hkq] at h1;cases h1;exact .inr h2
  have hU : ∀ d ∈ R,d ∈ N.U:=fun d hd => by
   refine xe23 ((hR2 d).mp hd) fun _ _ _ _ h => ?_
   exact h.elim (hN.trU _ _ _) (hN.trU _ _ _)
  have hRl : R.length ≤ 60:=Nat.le_trans (nodup_sub hR.nd hU) hN.bU
  have hm : ∀ (l : Str) (z : Addr),c.lab k l = some z → z ≠ b:=fun l z hz e => by
   refine xe12 (hN.lab _ _ _ hz) fun S hS _ => ?_
   refine xe32 hS.obj fun _ _ _ y _ => ?_
   rw [e,hb] at y;cases y
  refine xH ?_;intro _ _
  iterate 2 walk1
  first | refine xN ?_ | walk1
  first | refine xN ?_ | walk1
  refine din (k1d _ _) (k1r _ _) (C.r1 (by decide)) ‹_› hN₂.tr hk₂ (quietly ‹_› ‹_› ?_)
  (intro _ hq _ _;have _:=Same.trans ‹_› hq;clear hq)
  cases hin : c.inner k with
  | none =>
   simp only [Option.map_none,Option.isSome_none]
   have none : ∀ l d,¬ N.tr k l d:=fun l d h => by
    refine xe11 (hN.has _ _ _ h) fun a' ha' => ?_
    refine xe11 (hN.lin _ _ _ ha') fun d' hd' => ?_
    rw [hin] at hd';cases hd'
   iterate 4 walk1
   refine fin _ _ _ ‹_› ‹_› ‹_› ?_ ?_ ?_ ?_ J.ext ⟨R,hR,fun d => ⟨.inl,fun h => h.elim id fun h => (h.elim (none _ _) (none _ _)).elim⟩⟩
   ·exact m1
   ·exact m2
   ·exact m3
   exact m4
  | some d =>
   simp only [Option.map_some,Option.isSome_some]
   have hDd:=hN₂.inn _ _ hin
   iterate 2 walk1
   refine xH ?_;intro _ _
   iterate 2 walk1
   first | refine xN ?_ | walk1
   first | refine xN ?_ | walk1
   refine dsub (k1d _ _) (k1r _ _) (C.r1 (by decide)) ‹_› ‹_› hN₂.tr hk₂ (by rw [hin];rfl) ?_
   (intro _ hq _ _;have _:=Same.trans ‹_› hq;clear hq)
   refine xS ?_;intros
   refine wpAny_execs_cons (wpAny_mono (Q:=fun f s' => f = Flow.next ∧ NextM w ι' g L s₂ σ N c k lb tk x b d R s') (E:=fun _ _ => False) ?_ (fun f s' h => ?_) fun _ _ e => e)
   ·iterate 2 walk1
    first | refine xN ?_ | walk1
    first | refine xN ?_ | walk1
    refine sdin ‹_› hDd (quietly ‹_› ‹_› ?_)
    (intro _ hq _ _;have _:=Same.trans ‹_› hq;clear hq)
    cases hl1 : c.lab k lb with
    | none =>
     simp only [Option.map_none,Option.isSome_none]
     iterate 3 walk1
     refine ⟨rfl,_,_,R,by assumption,by assumption,by assumption,?_,?_,?_,?_,?_,J.ext,hR,fun e => ⟨.inl,fun h => h.elim id fun h => ?_⟩⟩
     ·exact m1
     ·exact m2
     ·exact m3
     ·exact m4
     ·rfl
     refine xe11 (hN.has _ _ _ h) fun a' ha' => ?_
     rw [hl1] at ha';cases ha'
    | some a1 =>
     refine xe12 (hN₂.lab _ _ _ hl1) fun S1 hS1 hS1m => ?_
     have hS1l : S1.length ≤ 60:=Nat.le_trans (nodup_sub hS1.nd fun d hd => hN.trU _ _ _ ((hS1m d).mp hd)) hN.bU
     simp only [Option.map_some,Option.isSome_some]
     iterate 2 walk1
     refine xH ?_;intro _ _
     iterate 2 walk1
     first | refine xN ?_ | walk1
     refine meth_set ‹_› hR PySem.F.slot_set_update PySem.F.type_set_update ?_
     iterate 3 walk1
     first | refine xN ?_ | walk1
     first | refine xN ?_ | walk1
     refine sdsub ‹_› ‹_› hDd (by rw [hl1];rfl) ?_
     (intro _ hq _ _;have _:=Same.trans ‹_› hq;clear hq)
     walk1
     refine supdate (k1d _ _) (k1r _ _) (tup_loud _) (C.r1 (by decide)) (Ne.symm (hm _ _ hl1)) ‹_› ‹_› hR hS1 (by lia) fun s₈ S₈ ob₈ q₈ F₈ O₈ hS₈ hm₈ hcls₈ => ?_
     have qq₈:=Same.trans ‹_› q₈
     walk1
     have hbe : Ext σ (upd σ₂ b ob₈):=J.ext.upd' hb
     refine ⟨rfl,_,_,S₈,by assumption,F₈,O₈,?_,?_,?_,?_,?_,hbe,hS₈,fun e => by rw [hm₈,hS1m]⟩
     ·exact m1
     ·exact m2
     ·exact m3
     ·exact m4
     rfl
   refine xe02 h fun zq206 zq207 => ?_
   try clear h
   subst zq206
   refine holdP ?_;intro G;rcases zq207 with ⟨m',σ',R1,q',F',O',m1,m2,m3,m4,m5,e',hR1,hR1m⟩;unfold G;clear G
   have hN':=hN.move e'
   have hDd':=hN'.inn _ _ hin
   have hU1 : ∀ d ∈ R1,d ∈ N.U:=fun d hd => ((hR1m d).mp hd).elim (hU d) (hN.trU _ _ _)
   have hR1l : R1.length ≤ 60:=Nat.le_trans (nodup_sub hR1.nd hU1) hN.bU
   refine xH ?_;intro _ _
   iterate 2 walk1
   first | refine xN ?_ | walk1
   first | refine xN ?_ | walk1
   refine sdin ‹_› hDd' (quietly ‹_› ‹_› ?_)
   (intro _ hq _ _;have _:=Same.trans ‹_› hq;clear hq)
   cases hl2 : c.lab k anyS with
   | none =>
    simp only [Option.map_none,Option.isSome_none]
    iterate 5 walk1
    refine fin _ _ _ ‹_› ‹_› ‹_› ?_ ?_ ?_ ?_ e' ⟨R1,hR1,fun e => ?_⟩
    ·exact m1
    ·exact m2
    ·exact m3
    ·exact m4
    rw [hR1m]
    constructor
    ·rintro (h | h)
     ·exact .inl h
     exact .inr (.inl h)
    rintro (h | h | h)
    ·exact .inl h
    ·exact .inr h
    refine xe11 (hN.has _ _ _ h) fun a' ha' => ?_
    rw [hl2] at ha';cases ha'
   | some a1 =>
    refine xe12 (hN'.lab _ _ _ hl2) fun S1 hS1 hS1m => ?_
    have hS1l : S1.length ≤ 60:=Nat.le_trans (nodup_sub hS1.nd fun d hd => hN.trU _ _ _ ((hS1m d).mp hd)) hN.bU
    simp only [Option.map_some,Option.isSome_some]
    iterate 2 walk1
    refine xH ?_;intro _ _
    iterate 2 walk1
    first | refine xN ?_ | walk1
    refine meth_set ‹_› hR1 PySem.F.slot_set_update PySem.F.type_set_update ?_
    iterate 3 walk1
    first | refine xN ?_ | walk1
    first | refine xN ?_ | walk1
    refine sdsub ‹_› ‹_› hDd' (by rw [hl2];rfl) ?_
    (intro _ hq _ _;have _:=Same.trans ‹_› hq;clear hq)
    walk1
    refine supdate (k1d _ _) (k1r _ _) (tup_loud _) (C.r1 (by decide)) (Ne.symm (hm _ _ hl2)) ‹_› ‹_› hR1 hS1 (by lia) fun s₈ S₈ ob₈ q₈ F₈ O₈ hS₈ hm₈ hcls₈ => ?_
    have qq₈:=Same.trans ‹_› q₈
    iterate 3 walk1
    refine fin _ _ _ ‹_› F₈ O₈ ?_ ?_ ?_ ?_ (e'.upd' hb) ⟨S₈,hS₈,fun e => ?_⟩
    ·exact m1
    ·exact m2
    ·exact m3
    ·exact m4
    rw [hm₈,hS1m,hR1m]
    constructor
    ·rintro ((h | h) | h)
     ·exact .inl h
     ·exact .inr (.inl h)
     exact .inr (.inr h)
    rintro (h | h | h)
    ·exact .inl (.inl h)
    ·exact .inl (.inr h)
    exact .inr h
 have qq₂:=Same.trans ‹_› q₂
 clear q₂
 have m1:=J.m1
 have m3:=J.m3
 refine xe12 J.res fun R hR hR2 => ?_
 have I₂:=I.move J.ext
 walk1
 refine xH ?_;intro _ _
 iterate 2 walk1
 first | refine xN ?_ | walk1
 iterate 3 walk1
 first | refine xN ?_ | walk1
 iterate 3 walk1
 first | refine xN ?_ | walk1
 refine imeth ‹_› ‹_› ‹_› ‹_› (by k_is) (by k_is) (by k_is) (by first | assumption | rfl) ?_
 iterate 2 walk1
 first | refine xN ?_ | walk1
 walk1
 have hU : ∀ d ∈ R,d ∈ N.U:=fun d hd => by
  refine xe23 ((hR2 d).mp hd) fun _ _ _ _ h => ?_
  exact h.elim (hN.trU _ _ _) (hN.trU _ _ _)
 refine ⟨X.keeps (by assumption : Fr g L s₂.heap m₂).keep,?_⟩
 refine (expandN w _ σ x b N c hN J.ext hb R hR hU hone).call C ‹_› ‹_› fun v σ₃ s₃ q₃ F₃ O₃ hP => ?_
 have qq₃:=Same.trans ‹_› q₃
 refine xe03 hP fun zq208 b3 zq209 => ?_
 try clear hP
 subst zq208
 refine xe12 zq209 fun S₃ hS₃ hm₃ => ?_
 try clear zq209
 have e3:=ext_but J.ext hb b3
 have hU3 : ∀ k ∈ S₃,k ∈ N.U:=fun k hk => clo_sub hN hU ((hm₃ k).mp hk)
 have hl3 : S₃.length ≤ 60:=Nat.le_trans (nodup_sub hS₃.nd hU3) hN.bU
 walk1
 refine ssorted C.hh ‹_› ‹_› hS₃ (fun k hk => hN.neU k (hU3 k hk)) (by lia) fun s₄ D S₄ vs cc hD q₄ F₄ O₄ p₄ w₄ a₄ => ?_
 have qq₄:=Same.trans ‹_› q₄
 have e4:=e3.trans (Ext.upd (o:=listOf vs.toArray cc) hD)
 have hvl : vs.length ≤ 60:=by rw [← a₄.length,p₄.length_eq];exact hl3
 walk1
 refine stuple ‹_› ‹_› (upd_self ..) (by lia) fun s₅ t ht q₅ F₅ O₅ => ?_
 have qq₅:=Same.trans ‹_› q₅
 have e5:=e4.trans (Ext.upd (o:=tupOf vs 0) ht)
 (show Ends _ _ _ _ _ _ _;refine Ends.mk' ‹_› ‹_› ‹_› ?_)
 refine ⟨e5,S₄,⟨t,_,_,rfl,upd_self ..,?_⟩,w₄,fun k => ?_⟩
 ·exact a₄.imp fun _ _ r => (k1 pg w).mono ((Ext.upd (o:=listOf vs.toArray cc) hD).trans (Ext.upd (o:=tupOf vs 0) ht)).tx r
 rw [p₄.mem_iff,hm₃]
 refine clo_congr (fun k => ?_) k
 rw [hR2]
 have hlen : q.length = items.size:=hit.length.trans Array.length_toList
 constructor
 ·intro zq211
  refine xe23 zq211 fun j k' _ h1 h2 => ?_
  try clear zq211
  exact ⟨k',List.mem_of_getElem? h1,h2⟩
 intro zq212
 refine xe12 zq212 fun k' h1 h2 => ?_
 try clear zq212
 refine xe11 (List.mem_iff_getElem?.mp h1) fun j hj => ?_
 exact ⟨j,k',by rw [← hlen];exact (List.getElem?_eq_some_iff.mp hj).1,hj,h2⟩
theorem isFinalN (w : World) (σ : Sg) (x : Addr) (N : Nfa) (c : NfaCells) (hN : NfaIs w σ x N c) {q : List St} {l : Addr} (hq : (k2 pg w).is σ q (.ref l)) (hql : q.length ≤ 60) :
  Spec w 191 3 [.ref x,.ref l] [] σ (fun v σ' => Ext σ σ' ∧ ∃ b,v = .bool b ∧ (b = true ↔ ∃ k ∈ q,N.fin k)):=by
 refine' spec_of (binds:=[(Str.ofString "self",.ref x),(Str.ofString "states",.ref l)]) ?ho ?hcd ?hb ?hl ?c1 ?c2 ?c3 ?c4 ?_;((case ho => k_is);(case hcd => k_is);(case hb => (first | (intro _ _;exact BindsTo.of_eq rfl) | (intro _ Xh;exact binds_K Xh rfl (by k_is) rfl rfl rfl)));(case hl => exact locs rfl);(case c1 => exact rfl);(case c2 => exact rfl);(case c3 => exact rfl);(case c4 => decide))
 intro A g L ι s C F O env R;have X:=C.X;refine xe31 C.T fun mean mg mb T => ?_;have S0:=Same.refl s
 have I:=hN.inst
 refine xe12 hN.fin fun FS hF hF2 => ?_
 have hFl : FS.length ≤ 60:=Nat.le_trans (nodup_sub hF.nd fun k hk => hN.finU k ((hF2 k).mp hk)) hN.bU
 refine xH ?_;intro _ _
 iterate 2 walk1
 first | refine xN ?_ | walk1
 iterate 4 walk1
 first | refine xN ?_ | walk1
 (refine iget ‹_› ‹_› ‹_› ‹_› (by k_is) (by k_is) (by k_is) (by k_is) (by first | assumption | rfl) (by rfl) (quietly ‹_› ‹_› ?_);intro _ hq _ _;have _:=Same.trans ‹_› hq;clear hq)
 refine meth_set ‹_› hF PySem.F.slot_set_intersection PySem.F.type_set_intersection ?_
 iterate 2 walk1
 first | refine xN ?_ | walk1
 walk1
 refine sinter C.hh (k1d _ _) (k1r _ _) (C.r1 (by decide)) ‹_› ‹_› hF (by lia) (by lia) hq fun s₁ b o R hb q₁ F₁ O₁ hR hR2 => ?_
 have qq₁:=Same.trans ‹_› q₁
 walk1
 refine sbool ‹_› hR (quietly ‹_› ‹_› ?_)
 (intro _ hq _ _;have _:=Same.trans ‹_› hq;clear hq)
 (show Ends _ _ _ _ _ _ _;refine Ends.mk' ‹_› ‹_› ‹_› ?_)
 refine ⟨Ext.upd hb,_,rfl,?_⟩
 constructor
 ·intro h
  apply Classical.byContradiction
  intro hn
  have : R = []:=hR2.mpr fun k hk hk2 => hn ⟨k,hk,(hF2 k).mp hk2⟩
  rw [this] at h;simp at h
 intro zq1
 refine xe12 zq1 fun k hk hf => ?_
 try clear zq1
 cases R with
 | nil => exact absurd ((hF2 k).mpr hf) (hR2.mp rfl k hk)
 | cons _ _ => rfl
structure KX (dx : Addr) (σ σ' : Sg) : Prop where
 keep : ∀ b ob,b ≠ dx → σ b = some ob → σ' b = some ob
 tx : TX σ σ'
theorem KX.trans {dx : Addr} {σ σ' σ'' : Sg} (h : KX dx σ σ') (k : KX dx σ' σ'') : KX dx σ σ'':=⟨fun b ob n e => k.keep b ob n (h.keep b ob n e),h.tx.trans k.tx⟩
theorem kx1 {dx : Addr} {σ : Sg} {es : List DictEntry} {n : Nat} {o' : Obj} (h : σ dx = some (dictOf es n)) : KX dx σ (upd σ dx o'):=⟨fun b ob n e => by rw [upd_ne n];exact e,upd_tx h (by simp)⟩
theorem kx2 {dx d : Addr} {σ : Sg} {o : Obj} (h : σ d = none) : KX dx σ (upd σ d o):=⟨fun b ob n e => (Ext.upd h) _ _ e,(Ext.upd h).tx⟩
theorem initD (w : World) (σ : Sg) (x dx iv : Addr) (n : Nat) (I : Inst σ x dx 334 [] n) (ini : Qs) (hi : (k2 pg w).is σ ini (.ref iv)) (UQ : List Qs) (LU : List Str) (bU : UQ.length ≤ 1023) (bL : LU.length ≤ 60) :
  Spec w 252 3 [.ref x,.ref iv] [] σ (fun v σ' => v = .none ∧ ∃ c,DfaIs w σ' x ⟨fun _ _ => none,fun _ => none,fun _ => False,ini,UQ,LU⟩ c ∧ (∀ q,c.out q = none) ∧ KX dx σ σ' ∧ ∀ b,Foot c b → σ b = none):=by
 refine' spec_of (binds:=[(Str.ofString "self",.ref x),(Str.ofString "initial",.ref iv)]) ?ho ?hcd ?hb ?hl ?c1 ?c2 ?c3 ?c4 ?_;((case ho => k_is);(case hcd => k_is);(case hb => (first | (intro _ _;exact BindsTo.of_eq rfl) | (intro _ Xh;exact binds_K Xh rfl (by k_is) rfl rfl rfl)));(case hl => exact locs rfl);(case c1 => exact rfl);(case c2 => exact rfl);(case c3 => exact rfl);(case c4 => decide))
 intro A g L ι s C F O env R;have X:=C.X;refine xe31 C.T fun mean mg mb T => ?_;have S0:=Same.refl s
 have hb:=modules_low T.nolimit
 refine xH ?_;intro _ _
 walk1
 first | refine xN ?_ | walk1
 first | refine xN ?_ | walk1
 (refine iset ‹_› ‹_› ‹_› ‹_› (by k_is) (by k_is) (by k_is) (by k_is) (by first | rfl | decide) (by first | decide | (simp;done)) ?_;intro _ _ _ hq _ _;have _:=Same.trans ‹_› hq;clear hq)
 rename_i s1 h1 t1 F1 O1 q1
 have I₁:=I.set (es':=[⟨h1,.str (Str.ofString "initial") t1,.ref iv⟩]) (n':=putN (Str.ofString "initial") [] n)
 refine xH ?_;intro _ _
 walk1
 refine znewDict ‹_› ‹_› hb fun s₂ D hn2 hl2 q₂ F₂ O₂ => ?_
 have qq₂:=Same.trans ‹_› q₂
 have e2:=Ext.upd (o:=emptyD) hn2
 have I₂:=I₁.move e2
 first | refine xN ?_ | walk1
 (refine iset ‹_› ‹_› ‹_› ‹_› (by k_is) (by k_is) (by k_is) (by k_is) (by first | rfl | decide) (by first | decide | (simp;done)) ?_;intro _ _ _ hq _ _;have _:=Same.trans ‹_› hq;clear hq)
 rename_i s3 h2 t2 F3 O3 q3
 have I₃:=I₂.set (es':=[⟨h1,.str (Str.ofString "initial") t1,.ref iv⟩,⟨h2,.str (Str.ofString "transitions") t2,.ref D⟩]) (n':=putN (Str.ofString "transitions") [⟨h1,.str (Str.ofString "initial") t1,.ref iv⟩] (putN (Str.ofString "initial") [] n))
 refine xH ?_;intro _ _
 walk1
 refine znewDict ‹_› ‹_› hb fun s₄ E hn4 hl4 q₄ F₄ O₄ => ?_
 have qq₄:=Same.trans ‹_› q₄
 have e4:=Ext.upd (o:=emptyD) hn4
 have I₄:=I₃.move e4
 first | refine xN ?_ | walk1
 (refine iset ‹_› ‹_› ‹_› ‹_› (by k_is) (by k_is) (by k_is) (by k_is) (by first | rfl | decide) (by first | decide | (simp;done)) ?_;intro _ _ _ hq _ _;have _:=Same.trans ‹_› hq;clear hq)
 rename_i s5 h3 t3 F5 O5 q5
 have I₅:=I₄.set (es':=[⟨h1,.str (Str.ofString "initial") t1,.ref iv⟩,⟨h2,.str (Str.ofString "transitions") t2,.ref D⟩,⟨h3,.str (Str.ofString "defaults") t3,.ref E⟩]) (n':=putN (Str.ofString "defaults") [⟨h1,.str (Str.ofString "initial") t1,.ref iv⟩,⟨h2,.str (Str.ofString "transitions") t2,.ref D⟩] (putN (Str.ofString "transitions") [⟨h1,.str (Str.ofString "initial") t1,.ref iv⟩] (putN (Str.ofString "initial") [] n)))
 refine xH ?_;intro _ _
 iterate 2 walk1
 first | refine xN ?_ | walk1
 walk1
 refine snew0 ‹_› ‹_› fun s₆ Fa hn6 q₆ F₆ O₆ => ?_
 have qq₆:=Same.trans ‹_› q₆
 have e6:=Ext.upd (o:=set0 w) hn6
 have I₆:=I₅.move e6
 first | refine xN ?_ | walk1
 (refine iset ‹_› ‹_› ‹_› ‹_› (by k_is) (by k_is) (by k_is) (by k_is) (by first | rfl | decide) (by first | decide | (simp;done)) ?_;intro _ _ _ hq _ _;have _:=Same.trans ‹_› hq;clear hq)
 rename_i s7 h4 t4 F7 O7 q7
 generalize hn4' : (putN (Str.ofString "defaults") [⟨h1,.str (Str.ofString "initial") t1,.ref iv⟩,⟨h2,.str (Str.ofString "transitions") t2,.ref D⟩] (putN (Str.ofString "transitions") [⟨h1,.str (Str.ofString "initial") t1,.ref iv⟩] (putN (Str.ofString "initial") [] n))) = n4 at *
 have I₇:=I₆.set (es':=[⟨h1,.str (Str.ofString "initial") t1,.ref iv⟩,⟨h2,.str (Str.ofString "transitions") t2,.ref D⟩,⟨h3,.str (Str.ofString "defaults") t3,.ref E⟩,⟨h4,.str (Str.ofString "final_states") t4,.ref Fa⟩]) (n':=putN (Str.ofString "final_states") [⟨h1,.str (Str.ofString "initial") t1,.ref iv⟩,⟨h2,.str (Str.ofString "transitions") t2,.ref D⟩,⟨h3,.str (Str.ofString "defaults") t3,.ref E⟩] n4)
 refine xH ?_;intro _ _
 walk1
 refine znewDict ‹_› ‹_› hb fun s₈ G hn8 hl8 q₈ F₈ O₈ => ?_
 have qq₈:=Same.trans ‹_› q₈
 have e8:=Ext.upd (o:=emptyD) hn8
 have I₈:=I₇.move e8
 first | refine xN ?_ | walk1
 (refine iset ‹_› ‹_› ‹_› ‹_› (by k_is) (by k_is) (by k_is) (by k_is) (by first | rfl | decide) (by first | decide | (simp;done)) ?_;intro _ _ _ hq _ _;have _:=Same.trans ‹_› hq;clear hq)
 rename_i s9 h5 t5 F9 O9 q9
 generalize hn5' : putN (Str.ofString "final_states") [⟨h1,.str (Str.ofString "initial") t1,.ref iv⟩,⟨h2,.str (Str.ofString "transitions") t2,.ref D⟩,⟨h3,.str (Str.ofString "defaults") t3,.ref E⟩] n4 = n5 at *
 have I₉:=I₈.set (es':=[⟨h1,.str (Str.ofString "initial") t1,.ref iv⟩,⟨h2,.str (Str.ofString "transitions") t2,.ref D⟩,⟨h3,.str (Str.ofString "defaults") t3,.ref E⟩,⟨h4,.str (Str.ofString "final_states") t4,.ref Fa⟩,⟨h5,.str (Str.ofString "outlabels") t5,.ref G⟩]) (n':=putN (Str.ofString "outlabels") [⟨h1,.str (Str.ofString "initial") t1,.ref iv⟩,⟨h2,.str (Str.ofString "transitions") t2,.ref D⟩,⟨h3,.str (Str.ofString "defaults") t3,.ref E⟩,⟨h4,.str (Str.ofString "final_states") t4,.ref Fa⟩] n5)
 walk1
 (show Ends _ _ _ _ _ _ _;refine Ends.mk' ‹_› ‹_› ‹_› ?_)
 have K1:=kx1 (o':=dictOf [⟨h1,.str (Str.ofString "initial") t1,.ref iv⟩] (putN (Str.ofString "initial") [] n)) I.dict
 have K2:=kx2 (dx:=dx) (o:=emptyD) hn2
 have K3:=kx1 (o':=dictOf [⟨h1,.str (Str.ofString "initial") t1,.ref iv⟩,⟨h2,.str (Str.ofString "transitions") t2,.ref D⟩] (putN (Str.ofString "transitions") [⟨h1,.str (Str.ofString "initial") t1,.ref iv⟩] (putN (Str.ofString "initial") [] n))) I₂.dict
 have K4:=kx2 (dx:=dx) (o:=emptyD) hn4
 have K5:=kx1 (o':=dictOf [⟨h1,.str (Str.ofString "initial") t1,.ref iv⟩,⟨h2,.str (Str.ofString "transitions") t2,.ref D⟩,⟨h3,.str (Str.ofString "defaults") t3,.ref E⟩] n4) I₄.dict
 have K6:=kx2 (dx:=dx) (o:=set0 w) hn6
 have K7:=kx1 (o':=dictOf [⟨h1,.str (Str.ofString "initial") t1,.ref iv⟩,⟨h2,.str (Str.ofString "transitions") t2,.ref D⟩,⟨h3,.str (Str.ofString "defaults") t3,.ref E⟩,⟨h4,.str (Str.ofString "final_states") t4,.ref Fa⟩] n5) I₆.dict
 have K8:=kx2 (dx:=dx) (o:=emptyD) hn8
 have K9:=kx1 (o':=dictOf [⟨h1,.str (Str.ofString "initial") t1,.ref iv⟩,⟨h2,.str (Str.ofString "transitions") t2,.ref D⟩,⟨h3,.str (Str.ofString "defaults") t3,.ref E⟩,⟨h4,.str (Str.ofString "final_states") t4,.ref Fa⟩,⟨h5,.str (Str.ofString "outlabels") t5,.ref G⟩] (putN (Str.ofString "outlabels") [⟨h1,.str (Str.ofString "initial") t1,.ref iv⟩,⟨h2,.str (Str.ofString "transitions") t2,.ref D⟩,⟨h3,.str (Str.ofString "defaults") t3,.ref E⟩,⟨h4,.str (Str.ofString "final_states") t4,.ref Fa⟩] n5)) I₈.dict
 have nD : D ≠ dx:=(ne_of_none hn2 I₁.dict).symm
 have nE : E ≠ dx:=(ne_of_none hn4 I₃.dict).symm
 have nF : Fa ≠ dx:=(ne_of_none hn6 I₅.dict).symm
 have nG : G ≠ dx:=(ne_of_none hn8 I₇.dict).symm
 have K89:=K8.trans K9
 have K79:=K7.trans K89
 have K69:=K6.trans K79
 have K59:=K5.trans K69
 have K49:=K4.trans K59
 have K39:=K3.trans K49
 have K29:=K2.trans K39
 have K19:=K1.trans K29
 have none_ : ∀ {b : Addr} {τ : Sg},KX dx σ τ → τ b = none → b ≠ dx → σ b = none:=fun {b} {τ} k h nb => by
  cases q : σ b with
  | none => rfl
  | some o => rw [k.keep _ _ nb q] at h;cases h
 have DE : D ≠ E:=ne_of_none hn4 (K3.keep _ _ nD (upd_self ..))
 have DG : D ≠ G:=ne_of_none hn8 ((K3.trans (K4.trans (K5.trans (K6.trans K7)))).keep _ _ nD (upd_self ..))
 have EG : E ≠ G:=ne_of_none hn8 ((K5.trans (K6.trans K7)).keep _ _ nE (upd_self ..))
 have z1 : σ D = none:=none_ K1 hn2 nD
 have z2 : σ E = none:=none_ (K1.trans (K2.trans K3)) hn4 nE
 have z3 : σ Fa = none:=none_ (K1.trans (K2.trans (K3.trans (K4.trans K5)))) hn6 nF
 have z4 : σ G = none:=none_ (K1.trans (K2.trans (K3.trans (K4.trans (K5.trans (K6.trans K7)))))) hn8 nG
 refine ⟨rfl,⟨dx,D,E,Fa,G,iv,h1,h2,h3,h4,h5,t1,t2,t3,t4,t5,(putN (Str.ofString "outlabels") [⟨h1,.str (Str.ofString "initial") t1,.ref iv⟩,⟨h2,.str (Str.ofString "transitions") t2,.ref D⟩,⟨h3,.str (Str.ofString "defaults") t3,.ref E⟩,⟨h4,.str (Str.ofString "final_states") t4,.ref Fa⟩] n5),fun _ => none,fun _ _ => none,fun _ => none,fun _ => none⟩,?_,fun q => rfl,K19,?_⟩
 ·exact { inst:=I₉,tr:=(dh0 (k2 pg w) hl2).move K39.tx fun o e => K39.keep _ _ nD e,inn:=fun q d h => (nomatch h),vt:=fun q l => .inl ⟨rfl,rfl⟩,lin:=fun q l a h => (nomatch h),inj:=fun q q' d h => (nomatch h),df:=(dh0 (k2 pg w) hl4).move K59.tx fun o e => K59.keep _ _ nE e,vd:=fun q => .inl ⟨rfl,rfl⟩,fin:=⟨[],(set0_in (w:=w) (k2 pg w)).move K79.tx fun o e => K79.keep _ _ nF e,fun q => by simp⟩,out:=(dh0 (k2 pg w) hl8).move K9.tx fun o e => K9.keep _ _ nG e,outl:=fun q a h => (nomatch h),ini:=(k2 pg w).mono K19.tx hi,dD:=nD.symm,dE:=nE.symm,dG:=nG.symm,DE:=DE,DG:=DG,EG:=EG,id:=fun q h => (nomatch h),iD:=fun q h => (nomatch h),iE:=fun q h => (nomatch h),iG:=fun q h => (nomatch h),bU:=bU,bL:=bL,inU:=fun q d h => (nomatch h),vtL:=fun q l h => absurd rfl h,dfU:=fun q h => absurd rfl h,finU:=fun q h => h.elim,outU:=fun q a h => (nomatch h) }
 rintro b (h | h | h | h | ⟨q,h⟩)
 ·rw [h];exact z1
 ·rw [h];exact z2
 ·rw [h];exact z3
 ·rw [h];exact z4
 cases h
theorem makeD (w : World) (σ : Sg) (iv : Addr) (ini : Qs) (hi : (k2 pg w).is σ ini (.ref iv)) (UQ : List Qs) (LU : List Str) (bU : UQ.length ≤ 1023) (bL : LU.length ≤ 60) :
  Spec w 334 4 [.ref iv] [] σ (fun v σ' => ∃ x c,v = .ref x ∧ DfaIs w σ' x ⟨fun _ _ => none,fun _ => none,fun _ => False,ini,UQ,LU⟩ c ∧ (∀ q,c.out q = none) ∧ Ext σ σ' ∧ ∀ b,Foot c b → σ b = none):=by
 refine Spec.mono (d:=4) (P:=fun v σ' => ∃ x,v = .ref x ∧ ∃ c,DfaIs w σ' x ⟨fun _ _ => none,fun _ => none,fun _ => False,ini,UQ,LU⟩ c ∧ (∀ q,c.out q = none) ∧ Ext σ σ' ∧ ∀ b,Foot c b → σ b = none) ?_ (Nat.le_refl _) fun v σ' zm1 => xe12 zm1 fun x h1 zm3 => by refine holdP ?_;intro G;rcases zm3 with ⟨c,h2⟩;unfold G;clear G;exact ⟨x,c,h1,h2⟩
 refine (spec_make (w:=w) (C:=334) (fI:=252) (d:=3) (args:=[.ref iv]) (P:=fun x σ' => ∃ c,DfaIs w σ' x ⟨fun _ _ => none,fun _ => none,fun _ => False,ini,UQ,LU⟩ c ∧ (∀ q,c.out q = none) ∧ Ext σ σ' ∧ ∀ b,Foot c b → σ b = none) (by k_is) (by k_is) (by k_is) fun x dx hx hdx hne => ?_)
 have e1 : Ext σ (upd σ dx (dictOf [] 0)):=Ext.upd hdx
 have e2 : Ext (upd σ dx (dictOf [] 0)) (upd (upd σ dx (dictOf [] 0)) x (instObj 334 dx)):=Ext.upd (by rw [upd_ne hne];exact hx)
 refine (initD w _ x dx iv 0 ⟨upd_self ..,by rw [upd_ne (Ne.symm hne)];exact upd_self ..⟩ ini ((k2 pg w).mono (e1.trans e2).tx hi) UQ LU bU bL).mono (Nat.le_refl _) fun v σ' ⟨h1,c,h2,h3,h4,h5⟩ => ⟨h1,c,h2,h3,fun b o e => h4.keep b o (ne_of_none hdx e) ((e1.trans e2) b o e),fun b hb => ?_⟩
 have:=h5 b hb
 cases q : σ b with
 | none => rfl
 | some o => rw [(e1.trans e2) b o q] at this;cases this
theorem startD (w : World) (σ : Sg) (x : Addr) (M : Dfa) (c : DfaCells) (hM : DfaIs w σ x M c) :
  Spec w 259 3 [.ref x] [] σ (fun v σ' => v = .ref c.iv ∧ σ' = σ):=by
 refine' spec_of (binds:=[(Str.ofString "self",.ref x)]) ?ho ?hcd ?hb ?hl ?c1 ?c2 ?c3 ?c4 ?_;((case ho => k_is);(case hcd => k_is);(case hb => (first | (intro _ _;exact BindsTo.of_eq rfl) | (intro _ Xh;exact binds_K Xh rfl (by k_is) rfl rfl rfl)));(case hl => exact locs rfl);(case c1 => exact rfl);(case c2 => exact rfl);(case c3 => exact rfl);(case c4 => decide))
 intro A g L ι s C F O env R;have X:=C.X;refine xe31 C.T fun mean mg mb T => ?_;have S0:=Same.refl s
 have I:=hM.inst
 refine xH ?_;intro _ _
 iterate 2 walk1
 first | refine xN ?_ | walk1
 (refine iget ‹_› ‹_› ‹_› ‹_› (by k_is) (by k_is) (by k_is) (by k_is) (by first | assumption | rfl) (by rfl) (quietly ‹_› ‹_› ?_);intro _ hq _ _;have _:=Same.trans ‹_› hq;clear hq)
 (show Ends _ _ _ _ _ _ _;refine Ends.mk' ‹_› ‹_› ‹_› ?_)
 exact ⟨rfl,rfl⟩
theorem addFinalD (w : World) (σ : Sg) (x a : Addr) (M : Dfa) (c : DfaCells) (hM : DfaIs w σ x M c) {q : Qs} (hx : (k2 pg w).is σ q (.ref a)) (hq : q ∈ M.UQ) :
  Spec w 280 3 [.ref x,.ref a] [] σ (fun v σ' => v = .none ∧ DfaIs w σ' x { M with fin:=fun s => M.fin s ∨ s = q } c ∧ Kp c σ c σ'):=by
 refine' spec_of (binds:=[(Str.ofString "self",.ref x),(Str.ofString "state",.ref a)]) ?ho ?hcd ?hb ?hl ?c1 ?c2 ?c3 ?c4 ?_;((case ho => k_is);(case hcd => k_is);(case hb => (first | (intro _ _;exact BindsTo.of_eq rfl) | (intro _ Xh;exact binds_K Xh rfl (by k_is) rfl rfl rfl)));(case hl => exact locs rfl);(case c1 => exact rfl);(case c2 => exact rfl);(case c3 => exact rfl);(case c4 => decide))
 intro A g L ι s C F O env R;have X:=C.X;have S0:=Same.refl s
 have I:=hM.inst
 refine xe12 hM.fin fun S hS hSm => ?_
 have hSl : S.length ≤ 1023:=Nat.le_trans (nodup_sub hS.nd fun k hk => hM.finU k ((hSm k).mp hk)) hM.bU
 refine xH ?_;intro _ _
 iterate 3 walk1
 first | refine xN ?_ | walk1
 (refine iget ‹_› ‹_› ‹_› ‹_› (by k_is) (by k_is) (by k_is) (by k_is) (by first | assumption | rfl) (by rfl) (quietly ‹_› ‹_› ?_);intro _ hq _ _;have _:=Same.trans ‹_› hq;clear hq)
 refine meth_set ‹_› hS PySem.F.slot_set_add PySem.F.type_set_add ?_
 iterate 2 walk1
 first | refine xN ?_ | walk1
 walk1
 refine sadd (k2d _ _) (k2r _ _) (C.r2 (by decide)) ‹_› ‹_› hS hx (by lia) fun s' S' o q F' O' hS' hm hc => ?_
 have hq2:=Same.trans ‹_› q
 walk1
 (show Ends _ _ _ _ _ _ _;refine Ends.mk' ‹_› ‹_› ‹_› ?_)
 refine xe02 (hM.putFin hS' (fun s => by rw [hm,hSm]) hq) fun h1 h2 => ?_
 exact ⟨rfl,h1,h2⟩
theorem isFinalD (w : World) (σ : Sg) (x : Addr) (M : Dfa) (c : DfaCells) (hM : DfaIs w σ x M c) {o : Option Qs} {v : Value} (hv : OptV w σ o v) :
  Spec w 287 3 [.ref x,v] [] σ (fun r σ' => σ' = σ ∧ ∃ b,r = .bool b ∧ (b = true ↔ ∃ q,o = some q ∧ M.fin q)):=by
 refine' spec_of (binds:=[(Str.ofString "self",.ref x),(Str.ofString "state",v)]) ?ho ?hcd ?hb ?hl ?c1 ?c2 ?c3 ?c4 ?_;((case ho => k_is);(case hcd => k_is);(case hb => (first | (intro _ _;exact BindsTo.of_eq rfl) | (intro _ Xh;exact binds_K Xh rfl (by k_is) rfl rfl rfl)));(case hl => exact locs rfl);(case c1 => exact rfl);(case c2 => exact rfl);(case c3 => exact rfl);(case c4 => decide))
 intro A g L ι s C F O env R;have X:=C.X;have S0:=Same.refl s
 have I:=hM.inst
 refine xe12 hM.fin fun S hS hSm => ?_
 refine xH ?_;intro _ _
 iterate 2 walk1
 first | refine xN ?_ | walk1
 walk1
 first | refine xN ?_ | walk1
 (refine iget ‹_› ‹_› ‹_› ‹_› (by k_is) (by k_is) (by k_is) (by k_is) (by first | assumption | rfl) (by rfl) (quietly ‹_› ‹_› ?_);intro _ hq _ _;have _:=Same.trans ‹_› hq;clear hq)
 rcases hv with zq9 | zq10
 ·refine xe02 zq9 fun zq64 zq65 => ?_
  try clear zq9
  subst zq64
  subst zq65
  refine none_in (kd:=k1 pg w) (k2d _ _) (C.r2 (by decide)) ‹_› hS (quietly ‹_› ‹_› ?_)
  (intro _ hq _ _;have _:=Same.trans ‹_› hq;clear hq)
  (show Ends _ _ _ _ _ _ _;refine Ends.mk' ‹_› ‹_› ‹_› ?_)
  exact ⟨rfl,_,rfl,by simp⟩
 refine xe12 zq10 fun q zq66 hq => ?_
 try clear zq10
 subst zq66
 refine sin (k2d _ _) (k2r _ _) (C.r2 (by decide)) ‹_› hS hq (quietly ‹_› ‹_› ?_)
 (intro _ hq _ _;have _:=Same.trans ‹_› hq;clear hq)
 (show Ends _ _ _ _ _ _ _;refine Ends.mk' ‹_› ‹_› ‹_› ?_)
 exact ⟨rfl,_,rfl,by simp [hSm]⟩
theorem setDfD (w : World) (σ : Sg) (x a b : Addr) (M : Dfa) (c : DfaCells) (hM : DfaIs w σ x M c) {src dst : Qs} (ha : (k2 pg w).is σ src (.ref a)) (hb : (k2 pg w).is σ dst (.ref b)) (hq : src ∈ M.UQ) :
  Spec w 273 3 [.ref x,.ref a,.ref b] [] σ (fun v σ' => v = .none ∧ ∃ c',DfaIs w σ' x { M with df:=fun q => if q = src then some dst else M.df q } c' ∧ Kp c σ c' σ' ∧ c'.out = c.out ∧ c'.G = c.G):=by
 refine' spec_of (binds:=[(Str.ofString "self",.ref x),(Str.ofString "src",.ref a),(Str.ofString "dest",.ref b)]) ?ho ?hcd ?hb ?hl ?c1 ?c2 ?c3 ?c4 ?_;((case ho => k_is);(case hcd => k_is);(case hb => (first | (intro _ _;exact BindsTo.of_eq rfl) | (intro _ Xh;exact binds_K Xh rfl (by k_is) rfl rfl rfl)));(case hl => exact locs rfl);(case c1 => exact rfl);(case c2 => exact rfl);(case c3 => exact rfl);(case c4 => decide))
 intro A g L ι s C F O env R;have X:=C.X;have S0:=Same.refl s
 have I:=hM.inst
 refine xH ?_;intro _ _
 walk1
 first | refine xN ?_ | walk1
 walk1
 first | refine xN ?_ | walk1
 (refine iget ‹_› ‹_› ‹_› ‹_› (by k_is) (by k_is) (by k_is) (by k_is) (by first | assumption | rfl) (by rfl) (quietly ‹_› ‹_› ?_);intro _ hq _ _;have _:=Same.trans ‹_› hq;clear hq)
 first | refine xN ?_ | walk1
 refine dset (k2d _ _) (k2r _ _) (C.r2 (by decide)) ‹_› ‹_› hM.df ha (v:=.ref b) ⟨M.UQ,Nat.le_trans hM.bU (by decide),fun k hk => hM.dfU k fun z => hk ?_⟩ fun s' o q F' O' D' hc => ?_
 ·rcases hM.vd k with zq11 | zq12
  ·refine xe02 zq11 fun h1 _ => ?_
   try clear zq11
   rw [h1];rfl
  refine xe23 zq12 fun b' q' h1 h2 _ => ?_
  try clear zq12
  rw [h2] at z;cases z
 have hq2:=Same.trans ‹_› q
 walk1
 (show Ends _ _ _ _ _ _ _;refine Ends.mk' ‹_› ‹_› ‹_› ?_)
 refine xe13 (hM.putDf D' hb hq) fun c' h1 h2 h3 => ?_
 exact ⟨rfl,c',h1,h2,h3⟩
inductive AddD (w : World) (ι : Sd) (g : Heap) (L : Addr) (s : Shared) (m : Str → Option Value) (σ : Sg) (x : Addr) (M : Dfa) (c : DfaCells) (src : Qs) (v : Value) (s' : Shared) : Prop
 | ofx (σ') (c') (d) (h1 : v = .ref d) (h2 : Same s s') (h3 : Fr g L s'.heap m) (h4 : Own ι g L s'.heap σ') (h5 : DfaIs w σ' x M c') (h6 : Kp c σ c' σ') (h7 : c'.out = c.out) (h8 : c'.G = c.G) (h9 : c'.inner src = some d)
theorem addTrD (w : World) (σ : Sg) (x a b : Addr) (M : Dfa) (c : DfaCells) (hM : DfaIs w σ x M c) (h0 : ∀ q,c.out q = none) {src dst : Qs} {l : Str} {tk : Tok} (ha : (k2 pg w).is σ src (.ref a)) (hb : (k2 pg w).is σ dst (.ref b)) (hq : src ∈ M.UQ) (hl : l ∈ M.LU) :
  Spec w 266 3 [.ref x,.ref a,.str l tk,.ref b] [] σ (fun v σ' => v = .none ∧ ∃ c',DfaIs w σ' x { M with tr:=fun q l' => if q = src ∧ l' = l then some dst else M.tr q l' } c' ∧ Kp c σ c' σ' ∧ c'.out = c.out ∧ c'.G = c.G):=by
 refine' spec_of (binds:=[(Str.ofString "self",.ref x),(Str.ofString "src",.ref a),(Str.ofString "label",.str l tk),(Str.ofString "dest",.ref b)]) ?ho ?hcd ?hb ?hl ?c1 ?c2 ?c3 ?c4 ?_;((case ho => k_is);(case hcd => k_is);(case hb => (first | (intro _ _;exact BindsTo.of_eq rfl) | (intro _ Xh;exact binds_K Xh rfl (by k_is) rfl rfl rfl)));(case hl => exact locs rfl);(case c1 => exact rfl);(case c2 => exact rfl);(case c3 => exact rfl);(case c4 => decide))
 intro A g L ι s C F O env R;have X:=C.X;refine xe31 C.T fun mean mg mb T => ?_;have S0:=Same.refl s
 have I:=hM.inst
 refine xH ?_;intro _ _
 walk1
 first | refine xN ?_ | walk1
 iterate 2 walk1
 first | refine xN ?_ | walk1
 (refine iget ‹_› ‹_› ‹_› ‹_› (by k_is) (by k_is) (by k_is) (by k_is) (by first | assumption | rfl) (by rfl) (quietly ‹_› ‹_› ?_);intro _ hq _ _;have _:=Same.trans ‹_› hq;clear hq)
 refine dmeth ‹_› hM.tr PySem.F.slot_dict_setdefault PySem.F.type_dict_setdefault ?_
 iterate 2 walk1
 first | refine xN ?_ | walk1
 walk1
 refine znewDict ‹_› ‹_› (modules_low T.nolimit) fun s₁ d hdn hdl q₁ F₁ O₁ => ?_
 have qq₁:=Same.trans ‹_› q₁
 have e₁:=Ext.upd (o:=emptyD) hdn
 have hM₁:=hM.move e₁
 walk1
 refine wpAny_mono (Q:=AddD w ι g L s (fun y => List.lookup y [(Str.ofString "self",Value.ref x),(Str.ofString "src",.ref a),(Str.ofString "label",.str l tk),(Str.ofString "dest",.ref b)].reverse) σ x M c src) (E:=fun _ _ => False) (dsetdef (k2d _ _) (k2r _ _) (C.r2 (by decide)) F₁ O₁ hM₁.tr ((k2 pg w).mono e₁.tx ha) ⟨M.UQ,Nat.le_trans hM.bU (by decide),fun k hk => ?_⟩ (fun s₂ u q₂ hu => ?_) (fun s₂ o hnone q₂ F₂ O₂ hD₂ hc₂ => ?_)) (fun v s₂ h => ?_) fun _ _ e => e
 ·cases q : c.inner k with
  | none => rw [q] at hk;exact absurd rfl hk
  | some d => exact hM.inU k d q
 ·cases q : c.inner src with
  | none => rw [q] at hu;cases hu
  | some d' =>
   rw [q] at hu
   cases hu
   exact ⟨_,c,d',rfl,Same.trans ‹_› q₂.1,by rw [q₂.2];exact F₁,by rw [q₂.2];exact O₁,hM₁,Kp.ext e₁,rfl,rfl,q⟩
 ·have hin : c.inner src = none:=by
   cases q : c.inner src with
   | none => rfl
   | some d => rw [q] at hnone;cases hnone
  refine xe15 (hM.putIn hin hdn (ds0 hdl) hD₂ hq) fun c' h1 h2 h3 h4 h5 => ?_
  exact ⟨_,c',d,rfl,Same.trans ‹_› q₂,F₂,O₂,h1,h2,h3,h4,h5⟩
 refine holdP ?_;intro G;rcases h with ⟨σ₂,c₂,d₂,rfl,qq₂,F₂,O₂,hM₂,kp₂,ho₂,hG₂,hin₂⟩;unfold G;clear G
 first | refine xN ?_ | walk1
 refine sdset F₂ O₂ (hM₂.inn _ _ hin₂) (v:=.ref b) ⟨M.LU,Nat.le_trans hM.bL (by decide),fun k hk => ?_⟩ fun s₃ o q₃ F₃ O₃ D₃ hc₃ => ?_
 ·refine hM₂.vtL src k fun z => hk ?_
  rcases hM₂.vt src k with zq13 | zq14
  ·refine xe02 zq13 fun h1 _ => ?_
   try clear zq13
   rw [h1];rfl
  refine xe23 zq14 fun b' q' h1 h2 _ => ?_
  try clear zq14
  rw [h2] at z;cases z
 have qq₃:=Same.trans qq₂ q₃
 walk1
 (show Ends _ _ _ _ _ _ _;refine Ends.mk' ‹_› ‹_› ‹_› ?_)
 refine xe14 (hM₂.putTr (fun q => by rw [ho₂];exact h0 q) hin₂ D₃ ((k2 pg w).mono kp₂.tx hb) hl) fun c' h1 h2 h3 h4 => ?_
 exact ⟨rfl,c',h1,kp₂.trans h2,h3.trans ho₂,h4.trans hG₂⟩
theorem nextD (w : World) (σ : Sg) (x a : Addr) (M : Dfa) (c : DfaCells) (hM : DfaIs w σ x M c) {q : Qs} {l : Str} {tk : Tok} (ha : (k2 pg w).is σ q (.ref a)) :
  Spec w 294 3 [.ref x,.ref a,.str l tk] [] σ (fun v σ' => Ext σ σ' ∧ OptV w σ' ((M.tr q l).or (M.df q)) v):=by
 refine' spec_of (binds:=[(Str.ofString "self",.ref x),(Str.ofString "src",.ref a),(Str.ofString "label",.str l tk)]) ?ho ?hcd ?hb ?hl ?c1 ?c2 ?c3 ?c4 ?_;((case ho => k_is);(case hcd => k_is);(case hb => (first | (intro _ _;exact BindsTo.of_eq rfl) | (intro _ Xh;exact binds_K Xh rfl (by k_is) rfl rfl rfl)));(case hl => exact locs rfl);(case c1 => exact rfl);(case c2 => exact rfl);(case c3 => exact rfl);(case c4 => decide))
 intro A g L ι s C F O env R;have X:=C.X;refine xe31 C.T fun mean mg mb T => ?_;have S0:=Same.refl s
 have I:=hM.inst
 refine xH ?_;intro _ _
 iterate 3 walk1
 first | refine xN ?_ | walk1
 (refine iget ‹_› ‹_› ‹_› ‹_› (by k_is) (by k_is) (by k_is) (by k_is) (by first | assumption | rfl) (by rfl) (quietly ‹_› ‹_› ?_);intro _ hq _ _;have _:=Same.trans ‹_› hq;clear hq)
 refine dmeth ‹_› hM.tr PySem.F.slot_dict_get PySem.F.type_dict_get ?_
 iterate 2 walk1
 first | refine xN ?_ | walk1
 walk1
 refine znewDict ‹_› ‹_› (modules_low T.nolimit) fun s₁ d hdn hdl q₁ F₁ O₁ => ?_
 have qq₁:=Same.trans ‹_› q₁
 have e₁:=Ext.upd (o:=emptyD) hdn
 have hM₁:=hM.move e₁
 have ha₁:=(k2 pg w).mono e₁.tx ha
 have I₁:=hM₁.inst
 walk1
 refine dget2 (k2d _ _) (k2r _ _) (C.r2 (by decide)) ‹_› hM₁.tr ha₁ (quietly ‹_› ‹_› ?_)
 (intro _ hq _ _;have _:=Same.trans ‹_› hq;clear hq)
 refine xe23 (?_ : ∃ d' f,((c.inner q).map Value.ref).getD (.ref d) = .ref d' ∧ DS pg w (upd σ d emptyD) d' f ∧ ∀ l,f l = (c.vt q l).map Value.ref) fun d' f hd' hD' hf => ?_
 ·cases hin : c.inner q with
  | none =>
   refine ⟨d,_,rfl,ds0 hdl,fun l => ?_⟩
   cases hv : c.vt q l with
   | none => rfl
   | some a => refine xe11 (hM.lin _ _ _ hv) fun _ z => ?_;rw [hin] at z;cases z
  | some d'' => exact ⟨d'',_,rfl,hM₁.inn _ _ hin,fun l => rfl⟩
 rw [hd']
 refine xS ?_;intros
 refine xH ?_;intro _ _
 iterate 2 walk1
 first | refine xN ?_ | walk1
 refine sdmeth ‹_› hD' PySem.F.slot_dict_get PySem.F.type_dict_get ?_
 iterate 2 walk1
 first | refine xN ?_ | walk1
 iterate 3 walk1
 first | refine xN ?_ | walk1
 (refine iget ‹_› ‹_› ‹_› ‹_› (by k_is) (by k_is) (by k_is) (by k_is) (by first | assumption | rfl) (by rfl) (quietly ‹_› ‹_› ?_);intro _ hq _ _;have _:=Same.trans ‹_› hq;clear hq)
 refine dmeth ‹_› hM₁.df PySem.F.slot_dict_get PySem.F.type_dict_get ?_
 iterate 2 walk1
 first | refine xN ?_ | walk1
 iterate 3 walk1
 refine dget2 (k2d _ _) (k2r _ _) (C.r2 (by decide)) ‹_› hM₁.df ha₁ (quietly ‹_› ‹_› ?_)
 (intro _ hq _ _;have _:=Same.trans ‹_› hq;clear hq)
 walk1
 refine sdget2 ‹_› hD' (quietly ‹_› ‹_› ?_)
 (intro _ hq _ _;have _:=Same.trans ‹_› hq;clear hq)
 (show Ends _ _ _ _ _ _ _;refine Ends.mk' ‹_› ‹_› ‹_› ?_)
 refine ⟨e₁,?_⟩
 rw [hf]
 rcases hM₁.vt q l with zq15 | zq16
 ·refine xe02 zq15 fun h1 h2 => ?_
  try clear zq15
  rw [h1,h2]
  rcases hM₁.vd q with zq17 | zq18
  ·refine xe02 zq17 fun h1 h2 => ?_
   try clear zq17
   rw [h1,h2];exact .inl ⟨rfl,rfl⟩
  refine xe23 zq18 fun b q' h1 h2 h3 => ?_
  try clear zq18
  rw [h1,h2];exact .inr ⟨q',rfl,h3⟩
 refine xe23 zq16 fun b q' h1 h2 h3 => ?_
 try clear zq16
 rw [h1,h2];exact .inr ⟨q',rfl,h3⟩
theorem isq_eq {w : World} {σ : Sg} {P : St → Prop} {v : Value} (h : IsQ w σ P v) : ∃ a,v = .ref a ∧ (k2 pg w).is σ (qOf P) (.ref a) ∧ Srt (qOf P) ∧ ∀ k,k ∈ qOf P ↔ P k:=by
 refine xe13 h fun q h1 h2 h3 => ?_
 try clear h
 have e : qOf P = q:=qOf_eq h2 h3
 refine xe11 (k2r pg w h1) fun a zq1 => ?_
 subst zq1
 rw [e]
 exact ⟨a,rfl,h1,h2,h3⟩
structure TdC (w : World) (σ0 : Sg) (N : Nfa) (x y fl sb : Addr) (M : Dfa) (c : DfaCells) (Sn fr : List Qs) (m : Str → Option Value) (σ : Sg) : Prop where
 m1 : m (Str.ofString "self") = some (.ref x)
 m2 : m (Str.ofString "dfa") = some (.ref y)
 m3 : m (Str.ofString "frontier") = some (.ref fl)
 m4 : m (Str.ofString "seen") = some (.ref sb)
 e0 : Ext σ0 σ
 dfa : DfaIs w σ y M c
 out : ∀ q,c.out q = none
 frs : ∀ b,Foot c b → σ0 b = none
 flS : ∃ vs n,σ fl = some (listOf vs.toArray n) ∧ All2 ((k2 pg w).is σ) fr vs
 snS : SetIn (k2 pg w) σ sb Sn
 fl0 : σ0 fl = none
 sb0 : σ0 sb = none
 nfl : ¬ Foot c fl
 nsb : ¬ Foot c sb
section
variable {w : World} {σ0 σ σ' : Sg} {N : Nfa} {x y fl sb : Addr} {M M' : Dfa} {c c' : DfaCells} {Sn fr : List Qs} {m m' : Str → Option Value}
theorem TdC.ext (h : TdC w σ0 N x y fl sb M c Sn fr m σ) (e : Ext σ σ') : TdC w σ0 N x y fl sb M c Sn fr m σ' :=
 { h with
  e0:=h.e0.trans e
  dfa:=h.dfa.move e
  flS:=xe22 (h.flS) fun vs n h1 h2 => ⟨vs,n,e _ _ h1,h2.imp fun _ _ r => (k2 pg w).mono e.tx r⟩
  snS:=h.snS.move e.tx fun o => e _ _ }
theorem TdC.loc (h : TdC w σ0 N x y fl sb M c Sn fr m σ) (e1 : m' (Str.ofString "self") = m (Str.ofString "self")) (e2 : m' (Str.ofString "dfa") = m (Str.ofString "dfa")) (e3 : m' (Str.ofString "frontier") = m (Str.ofString "frontier")) (e4 : m' (Str.ofString "seen") = m (Str.ofString "seen")) : TdC w σ0 N x y fl sb M c Sn fr m' σ :=
 { h with m1:=e1.trans h.m1,m2:=e2.trans h.m2,m3:=e3.trans h.m3,m4:=e4.trans h.m4 }
theorem TdC.kp (h : TdC w σ0 N x y fl sb M c Sn fr m σ) (hM : DfaIs w σ' y M' c') (k : Kp c σ c' σ') (ho : c'.out = c.out) : TdC w σ0 N x y fl sb M' c' Sn fr m σ' :=
 { h with
  e0:=(k.up h.e0 h.frs).1
  dfa:=hM
  out:=fun q => by rw [ho];exact h.out q
  frs:=(k.up h.e0 h.frs).2
  flS:=xe22 (h.flS) fun vs n h1 h2 => ⟨vs,n,k.keep _ _ h.nfl h1,h2.imp fun _ _ r => (k2 pg w).mono k.tx r⟩
  snS:=h.snS.move k.tx fun o => k.keep _ _ h.nsb
  nfl:=fun z => by
   refine xe22 h.flS fun vs n h1 h2 => ?_
   rcases k.more _ z with z | z
   ·exact h.nfl z
   rw [h1] at z;cases z
  nsb:=fun z => by
   refine xe32 h.snS.obj fun _ _ _ h1 _ => ?_
   rcases k.more _ z with z | z
   ·exact h.nsb z
   rw [h1] at z;cases z }
theorem DfaIs.away (hM : DfaIs w σ y M c) (h0 : ∀ q,c.out q = none) (tx : TX σ σ') (keep : ∀ b o,(Foot c b ∨ b = y ∨ b = c.dx) → σ b = some o → σ' b = some o) : DfaIs w σ' y M c :=
 { hM with
  inst:=⟨keep _ _ (.inr (.inl rfl)) hM.inst.obj,keep _ _ (.inr (.inr rfl)) hM.inst.dict⟩
  tr:=hM.tr.move tx fun o => keep _ _ (.inl (.inl rfl))
  inn:=fun q d h => (hM.inn q d h).move fun o => keep _ _ (.inl (.inr (.inr (.inr (.inr ⟨q,h⟩)))))
  vt:=fun q l => (hM.vt q l).mono tx
  df:=hM.df.move tx fun o => keep _ _ (.inl (.inr (.inl rfl)))
  vd:=fun q => (hM.vd q).mono tx
  fin:=xe12 (hM.fin) fun S s1 s2 => ⟨S,s1.move tx fun o => keep _ _ (.inl (.inr (.inr (.inl rfl)))),s2⟩
  out:=hM.out.move tx fun o => keep _ _ (.inl (.inr (.inr (.inr (.inl rfl)))))
  outl:=fun q a h => by rw [h0] at h;cases h
  ini:=(k2 pg w).mono tx hM.ini }
theorem TdC.setFl (h : TdC w σ0 N x y fl sb M c Sn fr m σ) {vs' : List Value} {fr' : List Qs} (hall : All2 ((k2 pg w).is σ) fr' vs') (n : Nat) : TdC w σ0 N x y fl sb M c Sn fr' m (upd σ fl (listOf vs'.toArray n)):=by
 refine xe22 h.flS fun vs n0 h1 h2 => ?_
 have tx : TX σ (upd σ fl (listOf vs'.toArray n)):=upd_tx h1 (by simp)
 have keep : ∀ b o,b ≠ fl → σ b = some o → upd σ fl (listOf vs'.toArray n) b = some o:=fun b o q e => by rw [upd_ne q];exact e
 exact { h with
  e0:=h.e0.upd' h.fl0
  dfa:=h.dfa.away h.out tx fun b o hb e => by
   refine keep _ _ (fun z => ?_) e
   subst z
   rcases hb with hb | hb | hb
   ·exact h.nfl hb
   ·exact h.dfa.ninst h1 (.inr (.inr rfl)) hb.symm
   exact (h.dfa.ndict h1 (by simp)).1 hb.symm
  flS:=⟨vs',n,upd_self ..,hall.imp fun _ _ r => (k2 pg w).mono tx r⟩
  snS:=h.snS.move tx fun o e => keep _ _ (fun z => by
   refine xe32 h.snS.obj fun _ _ _ h3 _ => ?_
   rw [z,h1] at h3
   have:=congrArg Obj.cls (Option.some.inj h3)
   simp at this) e }
theorem TdC.setSn (h : TdC w σ0 N x y fl sb M c Sn fr m σ) {o : Obj} {S' : List Qs} (hS : SetIn (k2 pg w) (upd σ sb o) sb S') : TdC w σ0 N x y fl sb M c S' fr m (upd σ sb o):=by
 refine xe32 h.snS.obj fun _ _ _ h1 _ => ?_
 have tx : TX σ (upd σ sb o):=upd_tx h1 (by simp)
 have keep : ∀ b ob,b ≠ sb → σ b = some ob → upd σ sb o b = some ob:=fun b ob q e => by rw [upd_ne q];exact e
 exact { h with
  e0:=h.e0.upd' h.sb0
  dfa:=h.dfa.away h.out tx fun b ob hb e => by
   refine keep _ _ (fun z => ?_) e
   subst z
   rcases hb with hb | hb | hb
   ·exact h.nsb hb
   ·exact h.dfa.ninst h1 (.inr (.inl rfl)) hb.symm
   exact (h.dfa.ndict h1 (by simp)).1 hb.symm
  flS:=by
   refine xe22 h.flS fun vs n0 h2 h3 => ?_
   exact ⟨vs,n0,keep _ _ (fun z => by
    rw [z,h1] at h2
    have:=congrArg Obj.cls (Option.some.inj h2)
    simp at this) h2,h3.imp fun _ _ r => (k2 pg w).mono tx r⟩
  snS:=hS }
end
theorem Foot.some {w : World} {σ : Sg} {y : Addr} {M : Dfa} {c : DfaCells} (hM : DfaIs w σ y M c) {b : Addr} (h : Foot c b) : ∃ o,σ b = some o:=by
 rcases h with z | z | z | z | ⟨q,z⟩
 ·refine xe12 hM.tr.cell fun o h1 _ => ?_
  exact ⟨o,z ▸ h1⟩
 ·refine xe12 hM.df.cell fun o h1 _ => ?_
  exact ⟨o,z ▸ h1⟩
 ·refine xe12 hM.fin fun S h1 _ => ?_
  refine xe32 h1.obj fun _ _ _ h1 _ => ?_
  exact ⟨_,z ▸ h1⟩
 ·refine xe12 hM.out.cell fun o h1 _ => ?_
  exact ⟨o,z ▸ h1⟩
 refine xe12 ((hM.inn _ _ z).cell) fun o h1 _ => ?_
 exact ⟨o,h1⟩
section
variable {w : World} {σ0 σ1 σ : Sg} {N : Nfa} {x y fl sb la : Addr} {M : Dfa} {c : DfaCells} {Sn fr : List Qs} {m : Str → Option Value} {o : Obj}
theorem TdC.root (h : TdC w σ0 N x y fl sb M c Sn fr m σ) (hla : σ la = none) : TdC w (upd σ0 la o) N x y fl sb M c Sn fr m (upd σ la o) :=
 { h.ext (Ext.upd (o:=o) hla) with
  e0:=fun b ob e => by
   by_cases hb : b = la
   ·subst hb;rw [upd_self] at e ⊢;exact e
   rw [upd_ne hb] at e ⊢;exact h.e0 _ _ e
  frs:=fun b hb => by
   refine xe11 (hb.some h.dfa) fun ob e => ?_
   rw [upd_ne (ne_of_none hla e)];exact h.frs b hb
  fl0:=by
   refine xe22 h.flS fun vs n e _ => ?_
   rw [upd_ne (ne_of_none hla e)];exact h.fl0
  sb0:=by
   refine xe32 h.snS.obj fun _ _ _ e _ => ?_
   rw [upd_ne (ne_of_none hla e)];exact h.sb0 }
theorem TdC.weak (h : TdC w σ1 N x y fl sb M c Sn fr m σ) (e : Ext σ0 σ1) : TdC w σ0 N x y fl sb M c Sn fr m σ:=by
 have none_ : ∀ b,σ1 b = none → σ0 b = none:=fun b z => by
  cases q : σ0 b with
  | none => rfl
  | some o => rw [e _ _ q] at z;cases z
 exact { h with e0:=e.trans h.e0,frs:=fun b hb => none_ b (h.frs b hb),fl0:=none_ _ h.fl0,sb0:=none_ _ h.sb0 }
end
inductive TdQEx (w : World) (σ0 : Sg) (N : Nfa) (x y fl sb : Addr) (Dn : List Qs) (q : Qs) (qa : Addr) (B : Nat) (D : Dfa → List Qs → Prop) (m : Str → Option Value) (σ : Sg) : Prop
 | ofx (M) (c) (Sn) (fr) (h1 : TdC w σ0 N x y fl sb M c Sn fr m σ) (h2 : Inv N M Dn (q :: Dn) Sn fr) (h3 : D M Sn) (h4 : (1024 - Sn.length) + fr.length = B) (h5 : fr.length ≤ Sn.length)
structure TdQ (w : World) (σ0 : Sg) (N : Nfa) (x y fl sb : Addr) (Dn : List Qs) (q : Qs) (qa : Addr) (B : Nat) (D : Dfa → List Qs → Prop) (m : Str → Option Value) (σ : Sg) : Prop where
 m5 : m (Str.ofString "current") = some (.ref qa)
 hq : (k2 pg w).is σ q (.ref qa)
 ex : TdQEx w σ0 N x y fl sb Dn q qa B D m σ
inductive TdI (w : World) (ι : Sd) (g : Heap) (L : Addr) (s : Shared) (σ0 : Sg) (N : Nfa) (x y fl sb : Addr) (n : Nat) (s' : Shared) : Prop
 | ofx (m') (σ') (M) (c) (Dn) (Sn) (fr) (h1 : Same s s') (h2 : Fr g L s'.heap m') (h3 : Own ι g L s'.heap σ') (h4 : TdC w σ0 N x y fl sb M c Sn fr m' σ') (h5 : Inv N M Dn Dn Sn fr) (h6 : n = (1024 - Sn.length) + fr.length) (h7 : fr.length ≤ Sn.length + 1)
theorem toDfa (w : World) (σ : Sg) (x : Addr) (N : Nfa) (c0 : NfaCells) (hN : NfaIs w σ x N c0) (hone : ∀ k d d',N.tr k eps d → N.tr k eps d' → d = d') (hsU : Srt N.U) (hU10 : N.U.length ≤ 10) :
  Spec w 233 5 [.ref x] [] σ (fun v σ' => Ext σ σ' ∧ ∃ y M c,v = .ref y ∧ DfaIs w σ' y M c ∧ Right N M ∧ M.UQ = uq N.U ∧ M.LU = N.LU):=by
 refine' spec_of (binds:=[(Str.ofString "self",.ref x)]) ?ho ?hcd ?hb ?hl ?c1 ?c2 ?c3 ?c4 ?_;((case ho => k_is);(case hcd => k_is);(case hb => (first | (intro _ _;exact BindsTo.of_eq rfl) | (intro _ Xh;exact binds_K Xh rfl (by k_is) rfl rfl rfl)));(case hl => exact locs rfl);(case c1 => exact rfl);(case c2 => exact rfl);(case c3 => exact rfl);(case c4 => decide))
 intro A g L ι s C F O env R;have X:=C.X;refine xe31 C.T fun mean mg mb T => ?_;have S0:=Same.refl s
 have I:=hN.inst
 refine xH ?_;intro _ _
 iterate 2 walk1
 first | refine xN ?_ | walk1
 iterate 3 walk1
 first | refine xN ?_ | walk1
 refine imeth ‹_› ‹_› ‹_› ‹_› (by k_is) (by k_is) (by k_is) (by first | assumption | rfl) ?_
 walk1
 try refine ⟨X.keeps F.keep,?_⟩
 refine (startN w _ x N c0 hN hone).call (C.le (by decide)) ‹_› ‹_› fun v σ₁ s₁ q₁ F₁ O₁ hP => ?_
 have qq₁:=Same.trans ‹_› q₁
 refine xe02 hP fun e₁ hq₁ => ?_
 try clear hP
 refine xe14 (isq_eq hq₁) fun a₁ zq2 ha₁ st₁ sm₁ => ?_
 subst zq2
 iterate 2 walk1
 try refine ⟨X.keeps F₁.keep,?_⟩
 refine (makeD w _ a₁ (q0 N) ha₁ (uq N.U) N.LU (uq_len hU10) hN.bL).call (C.le (by decide)) ‹_› ‹_› fun v σ₂ s₂ q₂ F₂ O₂ hP => ?_
 have qq₂:=Same.trans ‹_› q₂
 refine xe25 hP fun y c zq3 hM ho e₂ fr₂ => ?_
 try clear hP
 subst zq3
 have I₂:=hN.move (e₁.trans e₂)
 have I₂:=I₂.inst
 refine xS ?_;intros
 refine xH ?_;intro _ _
 iterate 4 walk1
 first | refine xN ?_ | walk1
 refine imeth ‹_› ‹_› ‹_› ‹_› (by k_is) (by k_is) (by k_is) (by first | assumption | rfl) ?_
 walk1
 refine (startN w _ x N c0 (hN.move (e₁.trans e₂)) hone).call (C.le (by decide)) ‹_› ‹_› fun v σ₃ s₃ q₃ F₃ O₃ hP => ?_
 have qq₃:=Same.trans ‹_› q₃
 refine xe02 hP fun e₃ hq₃ => ?_
 try clear hP
 refine xe14 (isq_eq hq₃) fun a₃ zq4 ha₃ st₃ sm₃ => ?_
 subst zq4
 walk1
 refine znewList ‹_› ‹_› (by simp) fun s₄ fl hfl q₄ F₄ O₄ => ?_
 have qq₄:=Same.trans ‹_› q₄
 have e₄:=Ext.upd (o:=listOf [Value.ref a₃].toArray 0) hfl
 refine xS ?_;intros
 refine xH ?_;intro _ _
 iterate 2 walk1
 first | refine xN ?_ | walk1
 walk1
 refine snew0 ‹_› ‹_› fun s₅ sb hsb q₅ F₅ O₅ => ?_
 have qq₅:=Same.trans ‹_› q₅
 have e₅:=Ext.upd (o:=set0 w) hsb
 refine xS ?_;intros
 refine xH ?_;intro _ _
 have okq : ∀ P : St → Prop,Srt (qOf (Clo N.tr P)) → (∀ k,k ∈ qOf (Clo N.tr P) ↔ Clo N.tr P k) → (∀ k,P k → k ∈ N.U) → (∃ k,P k) → Okq N (qOf (Clo N.tr P)):=fun P h1 h2 h3 ⟨k,h4⟩ => ⟨h1,fun k hk => clo_sub hN h3 ((h2 k).mp hk),fun z => by
  have:=(h2 k).mpr (.base h4)
  rw [z] at this;cases this⟩
 have hflc : ¬ Foot c fl:=fun z => by
  have:=fr₂ fl z
  rcases z with z | z | z | z | ⟨q,z⟩
  ·refine xe12 hM.tr.cell fun o h1 _ => ?_
   have:=e₃ _ _ h1;rw [← z,hfl] at this;cases this
  ·refine xe12 hM.df.cell fun o h1 _ => ?_
   have:=e₃ _ _ h1;rw [← z,hfl] at this;cases this
  ·refine xe12 hM.fin fun S h1 _ => ?_
   refine xe32 h1.obj fun _ _ _ h1 _ => ?_
   have:=e₃ _ _ h1;rw [← z,hfl] at this;cases this
  ·refine xe12 hM.out.cell fun o h1 _ => ?_
   have:=e₃ _ _ h1;rw [← z,hfl] at this;cases this
  refine xe12 ((hM.inn _ _ z).cell) fun o h1 _ => ?_
  have:=e₃ _ _ h1;rw [hfl] at this;cases this
 have hsbc : ¬ Foot c sb:=fun z => by
  rcases z with z | z | z | z | ⟨q,z⟩
  ·refine xe12 hM.tr.cell fun o h1 _ => ?_
   have:=e₄ _ _ (e₃ _ _ h1);rw [← z,hsb] at this;cases this
  ·refine xe12 hM.df.cell fun o h1 _ => ?_
   have:=e₄ _ _ (e₃ _ _ h1);rw [← z,hsb] at this;cases this
  ·refine xe12 hM.fin fun S h1 _ => ?_
   refine xe32 h1.obj fun _ _ _ h1 _ => ?_
   have:=e₄ _ _ (e₃ _ _ h1);rw [← z,hsb] at this;cases this
  ·refine xe12 hM.out.cell fun o h1 _ => ?_
   have:=e₄ _ _ (e₃ _ _ h1);rw [← z,hsb] at this;cases this
  refine xe12 ((hM.inn _ _ z).cell) fun o h1 _ => ?_
  have:=e₄ _ _ (e₃ _ _ h1);rw [hsb] at this;cases this
 have eall:=(e₁.trans e₂).trans (e₃.trans (e₄.trans e₅))
 have none_ : ∀ {b : Addr} {τ : Sg},Ext σ τ → τ b = none → σ b = none:=fun {b} {τ} k h => by
  cases q : σ b with
  | none => rfl
  | some o => rw [k _ _ q] at h;cases h
 refine whileL (TdI w ι g L s σ N x y fl sb) (1024 + 1) ⟨_,_,_,c,[],[],[q0 N],by assumption,by assumption,by assumption,⟨rfl,rfl,rfl,rfl,eall,hM.move (e₃.trans (e₄.trans e₅)),ho,fun b hb => ?_,⟨[.ref a₃],0,e₅ _ _ (upd_self ..),.cons ((k2 pg w).mono (e₄.trans e₅).tx ha₃) .nil⟩,set0_in _,none_ ((e₁.trans e₂).trans e₃) hfl,none_ (((e₁.trans e₂).trans e₃).trans e₄) hsb,hflc,hsbc⟩,?_,rfl,by simp⟩ ?_
 ·exact none_ e₁ (fr₂ b hb)
 ·exact ⟨fun _ _ _ h => (nomatch h),fun _ _ h => (nomatch h),fun _ h => h.elim,rfl,fun _ h => (nomatch h),fun _ h => (nomatch h),.inr (.head _),fun q hq => by (simp at hq;subst hq;exact okq _ st₁ sm₁ (fun k hk => hk ▸ hN.iniU) ⟨_,rfl⟩),fun _ h => (nomatch h),rfl,rfl⟩
 intro n s₆ zq9
 refine holdP ?_;intro G;rcases zq9 with ⟨m₆,σ₆,M,c,Dn,Sn,fr,qq₆,F₆,O₆,T6,V6,hn,hfrn⟩;unfold G;clear G
 clear I
 have hN₆:=hN.move T6.e0
 have I:=hN₆.inst
 have m1:=T6.m1;have m2:=T6.m2;have m3:=T6.m3;have m4:=T6.m4
 refine xe22 T6.flS fun vs cn hfl₆ hfr => ?_
 have hSnl : Sn.length ≤ 1023:=Nat.le_trans (nodup_sub T6.snS.nd V6.sU) (uq_len hU10)
 have hvl:=hfr.length
 walk1
 first | refine xN ?_ | walk1
 refine ltruthy O₆ hfl₆ (by lia) (quietly F₆ O₆ fun s₇ q₇ F₇ O₇ => ?_)
 have qq₇:=Same.trans qq₆ q₇
 rcases List.eq_nil_or_concat vs with rfl | ⟨vs',v,rfl⟩
 ·simp only [List.isEmpty_nil,Bool.not_true,Bool.false_eq_true,if_false]
  walk1
  refine xH ?_;intro _ _
  walk1
  first | refine xN ?_ | walk1
  refine Ends.mk' qq₇ F₇ O₇ ⟨T6.e0,y,M,c,rfl,T6.dfa,?_,V6.hU,V6.hL⟩
  have : fr = []:=List.eq_nil_of_length_eq_zero (by simpa using hvl)
  subst this
  exact V6.right (by decide)
 refine xe23 (?_ : ∃ fr' q,fr = fr' ++ [q] ∧ All2 ((k2 pg w).is σ₆) fr' vs' ∧ (k2 pg w).is σ₆ q v) fun fr' q zq395 hfr1 hv => ?_
 ·have go : ∀ {l : List Value} {fr : List Qs},All2 ((k2 pg w).is σ₆) fr (l ++ [v]) → ∃ fr' q,fr = fr' ++ [q] ∧ All2 ((k2 pg w).is σ₆) fr' l ∧ (k2 pg w).is σ₆ q v:=by
   intro l
   induction l with
   | nil =>
    intro fr h
    cases h with
    | cons r t => cases t;exact ⟨[],_,rfl,.nil,r⟩
   | cons u l ih =>
    intro fr h
    cases h with
    | cons r t =>
     refine xe23 (ih t) fun fr' q e1 e2 e3 => ?_
     exact ⟨_ :: fr',q,by rw [e1];rfl,.cons r e2,e3⟩
  exact go (by simpa using hfr)
 subst zq395
 refine xe11 (k2r pg w hv) fun qa zq5 => ?_
 subst zq5
 have hne : (!(vs'.concat (Value.ref qa)).isEmpty) = true:=by simp
 rw [hne]
 simp only [if_true]
 rw [List.concat_eq_append] at hfl₆
 simp only [List.length_append,List.length_cons,List.length_nil,List.length_concat] at hfrn hvl hn
 refine xH ?_;intro _ _
 iterate 2 walk1
 first | refine xN ?_ | walk1
 refine lmeth O₇ hfl₆ PySem.F.slot_list_pop PySem.F.type_list_pop ?_
 walk1
 refine lpop F₇ O₇ hfl₆ (by lia) fun s₈ n₈ q₈ F₈ O₈ => ?_
 have qq₈:=Same.trans qq₇ q₈
 have e8 : Ext σ (upd σ₆ fl (listOf vs'.toArray n₈)):=T6.e0.upd' T6.fl0
 have tx8 : TX σ₆ (upd σ₆ fl (listOf vs'.toArray n₈)):=upd_tx hfl₆ (by simp)
 have T8:=T6.setFl hfr1 n₈
 have V8:=V6.pop
 have hq8:=(k2 pg w).mono tx8 hv
 have I:=(hN.move T8.e0).inst
 have okq8:=V6.ok q (List.mem_append_right _ (.head _))
 have hql : q.length ≤ 60:=Nat.le_trans (nodup_sub (okq8.srt.imp fun {a b} h e => by subst e;rw [lex_irr] at h;cases h) okq8.sub) hN.bU
 refine xS ?_;intros
 rename_i sB fB oB qB
 have SB:=Same.refl sB
 refine cut (ι:=ι) (g:=g) (L:=L) (TdQ w σ N x y fl sb Dn q qa ((1024 - Sn.length) + fr'.length) (fun M Sn => (∃ k ∈ q,N.fin k) → M.fin q)) ?_ fun m₉ σ₉ s₉ q₉ F₉ O₉ J₉ => ?_
 ·iterate 3 walk1
  first | refine xN ?_ | walk1
  refine imeth ‹_› ‹_› ‹_› ‹_› (by k_is) (by k_is) (by k_is) (by first | assumption | rfl) ?_
  iterate 2 walk1
  first | refine xN ?_ | walk1
  iterate 2 walk1
  refine (isFinalN w _ x N c0 (hN.move T8.e0) hq8 hql).call (C.le (by decide)) ‹_› ‹_› fun v σ₉ s₉ q₉ F₉ O₉ hP => ?_
  have qq₉:=Same.trans ‹_› q₉
  refine xe02 hP fun e₉ zq396 => ?_
  try clear hP
  refine xe12 zq396 fun b zq532 hb => ?_
  try clear zq396
  subst zq532
  have T9:=T8.ext e₉
  have hq9:=(k2 pg w).mono e₉.tx hq8
  cases b with
  | false =>
   iterate 3 walk1
   refine Mid.mk' qq₉ F₉ O₉ ⟨rfl,hq9,M,c,Sn,fr',T9.loc rfl rfl rfl rfl,V8,fun h => absurd (hb.mpr h) (by simp),rfl,by exact xs15 ‹_›⟩
  | true =>
   have I:=T9.dfa.inst
   iterate 2 walk1
   refine xH ?_;intro _ _
   iterate 2 walk1
   first | refine xN ?_ | walk1
   refine imeth ‹_› ‹_› ‹_› ‹_› (by k_is) (by k_is) (by k_is) (by first | assumption | rfl) ?_
   iterate 2 walk1
   first | refine xN ?_ | walk1
   iterate 2 walk1
   refine (addFinalD w _ y qa M c T9.dfa hq9 (by rw [V8.hU];exact mem_uq hsU okq8.srt okq8.sub okq8.ne)).call (C.le (by decide)) ‹_› ‹_› fun v σ₁₀ s₁₀ q₁₀ F₁₀ O₁₀ hP => ?_
   have qq₁₀:=Same.trans ‹_› q₁₀
   refine xe03 hP fun zq6 hM10 kp10 => ?_
   try clear hP
   subst zq6
   refine xe02 (V8.addFin (hb.mp rfl)) fun V10 le10 => ?_
   walk1
   refine Mid.mk' qq₁₀ F₁₀ O₁₀ ⟨rfl,(k2 pg w).mono kp10.tx hq9,_,c,Sn,fr',(T9.kp hM10 kp10 rfl).loc rfl rfl rfl rfl,V10,fun h => .inr rfl,rfl,by exact xs15 ‹_›⟩
 have qq₉:=Same.trans qB q₉
 clear q₉
 refine holdP ?_;intro G;rcases J₉ with ⟨m5,hq9,M9,c9,Sn9,fr9,T9,V9,hD9,hB9,hle9⟩;unfold G;clear G
 have m1:=T9.m1;have m2:=T9.m2;have m3:=T9.m3;have m4:=T9.m4
 have hN₉:=hN.move T9.e0
 have I:=hN₉.inst
 refine xH ?_;intro _ _
 iterate 2 walk1
 first | refine xN ?_ | walk1
 refine imeth ‹_› ‹_› ‹_› ‹_› (by k_is) (by k_is) (by k_is) (by first | assumption | rfl) ?_
 iterate 2 walk1
 first | refine xN ?_ | walk1
 iterate 2 walk1
 refine (labelsN w _ x N c0 hN₉ hq9).call (C.le (by decide)) ‹_› ‹_› fun v σ₁₀ s₁₀ q₁₀ F₁₀ O₁₀ hP => ?_
 have qq₁₀:=Same.trans ‹_› q₁₀
 refine xe02 hP fun e₁₀ zq397 => ?_
 try clear hP
 refine xe23 zq397 fun lb R zq533 hR hRm => ?_
 try clear zq397
 subst zq533
 have T10:=T9.ext e₁₀
 have hRL : ∀ l ∈ R,l ∈ N.LU:=fun l hl => by
  refine xe12 ((hRm l).mp hl) fun k _ zq398 => ?_
  refine xe11 zq398 fun d hd => ?_
  try clear zq398
  refine xe11 (hN.has _ _ _ hd) fun a' ha' => ?_
  exact hN.labU _ _ _ ha'
 have hRl : R.length ≤ 60:=Nat.le_trans (nodup_sub hR.nd hRL) hN.bL
 refine xS ?_;intros
 refine xH ?_;intro _ _
 refine wpAny_For ?_
 walk1
 first | refine xN ?_ | walk1
 iterate 2 walk1
 first | refine xN ?_ | walk1
 walk1
 refine ssorted_str C.hh ‹_› ‹_› hR (by lia) fun s₁₁ la Ls vs cn hla q₁₁ F₁₁ O₁₁ pL wL aL => ?_
 have qq₁₁:=Same.trans ‹_› q₁₁
 have T11:=T10.root (o:=listOf vs.toArray cn) hla
 have e11 : Ext σ (upd σ la (listOf vs.toArray cn)):=Ext.upd (by
  cases q : σ la with
  | none => rfl
  | some o => rw [T10.e0 _ _ q] at hla;cases hla)
 have hq11:=(k2 pg w).mono (e₁₀.tx.trans (Ext.upd (o:=listOf vs.toArray cn) hla).tx) hq9
 have hLl : Ls.length = vs.length:=aL.length
 refine forLst (vs:=vs) (cn:=cn) (fun i m σ' => TdQ w (upd σ la (listOf vs.toArray cn)) N x y fl sb Dn q qa ((1024 - Sn.length) + fr'.length) (fun M Sn => ((∃ k ∈ q,N.fin k) → M.fin q) ∧ ∀ j l,j < i → Ls[j]? = some l → l ≠ eps → DoneL N M Sn q l) m σ') C.hh F₁₁ O₁₁ (fun i m σ' J => ?_) ⟨?_,hq11,M9,c9,Sn9,fr9,T11.loc rfl rfl rfl rfl,V9,⟨hD9,fun j l hj => absurd hj (Nat.not_lt_zero _)⟩,hB9,hle9⟩ (fun i v m₁₂ σ₁₂ s₁₂ ι' back q₁₂ hv J F₁₂ O₁₂ => ?_) fun m₁₂ σ₁₂ s₁₂ q₁₂ F₁₂ O₁₂ J => ?_
 ·refine holdP ?_;intro G;rcases J with ⟨_,_,_,_,_,_,TJ,_⟩;unfold G;clear G
  exact TJ.e0 _ _ (upd_self ..)
 ·exact m5
 ·clear q₁₂
  have S12:=Same.refl s₁₂
  refine holdP ?_;intro G;rcases J with ⟨m5,hq12,M12,c12,Sn12,fr12,T12,V12,⟨hD12,hL12⟩,hB12,hle12⟩;unfold G;clear G
  have m1:=T12.m1;have m2:=T12.m2;have m3:=T12.m3;have m4:=T12.m4
  refine xe12 (aL.get2 (i:=i) (b:=v) hv) fun l hli zq399 => ?_
  refine xe11 zq399 fun tl zq534 => ?_
  try clear zq399
  subst zq534
  have hlR : labs N q l:=(hRm l).mp (pL.mem_iff.mp (List.mem_of_getElem? hli))
  have hN₁₂:=hN.move (e11.trans T12.e0)
  have step : ∀ M Sn,(∀ j l,j < i → Ls[j]? = some l → l ≠ eps → DoneL N M Sn q l) → (l ≠ eps → DoneL N M Sn q l) → ∀ j l,j < i + 1 → Ls[j]? = some l → l ≠ eps → DoneL N M Sn q l:=fun M Sn h1 h2 j l' hj hl' he => by
   by_cases hji : j = i
   ·subst hji
    rw [hli] at hl';cases hl';exact h2 he
   exact h1 j l' (by lia) hl' he
  refine xH ?_;intro _ _
  iterate 2 walk1
  first | refine xN ?_ | walk1
  first | refine xN ?_ | walk1
  iterate 3 walk1
  ·rename_i hle
   have hle : l = eps:=by simpa using hle
   refine xH ?_;intro _ _
   walk1
   show Turn _ _ _ _ _ _ _
   exact Turn.mk' S12 F₁₂ O₁₂ ⟨m5,hq12,M12,c12,Sn12,fr12,T12.loc rfl rfl rfl rfl,V12,⟨hD12,step _ _ hL12 fun h => absurd hle h⟩,hB12,hle12⟩
  rename_i hle
  have hle : l ≠ eps:=by simpa using hle
  have I:=hN₁₂.inst
  walk1
  refine xH ?_;intro _ _
  iterate 2 walk1
  first | refine xN ?_ | walk1
  refine imeth ‹_› ‹_› ‹_› ‹_› (by k_is) (by k_is) (by k_is) (by first | assumption | rfl) ?_
  iterate 2 walk1
  first | refine xN ?_ | walk1
  walk1
  first | refine xN ?_ | walk1
  iterate 2 walk1
  refine (nextN w _ x N c0 hN₁₂ hone hq12 l tl).call (C.le (by decide)) ‹_› ‹_› fun v σ₁₃ s₁₃ q₁₃ F₁₃ O₁₃ hP => ?_
  have qq₁₃:=Same.trans ‹_› q₁₃
  refine xe02 hP fun e₁₃ hq₁₃ => ?_
  try clear hP
  refine xe14 (isq_eq hq₁₃) fun pa zq7 hp13' stp smp => ?_
  subst zq7
  have hp13 : (k2 pg w).is σ₁₃ (nq N q l) (.ref pa):=hp13'
  have okp : Okq N (nq N q l):=okq _ stp smp (fun k hk => by
   obtain ⟨k',_,h | h⟩:=hk
   ·exact hN.trU _ _ _ h
   ·exact hN.trU _ _ _ h) (by
   refine xe12 hlR fun k hk zq400 => ?_
   try clear hlR
   refine xe11 zq400 fun d hd => ?_
   try clear zq400
   exact ⟨d,k,hk,.inl hd⟩)
  have hpl : (nq N q l).length ≤ 60:=Nat.le_trans (nodup_sub (okp.srt.imp fun {a b} h e => by subst e;rw [lex_irr] at h;cases h) okp.sub) hN.bU
  have hpU : nq N q l ∈ uq N.U:=mem_uq hsU okp.srt okp.sub okp.ne
  have T13:=T12.ext e₁₃
  have hq13:=(k2 pg w).mono e₁₃.tx hq12
  have hSn12 : Sn12.length ≤ 1023:=Nat.le_trans (nodup_sub T12.snS.nd V12.sU) (uq_len hU10)
  refine xS ?_;intros
  rename_i sC fC oC qC
  have SC:=Same.refl sC
  refine cut (ι:=ι') (g:=g) (L:=L) (fun m σ' => (m (Str.ofString "label") = some (.str l tl) ∧ m (Str.ofString "new_state") = some (.ref pa) ∧ (k2 pg w).is σ' (nq N q l) (.ref pa)) ∧ TdQ w (upd σ la (listOf vs.toArray cn)) N x y fl sb Dn q qa ((1024 - Sn.length) + fr'.length) (fun M Sn => ((∃ k ∈ q,N.fin k) → M.fin q) ∧ (∀ j l,j < i → Ls[j]? = some l → l ≠ eps → DoneL N M Sn q l) ∧ nq N q l ∈ Sn) m σ') ?_ fun m₁₄ σ₁₄ s₁₄ q₁₄ F₁₄ O₁₄ J₁₄ => ?_
  ·iterate 2 walk1
   first | refine xN ?_ | walk1
   first | refine xN ?_ | walk1
   refine snotin (k2d _ _) (k2r _ _) (C.r2 (by decide)) ‹_› T13.snS hp13 (quietly ‹_› ‹_› ?_)
   (intro _ hq _ _;have _:=Same.trans ‹_› hq;clear hq)
   rename_i sD FD OD qD
   by_cases hpS : nq N q l ∈ Sn12
   ·simp only [hpS,decide_true,Bool.not_true]
    iterate 3 walk1
    refine Mid.mk' qD FD OD ⟨⟨rfl,rfl,hp13⟩,m5,hq13,M12,c12,Sn12,fr12,T13.loc rfl rfl rfl rfl,V12,⟨hD12,hL12,hpS⟩,hB12,hle12⟩
   simp only [hpS,decide_false,Bool.not_false]
   refine xe22 T13.flS fun vs13 n13 hfl13 hfr13 => ?_
   have hvl13:=hfr13.length
   iterate 2 walk1
   refine xH ?_;intro _ _
   iterate 2 walk1
   first | refine xN ?_ | walk1
   refine lmeth ‹_› hfl13 PySem.F.slot_list_append PySem.F.type_list_append ?_
   iterate 2 walk1
   first | refine xN ?_ | walk1
   walk1
   refine lappend ‹_› ‹_› hfl13 (by lia) fun s₁₄ n₁₄ q₁₄ F₁₄ O₁₄ => ?_
   have qq₁₄:=Same.trans ‹_› q₁₄
   have T14:=T13.setFl (fr':=fr12 ++ [nq N q l]) (hfr13.append (.cons hp13 .nil)) n₁₄
   have tx14 : TX σ₁₃ (upd σ₁₃ fl (listOf (vs13 ++ [Value.ref pa]).toArray n₁₄)):=upd_tx hfl13 (by simp)
   refine xH ?_;intro _ _
   iterate 2 walk1
   first | refine xN ?_ | walk1
   refine meth_set ‹_› T14.snS PySem.F.slot_set_add PySem.F.type_set_add ?_
   iterate 2 walk1
   first | refine xN ?_ | walk1
   walk1
   have hSn13 : Sn12.length + 1 ≤ 1023:=by
    have : (nq N q l :: Sn12).Nodup:=List.nodup_cons.mpr ⟨hpS,T12.snS.nd⟩
    have:=nodup_sub this (U:=uq N.U) fun p hp => by
     rcases List.mem_cons.mp hp with h1 | h1
     ·exact h1 ▸ hpU
     exact V12.sU p h1
    have h2:=uq_len hU10
    simp at this;lia
   refine sadd (k2d _ _) (k2r _ _) (C.r2 (by decide)) ‹_› ‹_› T14.snS ((k2 pg w).mono tx14 hp13) (by lia) fun s₁₅ Sn15 o15 q₁₅ F₁₅ O₁₅ hS15 hm15 hc15 => ?_
   have qq₁₅:=Same.trans ‹_› q₁₅
   have T15:=T14.setSn hS15
   have V15:=V12.push okp hsU hm15
   have tx15 : TX σ₁₃ (upd (upd σ₁₃ fl (listOf (vs13 ++ [Value.ref pa]).toArray n₁₄)) sb o15):=tx14.trans (by
    refine xe32 T14.snS.obj fun _ _ _ z _ => ?_
    exact upd_tx z (by simp))
   have hSl15 : Sn15.length = Sn12.length + 1:=by
    have h1:=nodup_sub hS15.nd (U:=nq N q l :: Sn12) fun p hp => by
     rcases (hm15 p).mp hp with h1 | h1
     ·exact .tail _ h1
     exact h1 ▸ .head _
    have h2:=nodup_sub (List.nodup_cons.mpr ⟨hpS,T12.snS.nd⟩ : (nq N q l :: Sn12).Nodup) (U:=Sn15) fun p hp => by
     rcases List.mem_cons.mp hp with h1 | h1
     ·exact (hm15 p).mpr (.inr h1)
     exact (hm15 p).mpr (.inl h1)
    simp at h1 h2;lia
   have hN₁₅:=hN.move (e11.trans T15.e0)
   have I:=hN₁₅.inst
   have hp15:=(k2 pg w).mono tx15 hp13
   have hq15:=(k2 pg w).mono tx15 hq13
   refine xH ?_;intro _ _
   iterate 3 walk1
   first | refine xN ?_ | walk1
   refine imeth ‹_› ‹_› ‹_› ‹_› (by k_is) (by k_is) (by k_is) (by first | assumption | rfl) ?_
   iterate 2 walk1
   first | refine xN ?_ | walk1
   iterate 2 walk1
   refine (isFinalN w _ x N c0 hN₁₅ hp15 hpl).call (C.le (by decide)) ‹_› ‹_› fun v σ₁₆ s₁₆ q₁₆ F₁₆ O₁₆ hP => ?_
   have qq₁₆:=Same.trans ‹_› q₁₆
   refine xe02 hP fun e₁₆ zq401 => ?_
   try clear hP
   refine xe12 zq401 fun b zq535 hb => ?_
   try clear zq401
   subst zq535
   have T16:=T15.ext e₁₆
   have hp16:=(k2 pg w).mono e₁₆.tx hp15
   have hq16:=(k2 pg w).mono e₁₆.tx hq15
   have hL16 : ∀ j l,j < i → Ls[j]? = some l → l ≠ eps → DoneL N M12 Sn15 q l:=fun j l h1 h2 h3 => (hL12 j l h1 h2 h3).mono (Le.refl _) fun p hp => (hm15 p).mpr (.inl hp)
   cases b with
   | false =>
    iterate 4 walk1
    refine Mid.mk' qq₁₆ F₁₆ O₁₆ ⟨⟨rfl,rfl,hp16⟩,m5,hq16,M12,c12,Sn15,_,T16.loc rfl rfl rfl rfl,V15,⟨hD12,hL16,(hm15 _).mpr (.inr rfl)⟩,by simp only [List.length_append,List.length_cons,List.length_nil];exact xs100 ‹_› ‹_› ‹_›,by simp only [List.length_append,List.length_cons,List.length_nil];lia⟩
   | true =>
    have I:=T16.dfa.inst
    iterate 2 walk1
    refine xH ?_;intro _ _
    iterate 2 walk1
    first | refine xN ?_ | walk1
    refine imeth ‹_› ‹_› ‹_› ‹_› (by k_is) (by k_is) (by k_is) (by first | assumption | rfl) ?_
    iterate 2 walk1
    first | refine xN ?_ | walk1
    iterate 2 walk1
    refine (addFinalD w _ y pa M12 c12 T16.dfa hp16 (by rw [V12.hU];exact hpU)).call (C.le (by decide)) ‹_› ‹_› fun v σ₁₇ s₁₇ q₁₇ F₁₇ O₁₇ hP => ?_
    have qq₁₇:=Same.trans ‹_› q₁₇
    refine xe03 hP fun zq8 hM17 kp17 => ?_
    try clear hP
    subst zq8
    refine xe02 (V15.addFin (hb.mp rfl)) fun V17 le17 => ?_
    iterate 2 walk1
    refine Mid.mk' qq₁₇ F₁₇ O₁₇ ⟨⟨rfl,rfl,(k2 pg w).mono kp17.tx hp16⟩,m5,(k2 pg w).mono kp17.tx hq16,_,c12,Sn15,_,(T16.kp hM17 kp17 rfl).loc rfl rfl rfl rfl,V17,⟨fun h => .inl (hD12 h),fun j l h1 h2 h3 => (hL16 j l h1 h2 h3).mono le17 fun p hp => hp,(hm15 _).mpr (.inr rfl)⟩,by simp only [List.length_append,List.length_cons,List.length_nil];exact xs100 ‹_› ‹_› ‹_›,by simp only [List.length_append,List.length_cons,List.length_nil];lia⟩
  have qq₁₄:=Same.trans qC q₁₄
  clear q₁₄
  refine xe02 J₁₄ fun zq402 zq403 => ?_
  try clear J₁₄
  refine xe03 zq402 fun ml mp hp14 => ?_
  try clear zq402
  refine holdP ?_;intro G;rcases zq403 with ⟨m5,hq14,M14,c14,Sn14,fr14,T14,V14,⟨hD14,hL14,hpS14⟩,hB14,hle14⟩;unfold G;clear G
  have m1:=T14.m1;have m2:=T14.m2;have m3:=T14.m3;have m4:=T14.m4
  have I:=T14.dfa.inst
  refine xH ?_;intro _ _
  iterate 2 walk1
  first | refine xN ?_ | walk1
  first | refine xN ?_ | walk1
  iterate 3 walk1
  ·rename_i hla'
   have hla' : l = anyS:=by simpa using hla'
   subst hla'
   refine xH ?_;intro _ _
   iterate 2 walk1
   first | refine xN ?_ | walk1
   refine imeth ‹_› ‹_› ‹_› ‹_› (by k_is) (by k_is) (by k_is) (by first | assumption | rfl) ?_
   iterate 2 walk1
   first | refine xN ?_ | walk1
   walk1
   first | refine xN ?_ | walk1
   iterate 2 walk1
   refine (setDfD w _ y qa pa M14 c14 T14.dfa hq14 hp14 (by rw [V14.hU];exact mem_uq hsU okq8.srt okq8.sub okq8.ne)).call (C.le (by decide)) ‹_› ‹_› fun v σ₁₅ s₁₅ q₁₅ F₁₅ O₁₅ hP => ?_
   have qq₁₅:=Same.trans ‹_› q₁₅
   refine xe02 hP fun zq404 zq405 => ?_
   try clear hP
   subst zq404
   refine xe14 zq405 fun c15 hM15 kp15 ho15 hG15 => ?_
   try clear zq405
   refine xe02 (V14.addDf hlR) fun V15 le15 => ?_
   iterate 2 walk1
   refine Turn.mk' qq₁₅ F₁₅ O₁₅ ⟨m5,(k2 pg w).mono kp15.tx hq14,_,c15,Sn14,fr14,(T14.kp hM15 kp15 ho15).loc rfl rfl rfl rfl,V15,⟨fun h => le15.fin _ (hD14 h),step _ _ (fun j l h1 h2 h3 => (hL14 j l h1 h2 h3).mono le15 fun p hp => hp) fun _ => ⟨hpS14,fun _ => by simp,fun h => absurd rfl h⟩⟩,hB14,hle14⟩
  rename_i hla'
  have hla' : l ≠ anyS:=by simpa using hla'
  refine xH ?_;intro _ _
  iterate 2 walk1
  first | refine xN ?_ | walk1
  refine imeth ‹_› ‹_› ‹_› ‹_› (by k_is) (by k_is) (by k_is) (by first | assumption | rfl) ?_
  iterate 2 walk1
  first | refine xN ?_ | walk1
  walk1
  first | refine xN ?_ | walk1
  walk1
  first | refine xN ?_ | walk1
  iterate 2 walk1
  refine (addTrD w _ y qa pa M14 c14 T14.dfa T14.out hq14 hp14 (by rw [V14.hU];exact mem_uq hsU okq8.srt okq8.sub okq8.ne) (by rw [V14.hL];exact hRL l (pL.mem_iff.mp (List.mem_of_getElem? hli)))).call (C.le (by decide)) ‹_› ‹_› fun v σ₁₅ s₁₅ q₁₅ F₁₅ O₁₅ hP => ?_
  have qq₁₅:=Same.trans ‹_› q₁₅
  refine xe02 hP fun zq406 zq407 => ?_
  try clear hP
  subst zq406
  refine xe14 zq407 fun c15 hM15 kp15 ho15 hG15 => ?_
  try clear zq407
  refine xe02 (V14.addTr hlR hle hla') fun V15 le15 => ?_
  iterate 2 walk1
  refine Turn.mk' qq₁₅ F₁₅ O₁₅ ⟨m5,(k2 pg w).mono kp15.tx hq14,_,c15,Sn14,fr14,(T14.kp hM15 kp15 ho15).loc rfl rfl rfl rfl,V15,⟨fun h => le15.fin _ (hD14 h),step _ _ (fun j l h1 h2 h3 => (hL14 j l h1 h2 h3).mono le15 fun p hp => hp) fun _ => ⟨hpS14,fun h => absurd h hla',fun _ => by simp⟩⟩,hB14,hle14⟩
 have qq₁₂:=Same.trans ‹_› q₁₂
 iterate 2 walk1
 refine holdP ?_;intro G;rcases J with ⟨m5,hq12,M12,c12,Sn12,fr12,T12,V12,⟨hD12,hL12⟩,hB12,hle12⟩;unfold G;clear G
 refine ⟨(1024 - Sn12.length) + fr12.length,by lia,m₁₂,σ₁₂,M12,c12,q :: Dn,Sn12,fr12,qq₁₂,F₁₂,O₁₂,T12.weak e11,V12.fill (fun l h1 h2 => ?_) hD12,rfl,by lia⟩
 refine xe11 (List.mem_iff_getElem?.mp (pL.mem_iff.mpr ((hRm l).mpr h1))) fun j hj => ?_
 exact hL12 j l (by have:=(List.getElem?_eq_some_iff.mp hj).1;lia) hj h2
structure Noted (fs : List Addr) (e T : Addr) (X : String) (h h' : Heap) : Prop where
 keep : ∀ b o,b ∉ fs → b ≠ e → b ≠ T → h.get? b = some o → h'.get? b = some o
 fr : ∀ b o,b ∈ fs → h.get? b = some o → ∃ sl,h'.get? b = some { o with slots:=sl }
 exc : ∃ oe t,h'.get? e = some oe ∧ oe.cls = .type X ∧ oe.data = .fields #[t,.ref T,.none,.none,.bool false,.none]
 tb : ∃ oT ts,h'.get? T = some oT ∧ oT.data = .fields ts ∧ 3 < ts.size
 Tn : h.get? T = none
 Te : T ≠ e
section
variable {M : Model} {A : Around} {E : Value → Shared → Prop} {s : Shared}
theorem noteNew {B : Heap} {env : Env} {outer : List Env} {L e : Addr} {X : String} {t : Value} {oe : Obj} {Q : Unit → Shared → Prop} (hfr : A.frames = some (env :: outer)) (hl : s.heap.FunFrames B (env :: outer)) (hf : env.frame = some L)
  (he : s.heap.get? e = some oe) (hc : oe.cls = .type X) (hd : oe.data = .fields #[t,.none,.none,.none,.bool false,.none])
  (hQ : ∀ h' T,Noted ((env :: outer).filterMap (·.frame)) e T X s.heap h' → Q () { s with heap:=h' }) : wpAny M A (noteFrame (.ref e) env) Q E s:=by
 have hene : e ∉ (env :: outer).filterMap (·.frame):=fun hm => by
  refine xe02 (hl.mem hm) fun _ zq124 => ?_
  refine xe12 zq124 fun o ho hnf => ?_
  try clear zq124
  rw [he] at ho;injection ho with ho;subst ho;exact hnf _ hd
 unfold noteFrame
 simp only [hf]
 refine wpAny_bind (wpAny_field he hd (x:=.none) rfl ?_)
 refine wpAny_bind (wpAny_frameOf_fun hfr hl hf fun h₁ hs₁ => ?_)
 refine wpAny_bind (wpAny_entryPlaceOf fun pl hpl => ?_)
 refine wpAny_bind (wpAny_newObj_type ?_ (hpl.sizeOk5 _ _ _ _ _))
 have he₁ : h₁.get? e = some oe:=(hs₁.2.1 e hene).trans he
 generalize hoT : ({ cls:=.type "traceback",dict:=none,data:=.fields ([Value.none,.ref L,.none,rawInt L,.none] ++ (if pl.isEmpty then List.replicate 6 Value.none else pl)).toArray } : Obj) = oT
 have hT1:=Heap.get?_push_size h₁ (o:=oT) (by rw [← hoT];rfl)
 have he₂:=Heap.get?_push_of_some (h:=h₁) oT he₁
 refine wpAny_setField he₂ hd (by simp) (hQ _ h₁.objs.size ?_)
 have hTe : h₁.objs.size ≠ e:=Nat.ne_of_gt (Heap.lt_size he₁)
 have hd₃:=Obj.data_mapFields hd (·.setIfInBounds 1 (Value.ref h₁.objs.size))
 have keep : ∀ b o,b ≠ e → h₁.get? b = some o → ((h₁.push oT).update e (Obj.mapFields (·.setIfInBounds 1 (Value.ref h₁.objs.size)))).get? b = some o:=fun b o hbe hb => by
  rw [Heap.get?_update_other _ _ (Ne.symm hbe)]
  exact Heap.get?_push_of_some _ hb
 refine ⟨fun b o hb hbe _ e' => keep b o hbe ((hs₁.2.1 b hb).trans e'),fun b o hb e' => ?_,⟨_,t,Heap.get?_update_self _ he₂ (Obj.isFreed_of_fields hd₃),(Obj.cls_mapFields _ _).trans hc,hd₃⟩,⟨oT,_,(Heap.get?_update_other _ _ (Ne.symm hTe)).trans hT1,by rw [← hoT],?_⟩,?_,hTe⟩
 ·refine xe11 (hs₁.2.2 b o e') fun sl hs => ?_
  exact ⟨sl,keep b _ (fun z => hene (z ▸ hb)) hs⟩
 ·simp only [List.size_toArray,List.length_append,List.length_cons,List.length_nil];lia
 cases q : s.heap.get? h₁.objs.size with
 | none => rfl
 | some o =>
  have:=Heap.lt_size q
  rw [hs₁.1] at this
  exact absurd this (Nat.lt_irrefl _)
theorem flight {fs : List Addr} {e T : Addr} {X : String} {h : Heap} (hfs : ∀ b ∈ fs,∃ o,h.get? b = some o) (hN : Noted fs e T X h s.heap) {Q : Unit → Shared → Prop} (hQ : ∀ h',Noted fs e T X h h' → Q () { s with heap:=h' }) : wpAny M A (setFlight (.ref e) none) Q E s:=by
 refine xe23 hN.exc fun oe t he hc hd => ?_
 refine xe23 hN.tb fun oT ts hT hdT hsz => ?_
 refine wpAny_setFlight_none he hd (tb:=T) rfl hT hdT hsz (hQ _ ?_)
 have other : ∀ b,b ≠ T → (s.heap.update T (Obj.mapFields (·.setIfInBounds 3 .none))).get? b = s.heap.get? b:=fun b hb => Heap.get?_update_other _ _ (Ne.symm hb)
 refine ⟨fun b o h1 h2 h3 h4 => (other b h3).trans (hN.keep b o h1 h2 h3 h4),fun b o h1 h2 => ?_,⟨oe,t,(other e (Ne.symm hN.Te)).trans he,hc,hd⟩,⟨_,_,Heap.get?_update_self _ hT (Obj.isFreed_of_fields (Obj.data_mapFields hdT _)),Obj.data_mapFields hdT _,by simpa using hsz⟩,hN.Tn,hN.Te⟩
 refine xe11 (hN.fr b o h1 h2) fun sl hs => ?_
 refine ⟨sl,(other b fun z => ?_).trans hs⟩
 rw [z,hN.Tn] at h2;cases h2
end
noncomputable def outs (A : Around) : List Addr:=match A.frames with
 | some (_ :: outer) => outer.filterMap (·.frame)
 | _ => []
structure CxT (w : World) (A : Around) (h₀ : Heap) (L : Addr) (d : Nat) : Prop where
 fr : ∃ cn cs a ccd outer A₀ base,Below A₀ base outer h₀ ∧ A.frames = some (envOf cn cs L a ccd :: outer) ∧ cs.kind = .function ∧ (pre.heap_1 w.params).In base ∧ (∃ mean mg mb,Top vw lse mean mg mb base) ∧ KtsDicts (outer.filterMap (·.frame)) h₀
 hh : A.handled = none
 hd : A.depth + d ≤ 900
 hu : A.units + 20 * d ≤ 9000
theorem CxT.toCx {w : World} {A : Around} {h₀ : Heap} {L : Addr} {d : Nat} (C : CxT w A h₀ L d) : Cx w A h₀ L d:=by
 refine xe76 C.fr fun cn cs a ccd outer A₀ base B hA hk X zq1 D => ?_
 refine xe31 zq1 fun mean mg mb T => ?_
 try clear zq1
 exact ⟨⟨_,_,_,_,B,hA,rfl,hk⟩,X.keeps B.stays,⟨mean,mg,mb,T.keeps B.stays⟩,C.hh,C.hd,C.hu⟩
theorem CxT.le {w : World} {A : Around} {h₀ : Heap} {L : Addr} {d d' : Nat} (C : CxT w A h₀ L d) (h : d' ≤ d) : CxT w A h₀ L d' :=
 ⟨C.fr,C.hh,by have:=C.hd;lia,by have:=C.hu;lia⟩
structure SpecT (w : World) (f : Addr) (d : Nat) (args : List Value) (kw : List (Str × Value)) (σ : Sg) (P : Value → Sg → Prop) : Prop where
 run : ∀ {A : Around} {h₀ : Heap} {L : Addr} {m : Str → Option Value} {ι : Sd} {s : Shared} {R : Result → Shared → Prop},CxT w A h₀ L d → Fr h₀ L s.heap m → Own ι h₀ L s.heap σ →
  (∀ v σ' s' h₁,KtsTurn (outs A) h₀ h₁ → CxT w A h₁ L d → Same s s' → Fr h₁ L s'.heap m → Own ι h₁ L s'.heap σ' → P v σ' → R (.ok (.ret v)) s') → codeAny (model pg w) A (.call (.ref f) ⟨args,kw⟩) R s
inductive EndsT (A : Around) (ι : Sd) (g : Heap) (L : Addr) (s : Shared) (P : Value → Sg → Prop) (v : Value) (s' : Shared) : Prop
 | ofx (g') (m') (σ') (h1 : KtsTurn (outs A) g g') (h2 : Same s s') (h3 : Fr g' L s'.heap m') (h4 : Own ι g' L s'.heap σ') (h5 : P v σ')
theorem outs_deeper {A₀ : Around} {env : Env} {outer : List Env} (hA : A₀.frames = some outer) : outs (A₀.deeper env) = outer.filterMap (·.frame):=by
 unfold outs
 have : (A₀.deeper env).frames = some (env :: outer):=by
  show (A₀.frames.map (_ :: ·)) = _
  rw [hA];rfl
 rw [this]
theorem CxT.turn {w : World} {A₀ : Around} {g g' : Heap} {L f : Addr} {d : Nat} {qual : Str} {scope : Scope} {cdv : Value} {outer : List Env} {base : Heap} (C : CxT w (A₀.deeper (envOf qual scope L f cdv)) g L d) (hA : A₀.frames = some outer) (B' : Below A₀ base outer g') (XB : (pre.heap_1 w.params).In base) (TB : ∃ mean mg mb,Top vw lse mean mg mb base) (D' : KtsDicts (outer.filterMap (·.frame)) g') (hk : scope.kind = .function:=by rfl) :
  CxT w (A₀.deeper (envOf qual scope L f cdv)) g' L d :=
 ⟨⟨qual,scope,f,cdv,outer,A₀,base,B',by (show (A₀.frames.map (_ :: ·)) = _;rw [hA];rfl),hk,XB,TB,D'⟩,C.hh,C.hd,C.hu⟩
inductive MidT (J : Heap → (Str → Option Value) → Sg → Prop) (A : Around) (ι : Sd) (g : Heap) (L : Addr) (s : Shared) (f : Flow) (s' : Shared) : Prop
 | ofx (h1 : f = .next) (g') (m') (σ') (h2 : KtsTurn (outs A) g g') (h3 : Same s s') (h4 : Fr g' L s'.heap m') (h5 : Own ι g' L s'.heap σ') (h6 : J g' m' σ')
theorem cutT {prog : Program} {w : World} {A : Around} {E : Value → Shared → Prop} {s : Shared} {env : Env} {st : Stmt} {rest : List Stmt} {Q : Flow → Shared → Prop} {ι : Sd} {g : Heap} {L : Addr} (J : Heap → (Str → Option Value) → Sg → Prop)
  (h : wpAny (model prog w) A (exec st env) (MidT J A ι g L s) E s)
  (k : ∀ g' m' σ' s',KtsTurn (outs A) g g' → Same s s' → Fr g' L s'.heap m' → Own ι g' L s'.heap σ' → J g' m' σ' → wpAny (model prog w) A (execs rest env) Q E s') :
  wpAny (model prog w) A (execs (st :: rest) env) Q E s:=by
 refine wpAny_execs_cons (wpAny_mono h (fun f s' h => ?_) fun _ _ e => e)
 obtain ⟨rfl,g',m',σ',T,q,F,O,hJ⟩:=h
 exact k g' m' σ' s' T q F O hJ
theorem EndsT.mk' {A : Around} {ι : Sd} {g g' : Heap} {L : Addr} {s : Shared} {P : Value → Sg → Prop} {v : Value} {s' : Shared} {m' : Str → Option Value} {σ' : Sg} (T : KtsTurn (outs A) g g') (S : Same s s') (F : Fr g' L s'.heap m') (O : Own ι g' L s'.heap σ') (h : P v σ') : EndsT A ι g L s P v s':=⟨_,_,_,T,S,F,O,h⟩
theorem SpecT.call {w : World} {f : Addr} {d : Nat} {args : List Value} {kw : List (Str × Value)} {σ : Sg} {P : Value → Sg → Prop} (S : SpecT w f d args kw σ P) {A : Around} {h₀ : Heap} {L : Addr} {m : Str → Option Value} {ι : Sd} {s : Shared} {Q E : Value → Shared → Prop} (C : CxT w A h₀ L d) (F : Fr h₀ L s.heap m) (O : Own ι h₀ L s.heap σ)
  (k : ∀ v σ' s' h₁,KtsTurn (outs A) h₀ h₁ → CxT w A h₁ L d → Same s s' → Fr h₁ L s'.heap m → Own ι h₁ L s'.heap σ' → P v σ' → Q v s') : wpAny (model pg w) A (PySem.call (.ref f) args kw) Q E s :=
 wpAny_call (S.run C F O k)
theorem spec_ofT {w : World} {f : Addr} {d : Nat} {args : List Value} {kw : List (Str × Value)} {σ : Sg} {P : Value → Sg → Prop}
  {name qual : Str} {params : Arguments} {body : List Stmt} {scope : Scope} {dV kV doc pm cdv ct oc : Value} {an od : Option Addr} {osl : Array (Option Value)} {binds : List (Str × Value)}
  (ho : (pre.heap_1 w.params).lookup f = some ⟨oc,od,.func (fnOf name qual params body scope dV kV doc pm an cdv ct),osl⟩) (hcd : codeIn (pre.heap_1 w.params) cdv qual = true)
  (hbind : ∀ s,(pre.heap_1 w.params).In s.heap → BindsTo s (fnOf name qual params body scope dV kV doc pm an cdv ct) ⟨args,kw⟩ binds) (hloc : ∀ y ∈ binds,scope.names.lookup y.1 = some .local)
  (hco : scope.isCoroutine = false) (hgen : scope.isGenerator = false) (hk : scope.kind = .function) (hcell : ∀ x ∈ scope.names,x.2 ≠ .cell)
  (h : ∀ A₀ g L' ι s outer base,A₀.frames = some outer → Below A₀ base outer g → (pre.heap_1 w.params).In base → (∃ mean mg mb,Top vw lse mean mg mb base) → KtsDicts (outer.filterMap (·.frame)) g → CxT w (A₀.deeper (envOf qual scope L' f cdv)) g L' d → Fr g L' s.heap (fun y => binds.reverse.lookup y) → Own ι g L' s.heap σ →
   let env:=envOf qual scope L' f cdv
   let A:=A₀.deeper env
   let R : Flow → Shared → Prop:=fun fl s' => EndsT (A₀.deeper env) ι g L' s P (retOf fl) s'
   wpAny (model pg w) A (execs body env) R (fun _ _ => False) s) :
  SpecT w f (d + 1) args kw σ P:=by
 refine ⟨fun {A h₀ L m ι s R} C F O k => ?_⟩
 refine xe76 C.fr fun cn cs a ccd outer A₀ base B hA hck XB zq2 D => ?_
 refine xe31 zq2 fun mean mg mb TB => ?_
 try clear zq2
 have X₀:=XB.keeps B.stays
 have T₀:=TB.keeps B.stays
 have hout : outs A = outer.filterMap (·.frame):=by unfold outs;rw [hA]
 refine code_defS (g₀:=h₀) B F X₀ (O.news s.heap.objs.size) T₀ XB TB D KtsTurn.refl hA ho hcd (by have:=C.hd;show _ < 1000;lia) (hbind _ (X₀.keeps F.keep)) hloc (fun g L' h₁ FG F' N' B' X' T' D' => ?_) hck hco hgen hk hcell
 refine wpAny_mono (h A g L' ι { s with heap:=h₁,toks:=s.toks + binds.length } (envOf cn cs L a ccd :: outer) base hA B' XB ⟨mean,mg,mb,TB⟩ D' ⟨⟨qual,scope,f,cdv,envOf cn cs L a ccd :: outer,A,base,B',?_,hk,XB,⟨mean,mg,mb,TB⟩,D'⟩,C.hh,?_,?_⟩ F' (O.ofNews' N')) (fun fl s' hl => ?_) fun _ _ e => e.elim
 ·show (A.frames.map (_ :: ·)) = _
  rw [hA];rfl
 ·have:=C.hd;show A.depth + 1 + d ≤ 900;lia
 ·have:=C.hu;show A.units + 3 + 20 * d ≤ 9000;lia
 obtain ⟨g',m',σ',Tn,S',F'',O'',hP⟩:=hl
 have ho2 : outs (A.deeper (envOf qual scope L' f cdv)) = (envOf cn cs L a ccd :: outer).filterMap (·.frame):=by
  unfold outs
  have : (A.deeper (envOf qual scope L' f cdv)).frames = some (envOf qual scope L' f cdv :: envOf cn cs L a ccd :: outer):=by
   show (A.frames.map (_ :: ·)) = _
   rw [hA];rfl
  rw [this]
 rw [ho2] at Tn
 refine leaveS_r F'' (O''.news s'.heap.objs.size) Tn fun h₀' T1 F1 N1 B1 X1 P1 D1 => ?_
 cases fl <;> exact k _ σ' s' h₀' (by rw [hout];exact T1) ⟨⟨cn,cs,a,ccd,outer,A₀,base,B1,hA,hck,XB,⟨mean,mg,mb,TB⟩,D1⟩,C.hh,C.hd,C.hu⟩ ⟨S'.1,S'.2⟩ F1 (O''.ofNews N1) hP
theorem ground {A₀ : Around} {base g h h₅ h₁ : Heap} {outer : List Env} {L a e T : Addr} {m : Str → Option Value} {name : Str} {scope : Scope} {cd : Value} {X : String} {ι : Sd} {σ : Sg} (K : Below A₀ base outer g) (F : Fr g L h m) (O : Own ι g L h σ) (hx : Heap.NewExc h h₁ e X) (hN : Noted ((envOf name scope L a cd :: outer).filterMap (·.frame)) e T X h₁ h₅) :
  ∃ g' oe t,KtsTurn (outer.filterMap (·.frame)) g g' ∧ Fr g' L h₅ m ∧ Own ι g' L h₅ (upd σ e oe) ∧ σ e = none ∧ oe.cls = .type X ∧ oe.data = .fields #[t,.ref T,.none,.none,.bool false,.none] ∧ Below A₀ base outer g':=by
 refine xe23 hN.exc fun oe t he hc hd => ?_
 have hLself:=kts_self F
 have neE : ∀ b o,h.get? b = some o → b ≠ e:=fun b o q z => by rw [z,hx.new] at q;cases q
 have neT : ∀ b o,h.get? b = some o → b ≠ T:=fun b o q z => by
  have:=hx.keeps b o q
  rw [z,hN.Tn] at this;cases this
 have kp : ∀ b o,h.get? b = some o → b ≠ L → b ∉ outer.filterMap (·.frame) → h₅.get? b = some o:=fun b o q nL nf => hN.keep b o (fun hm => by
  rcases kts_mem hm with z | z
  ·exact nL z
  exact nf z) (neE b o q) (neT b o q) (hx.keeps b o q)
 obtain ⟨T',S⟩:=kts_turn_at (h:=h₅) (fs:=outer.filterMap (·.frame)) (g:=g)
  (fun b hb => by
   refine xe02 (K.frames.mem hb) fun _ zq125 => ?_
   refine xe12 zq125 fun o ho _ => ?_
   try clear zq125
   exact ⟨o,ho⟩)
  (fun b o e nm => kp b o (F.keep b o e) (fun z => by rw [z,hLself] at e;cases e) nm)
  (fun b o e hm => hN.fr b o (by
   refine xe12 (List.mem_filterMap.mp hm) fun env h1 h2 => ?_
   exact List.mem_filterMap.mpr ⟨env,.tail _ h1,h2⟩) (hx.keeps _ _ (F.keep b o e)))
 have nof : ∀ b,g.get? b = none → b ∉ outer.filterMap (·.frame):=fun b hb hm => by
  refine xe02 (K.frames.mem hm) fun _ zq126 => ?_
  refine xe12 zq126 fun o ho _ => ?_
  try clear zq126
  rw [hb] at ho;cases ho
 have he0 : σ e = none:=by
  cases q : σ e with
  | none => rfl
  | some o => exact absurd rfl (neE _ _ (O.get q))
 refine ⟨_,oe,t,T',⟨?_,S,by rw [T'.size];exact F.above⟩,⟨fun b o q => ?_,fun p hp => ?_⟩,he0,hc,hd,⟨K.stack,fun b o e => T'.other b o (K.stays b o e) (fun hm => by
  rw [(K.frames.mem hm).1] at e
  cases e),K.frames.of_keeps fun b o e _ => ?_⟩⟩
 ·refine xe34 F.ns fun oL es ep hL hd' hk hf => ?_
  refine xe11 (hN.fr L oL (.head _) (hx.keeps _ _ hL)) fun sl hs => ?_
  exact ⟨_,es,ep,hs,hd',hk,hf⟩
 ·by_cases hb : b = e
  ·subst hb
   rw [upd_self] at q;cases q
   refine ⟨he,fun z => ?_,T'.none_ _ (kts_none F.keep hx.new)⟩
   refine xe32 F.ns fun oL _ _ hL _ => ?_
   exact neE _ _ hL z.symm
  rw [upd_ne hb] at q
  refine xe03 (O.cell b o q) fun q1 q2 q3 => ?_
  exact ⟨kp b o q1 q2 (nof b q3),q2,T'.none_ _ q3⟩
 ·refine xe04 (O.side p hp) fun q1 q2 q3 q4 => ?_
  exact ⟨kp _ _ q1 q2 (nof _ q3),q2,T'.none_ _ q3,by rw [upd_ne (neE _ _ q1)];exact q4⟩
 refine xe11 (T'.up e) fun sl hs => ?_
 exact ⟨_,hs,rfl⟩
theorem caught_here {prog : Program} {w : World} {A₀ : Around} {E : Value → Shared → Prop} {s' : Shared} {base g h : Heap} {outer : List Env} {L a e : Addr} {m : Str → Option Value} {name : Str} {scope : Scope} {cd : Value} {X T' : String} {ι : Sd} {σ : Sg}
  {b₀ : Stmt} {suite : List Stmt} {pos np : Pos} {rest : List ExceptHandler} {Q : Flow → Shared → Prop} {KF : Frag} {p : Program} {loose : List Str} {mean : ExcName → Option Value} {mg mb : Str → Option Value} {x : Str}
  (K : Below A₀ base outer g) (F : Fr g L h m) (O : Own ι g L h σ) (hx : Heap.NewExc h s'.heap e X) (XB : KF.In base) (TB : Top p loose mean mg mb base)
  (ex : nsIn KF mainGlobals x = some none) (hv : bootBuiltins x = some (.type T')) (hn' : x ≠ "__name__")
  (hexc : isSubtype (.type T') (.type "BaseException") = pure true) (hnt : isSubtype (.type ((Manifest.find? T').elim "type" fun y => y.metatype)) (.type "tuple") = pure false) (hsub : isSubtype (.type X) (.type T') = pure true)
  (k : ∀ h' g' oe t T,KtsTurn (outer.filterMap (·.frame)) g g' → Fr g' L h' m → Own ι g' L h' (upd σ e oe) → σ e = none → oe.cls = .type X → oe.data = .fields #[t,.ref T,.none,.none,.bool false,.none] → Below A₀ base outer g' →
   wpAny (model prog w) ((A₀.deeper (envOf name scope L a cd)).mark (some (.ref e))) (execs (b₀ :: suite) (envOf name scope L a cd)) Q (fun _ _ => False) { s' with heap:=h' })
  (hk : scope.kind = .function:=by rfl) (hxk : (envOf name scope L a cd).kindOf x = some .globalImplicit:=by rfl) (hdb : (x == ("__debug__" : Str)) = false:=by decide) :
  wpAny (model prog w) (A₀.deeper (envOf name scope L a cd)) (noteFrame (.ref e) (envOf name scope L a cd))
   (fun _ s₂ => wpAny (model prog w) (A₀.deeper (envOf name scope L a cd)) (setFlight (.ref e) none) (fun _ s₃ =>
    wpAny (model prog w) (A₀.deeper (envOf name scope L a cd)) (handleBy (.ref e) (envOf name scope L a cd) (.ExceptHandler (some (.Name x np)) none (b₀ :: suite) pos :: rest)) Q E s₃) E s₂) E s':=by
 have K':=K.push (name:=name) (a:=a) (cd:=cd) F hk
 refine xe23 hx.there fun ob t0 hob hobc hobd => ?_
 have hfr : s'.heap.FunFrames base (envOf name scope L a cd :: outer):=K'.frames.of_keeps fun b o e _ => ⟨o,hx.keeps b o e,rfl⟩
 have hfs : ∀ b ∈ (envOf name scope L a cd :: outer).filterMap (·.frame),∃ o,s'.heap.get? b = some o:=fun b hb => xe02 (hfr.mem hb) fun _ zm4 => by obtain ⟨o,ho,_⟩:=zm4;exact ⟨o,ho⟩
 refine noteNew K'.stack hfr rfl hob hobc hobd fun h₄ T hN₄ => ?_
 refine flight (s:={ s' with heap:=h₄ }) hfs hN₄ fun h₅ hN₅ => ?_
 refine xe37 (ground K F O hx hN₅) fun g₅ oe₅ t₅ T₅ F₅ O₅ he0 hc₅ hd₅ K₅ => ?_
 have X₅ : KF.In g₅:=XB.keeps K₅.stays
 have P₅ : TopRead p loose mg mb g₅:=topRead_of (TB.keeps K₅.stays)
 refine wpAny_handleBy_builtin (X:=X) (T:=T') (b:=true) hexc hnt hsub (name_B F₅ X₅ P₅ ex hv hn' ⟨rfl,⟨_,O₅.get (upd_self ..),hc₅⟩,?_⟩ hk hxk hdb)
 refine flight (s:={ s' with heap:=h₅ }) hfs hN₅ fun h₆ hN₆ => ?_
 refine xe37 (ground K F O hx hN₆) fun g₆ oe₆ t₆ T₆ F₆ O₆ _ hc₆ hd₆ K₆ => ?_
 exact wpAny_mono (k h₆ g₆ oe₆ t₆ T T₆ F₆ O₆ he0 hc₆ hd₆ K₆) (fun _ _ q => q) fun _ _ q => q.elim
theorem entry_unchain : entryFor table "proto.unchain" = some Builtin.«proto.unchain»:=entryFor_of_tree (by kernel_rfl)
section
variable {prog : Program} {w : World} {A : Around} {E : Value → Shared → Prop} {s : Shared} {K : Type} [DecidableEq K] {knd : KeyKind prog w K}
theorem raise_under {α : Type} {e a : Addr} {oe oa : Obj} {vs ws : Array Value} {Q : α → Shared → Prop} (hh : A.handled = some (.ref e)) (he : s.heap.get? e = some oe) (hd : oe.data = .fields vs) (h2 : vs[2]? = some .none) (ha : s.heap.get? a = some oa) (hda : oa.data = .fields ws) (hw : 2 < ws.size) (hne : e ≠ a)
  (h : ∀ h',(∀ b o,b ≠ a → s.heap.get? b = some o → h'.get? b = some o) → (∃ o,h'.get? a = some o ∧ o.cls = oa.cls) → E (.ref a) { s with heap:=h' }) : wpAny (model prog w) A (raiseNew (.ref a) : Sem α) Q E s:=by
 refine wpAny_bind (wpAny_handled ?_)
 rw [hh]
 have hb : ((Value.ref e) != Value.ref a) = true:=by simp [hne]
 simp only [hb,if_true]
 refine wpAny_bind ?_
 refine wpAny_holding (wpAny_runValue (codeAny_builtin entry_unchain ?_))
 show wpAny _ A.in1 (field (.ref e) 2 >>= _) _ _ s
 refine wpAny_bind (wpAny_field he hd h2 ?_)
 refine wpAny_pure ?_
 refine wpAny_bind ?_
 refine wpAny_setField ha hda hw ?_
 refine wpAny_throw (h _ (fun b o hb q => (Heap.get?_update_other _ _ (Ne.symm hb)).trans q) ⟨_,Heap.get?_update_self _ ha (Obj.isFreed_of_fields (Obj.data_mapFields hda _)),Obj.cls_mapFields _ _⟩)
theorem keys_end {it d e : Addr} {i ep : Nat} {kvs : List (K × Value)} {oe : Obj} {vs : Array Value} {Q : Option Value → Shared → Prop} (hh : A.handled = some (.ref e)) (he : s.heap.get? e = some oe) (hde : oe.data = .fields vs) (h2 : vs[2]? = some .none) (hei : e ≠ it)
  (hit : s.heap.IsKeyIter it d i kvs.length ep) (hm : s.heap.DictAt knd d kvs ep) (hx : kvs[i]? = none) (hQ : ∀ h',Heap.ExtBut it s.heap h' → Q none { s with heap:=h' }) : wpAny (model prog w) A (pyNext (.ref it)) Q E s:=by
 refine xe13 (id hit) fun o ho hc hd => ?_
 refine xe26 (id hm) fun od es hod hcd hdd hk hp hn => ?_
 have hsz : es.size = kvs.length:=by rw [← hp.length];simp
 have hge : es.size ≤ i:=by rw [hsz];simpa using hx
 have hown : Builtin.Dict_items.ownsTuple "dict_keyiterator" = false:=by decide
 refine wpAny_bind (wpAny_attempt (wpAny_callSpecial?_slot (name:=Str.ofString "__next__") hit.typeIs PySem.F.slot_dict_keyiterator_next
  (wpAny_call_entry PySem.F.slot_dict_keyiterator_next hit.typeIs PySem.F.entry_dict_keyiterator_next ?_ (PySem.F.args_dict_keyiterator_next_1 _))))
 refine wpAny_bind (wpAny_pure ?_)
 iterate 2 refine wpAny_bind ?_
 first | refine wpAny_bind (wpAny_typeNameOfWhole_keyiter hit.typeIs (wpAny_pure ?_)) | refine wpAny_bind (wpAny_typeNameOf_keyiter hit.typeIs (wpAny_pure ?_))
 refine wpAny_bind (wpAny_fieldsOf ho hd ?_)
 show wpAny _ _ (if (Value.ref d == Value.none) = true then _ else _) _ _ s
 refine wpAny_bind (wpAny_pure ?_)
 refine wpAny_bind (wpAny_dictEntries hod hdd ?_)
 rw [if_neg (by rw [hsz];simp)]
 refine wpAny_bind (wpAny_pure ?_)
 refine wpAny_bind (wpAny_dictEpoch hod hdd ?_)
 refine wp_neg (by simp) ?_
 refine wpAny_pure ?_
 simp only [show ¬ ((i : Int) < 0) from by lia,if_false,Int.toNat_natCast,Array.getElem?_eq_none hge]
 refine wpAny_bind ?_
 first | refine wpAny_bind (wpAny_typeNameOfWhole_keyiter hit.typeIs (wpAny_pure ?_)) | refine wpAny_bind (wpAny_typeNameOf_keyiter hit.typeIs (wpAny_pure ?_))
 show wpAny _ _ (setField (.ref it) 0 .none >>= _) _ _ s
 refine wpAny_bind (wpAny_setField ho hd (by simp) ?_)
 show wpAny _ _ (newExc (.type "StopIteration") [] >>= _) _ _ _
 refine wpAny_bind ?_
 refine wpAny_bind (wpAny_newObj_type ?_ (by size_fits))
 refine wpAny_bind (m:=firstArgMember _ _) (wpAny_of_eq (a:=Value.none) (by first | rfl | (simp only [firstArgMember];rfl)) ?_)
 refine wpAny_newObj_type ?_ (by size_fits)
 have e1 : Heap.ExtBut it s.heap (s.heap.update it (Obj.mapFields (·.setIfInBounds 0 Value.none))):=(Heap.SameBut.update ..).extBut
 generalize (s.heap.update it (Obj.mapFields (·.setIfInBounds 0 Value.none))) = hp1 at e1 ⊢
 generalize hT : ({ cls:=.type "tuple",data:=.seq ([] : List Value).toArray } : Obj) = oT
 have e2 : Heap.ExtBut it s.heap (hp1.push oT):=e1.push _
 generalize hp1.push oT = hp2 at e2 ⊢
 generalize hE : (Obj.mk (Value.type "StopIteration") none _ _) = oS
 refine raise_under (s:={ s with heap:=hp2.push oS }) (oe:=oe) (vs:=vs) (oa:=oS) (by first | exact hh | (show A.in1.handled = _;exact hh)) ?_ hde h2 (Heap.get?_push_size hp2 (by rw [← hE];rfl)) (by rw [← hE]) (by simp;lia) ?_ fun h' hk' ho' => ?_
 ·exact Heap.get?_push_of_some _ (e2 e oe hei he)
 ·exact Nat.ne_of_lt (Heap.lt_size (e2 e oe hei he))
 refine xe12 ho' fun oa ha hac => ?_
 try clear ho'
 refine wpAny_bind (wpAny_isInstance (T:="StopIteration") (b:=true) ⟨_,ha,by rw [hac,← hE]⟩ isSubtype_stop ?_)
 exact wpAny_pure (hQ _ fun b ob hb q => hk' b ob (Nat.ne_of_lt (Heap.lt_size (e2 b ob hb q))) (Heap.get?_push_of_some _ (e2 b ob hb q)))
theorem walks_keysH {I d e : Addr} {oe : Obj} {vs : Array Value} (hh : A.handled = some (.ref e)) (hde : oe.data = .fields vs) (h2 : vs[2]? = some .none) (hne : d ≠ I) (hei : e ≠ I) (kvs : List (K × Value)) (ep : Nat) :
  Walks prog w A I [I,d,e] [I] kvs.length (fun i v => ∃ k x,kvs[i]? = some (k,x) ∧ knd.is k v = true) (fun i h => h.IsKeyIter I d i kvs.length ep ∧ h.DictAt knd d kvs ep ∧ h.get? e = some oe) where
 sub:=fun b hb => by simp at hb;simp [hb]
 frame:=fun _ _ _ st hk => ⟨st.1.at fun o q => hk I (by simp) o q,st.2.1.at' fun o q => hk d (by simp) o q,hk e (by simp) _ st.2.2⟩
 item:=fun i s Q E hi st hQ => by
  obtain ⟨⟨k,x⟩,hx⟩ : ∃ p,kvs[i]? = some p:=⟨kvs[i],by simp [hi]⟩
  refine wpAny_pyNext_dict_item st.1 st.2.1 hx fun key h' hkey hit' hs' => ?_
  exact hQ key h' s.toks ⟨k,x,hx,hkey⟩ ⟨hit',st.2.1.extBut hs'.extBut hne,hs'.extBut e _ hei st.2.2⟩ fun b o hb q => hs'.extBut b o (fun h => hb (by simp [h])) q
 done:=fun s Q E st hQ => keys_end hh st.2.2 hde h2 hei st.1 st.2.1 (by simp) fun h' he' => hQ h' s.toks fun b o hb q => he' b o (fun h => hb (by simp [h])) q
 self:=fun _ _ _ _ st hQ => wpAny_pyIter_keyiter st.1 hQ
end
section
variable {prog : Program} {w : World} {A : Around} {E : Value → Shared → Prop} {s : Shared} {ι : Sd} {h₀ : Heap} {L d e : Addr} {σ : Sg} {m : Str → Option Value} {f : Str → Option Value} {oe : Obj} {vs : Array Value} {R : Result → Shared → Prop}
theorem ext_dictH {kvs : List (Str × Value)} {ep : Nat} (hh : A.handled = some (.ref e)) (he : s.heap.get? e = some oe) (hde : oe.data = .fields vs) (h2 : vs[2]? = some .none) (lo : (d == sysModules) = false) (hok : s.heap.DictAt (strKind prog w) d kvs ep) (S : Addr) (hSd : S ≠ d) (hSe : S ≠ e) (res : Value) (c₀ : Nat) (hS : s.heap.get? S = some { cls:=.type "list",data:=.seq #[] c₀ })
  (hR : ∀ h' tk acc' c',(∀ b o,b ≠ S → s.heap.get? b = some o → h'.get? b = some o) → h'.get? S = some { cls:=.type "list",dict:=none,data:=.seq acc' c',slots:=#[] } → ItemsOf (fun i v => ∃ k x,kvs[i]? = some (k,x) ∧ (strKind prog w).is k v = true) acc' kvs.length → R (.ok (.ret res)) { s with heap:=h',toks:=tk }) (hn : kvs.length ≤ sizeLine) :
  wpAny (model prog w) A.in1 (Builtin.List.listExtendWith (.ref S) (.ref d) res)
   (fun fin s' => match fin with | .done f => R (.ok f) s' | .again c' => c'.quiet = true ∧ codeAny (model prog w) A c' R s') (fun e s' => R (.error e) s') s:=by
 have K:=kdl_dict (prog:=prog) (w:=w) (knd:=strKind prog w) (kvs:=kvs) (ep:=ep) lo
 have hdI : d ≠ s.heap.objs.size:=Nat.ne_of_lt (K.there _ hok).1
 have heI : e ≠ s.heap.objs.size:=Nat.ne_of_lt (Heap.lt_size he)
 have hSI : S ≠ s.heap.objs.size:=Nat.ne_of_lt (Heap.lt_size hS)
 have hSf : S ∉ [s.heap.objs.size,d,e]:=by simp only [List.mem_cons,List.not_mem_nil,or_false,not_or];exact ⟨hSI,hSd,hSe⟩
 have W:=walks_keysH (prog:=prog) (w:=w) (A:=A.in1) (knd:=strKind prog w) (show A.in1.handled = _ from hh) hde h2 hdI heI kvs ep
 refine wpAny_bind (wpAny_typeOf (T:="dict") (K.type s hok) ?_)
 have h1 : Builtin.List.listSameRef (.ref S) (.ref d) = false:=by simp [Builtin.List.listSameRef,hSd]
 simp only [h1,K.notList,K.notTuple,Bool.or_false,Bool.false_eq_true,if_false]
 refine wpAny_bind (wpAny_pyIter_dict lo hok ?_)
 have push : ∀ b o,s.heap.get? b = some o → (s.heap.push { cls:=.type "dict_keyiterator",data:=.fields #[.ref d,.int 0 0,.int kvs.length 0,.int ep 0] }).get? b = some o:=fun b o q => Heap.get?_push_of_some _ q
 have st : (s.heap.push { cls:=.type "dict_keyiterator",data:=.fields #[.ref d,.int 0 0,.int kvs.length 0,.int ep 0] }).IsKeyIter s.heap.objs.size d 0 kvs.length ep:=⟨_,Heap.get?_push_size _ rfl,rfl,rfl⟩
 have hS₁:=push _ _ hS
 refine wpAny_bind (wpAny_holding (K.hint _ _ _ _ (K.keep _ _ hok fun b _ o q => push b o q) ?_))
 have key : ∀ (h : Heap) (c₁ tk : Nat),(∀ b o,b ≠ S → (s.heap.push { cls:=.type "dict_keyiterator",data:=.fields #[.ref d,.int 0 0,.int kvs.length 0,.int ep 0] }).get? b = some o → h.get? b = some o) → h.get? S = some { cls:=.type "list",data:=.seq #[] c₁ } →
   codeAny (model prog w) A (.builtin "list.extend.loop" ⟨[.ref S,.ref s.heap.objs.size,res],[]⟩) R { s with heap:=h,toks:=tk }:=by
  intro h c₁ tk hk hS₂
  have hst:=W.frame 0 _ h ⟨st,hok.at' fun o q => push _ _ q,push _ _ he⟩ fun b hb o q => hk b o (fun z => hSf (z ▸ hb)) q
  refine codeAny_extend_loopS W.toS hn S hSf res _ 0 _ #[] c₁ rfl (Nat.zero_le _) hst hS₂ (ItemsOf.nil _) fun s' acc' c' hm hS' hacc => ?_
  rw [Moved.eq_with hm]
  refine hR s'.heap s'.toks acc' c' (fun b o hb q => hm.heap b o (fun hmem => ?_) (hk b o hb (push _ _ q))) hS' hacc
  rcases List.mem_cons.mp hmem with e' | hmem
  ·exact hb e'
  exact absurd (Heap.lt_size q) (by rw [List.mem_singleton.mp hmem];exact Nat.lt_irrefl _)
 refine wpAny_ite_split (fun _ => ?_) (fun _ => wpAny_pure ⟨plainId_quiet PySem.F.plain_extend_loop _,key _ c₀ _ (fun b o _ q => q) hS₁⟩)
 refine wpAny_bind (wpAny_rule ?_)
 refine wpAny_bind ?_
 refine wpAny_bind (wpAny_updateSeq hS₁ rfl ?_)
 have hS₂:=Heap.get?_update_self (Obj.mapSeq (·.push Value.none)) hS₁ rfl
 refine wpAny_updateSeq (hz:=by seq_fits) hS₂ rfl ?_
 have hS₃:=Heap.get?_update_self (Obj.mapSeq (·.pop)) hS₂ rfl
 exact wpAny_pure ⟨plainId_quiet PySem.F.plain_extend_loop _,key _ _ _ (fun b o hb q => (Heap.get?_update_other _ _ (Ne.symm hb)).trans ((Heap.get?_update_other _ _ (Ne.symm hb)).trans q)) hS₃⟩
theorem dsortedH (hh : A.handled = some (.ref e)) (he : σ e = some oe) (hde : oe.data = .fields vs) (h2 : vs[2]? = some .none) (F : Fr h₀ L s.heap m) (O : Own ι h₀ L s.heap σ) (Dd : DS prog w σ d f) {U : List Str} (hU : ∀ k,f k ≠ none → k ∈ U) (h64 : U.length < 64) {Q : Value → Shared → Prop}
  (h : ∀ s' D S' vs c,σ D = none → Same s s' → Fr h₀ L s'.heap m → Own ι h₀ L s'.heap (upd σ D (listOf vs.toArray c)) → (∀ k,k ∈ S' ↔ f k ≠ none) → S'.Pairwise (fun a b => sLt a b = true) → All2 isS S' vs → Q (.ref D) s') :
  wpAny (model prog w) A (call (.builtin "sorted") [.ref d]) Q E s:=by
 obtain ⟨od,kvs,d1,hdo,hf⟩:=Dd.ex
 have hfun : valueAt kvs = f:=funext hf
 obtain ⟨es,ep,hex,hdat,hk,hp,hnd⟩:=id hdo
 have hle : kvs.length ≤ U.length:=skeys_len hnd (by rw [hfun];exact hU)
 have hmem : ∀ k,k ∈ kvs.map (·.1) ↔ f k ≠ none:=fun k => by
  rw [← hfun]
  unfold valueAt
  constructor
  ·intro hkm z
   refine xe12 (List.mem_map.mp hkm) fun kv hkv zq1 => ?_
   subst zq1
   rw [Option.map_eq_none_iff,List.find?_eq_none] at z
   exact z _ hkv (by simp)
  intro z
  cases hq : kvs.find? (fun kv => decide (kv.1 = k)) with
  | none => rw [hq] at z;exact absurd rfl z
  | some kv => exact List.mem_map.mpr ⟨kv,List.mem_of_find?_eq_some hq,by have h2:=List.find?_some hq;exact of_decide_eq_true h2⟩
 refine Calls.call_function_entry kind_sorted plain_sorted entry_sorted (args_sorted1 _) ?_
 refine wpAny_bind (m:=checkCount "sorted" 1 1 _) (wpAny_pure ?_)
 refine wpAny_bind ?_
 refine wpAny_bind (wpAny_runValue (codeAny_builtin PySem.F.entry_proto_collect ?_))
 show wpAny _ A.in1.in1 (newList [] >>= fun l => again (.builtin "list.__iadd__" ⟨[l,.ref d],[]⟩)) _ _ s
 refine wpAny_bind (wpAny_newObj_type ?_)
 refine wpAny_pure ⟨plainId_quiet PySem.F.plain_list_iadd _,codeAny_builtin PySem.F.entry_list_iadd ?_⟩
 have hl : σ s.heap.objs.size = none:=O.fresh (Nat.le_refl _)
 have hdl : s.heap.objs.size ≠ d:=fun z => by rw [z,d1] at hl;cases hl
 have hel : s.heap.objs.size ≠ e:=fun z => by rw [z,he] at hl;cases hl
 have hok : (s.heap.push { cls:=.type "list",data:=.seq ([] : List Value).toArray }).DictAt (strKind prog w) d kvs ep:=⟨od,es,Heap.get?_push_of_some _ (O.get d1),hex,hdat,hk,hp,hnd⟩
 refine ext_dictH (A:=A.in1) (R:=fun r s' => match r with
    | .ok (.ret v) => wpAny (model prog w) A.in1 (match v with
      | .ref a => do
       let o ← load a
       match o.data with
        | .seq xs _ => pure xs.toList
        | _ => unsupported "internal:collect"
      | _ => unsupported "internal:collect") _ E s'
    | .ok _ => False
    | .error e => E e s') (show A.in1.handled = _ from hh) (Heap.get?_push_of_some _ (O.get he)) hde h2 Dd.low hok s.heap.objs.size hdl hel _ 0 (Heap.get?_push_size _ rfl) (fun h' tk acc' c' hk' hS' hacc => ?_) ?_
 ·show wpAny _ A.in1 (load s.heap.objs.size >>= _) _ _ _
  refine wpAny_bind (wpAny_load hS' ?_)
  refine wpAny_pure ?_
  have hkeep : ∀ b o,s.heap.get? b = some o → h'.get? b = some o:=fun b o e => hk' b o (Nat.ne_of_lt (Heap.lt_size e)) (Heap.get?_push_of_some _ e)
  have hall : All2 isS (kvs.map (·.1)) acc'.toList:=by
   have go : ∀ (kvs : List (Str × Value)) (l : List Value),l.length = kvs.length → (∀ (j : Nat) v,l[j]? = some v → ∃ k x,kvs[j]? = some (k,x) ∧ (strKind prog w).is k v = true) → All2 isS (kvs.map (·.1)) l:=by
    intro kvs
    induction kvs with
    | nil => intro l hl _;cases l with
     | nil => exact .nil
     | cons _ _ => simp at hl
    | cons kv kvs ih =>
     intro l hl hj
     cases l with
     | nil => simp at hl
     | cons v l =>
      refine .cons ?_ (ih l (by simpa using hl) fun j v hv => ?_)
      ·refine xe22 (hj 0 v rfl) fun k x h1 h2 => ?_
       simp at h1;subst h1
       exact Value.isStrOf_shape h2
      refine xe22 (hj (j + 1) v hv) fun k x h1 h2 => ?_
      exact ⟨k,x,by simpa using h1,h2⟩
   exact go kvs acc'.toList (by exact hacc.1) fun j v hv => hacc.2 j v (by rw [← Array.getElem?_toList];exact hv)
  refine sort_tail (F.kept hkeep) (O.more hkeep) hall hnd (by rw [Array.length_toList,hacc.1];exact xs84 ‹_› ‹_›) fun s₃ D S₃ vs₃ c₃ hD q₃ F₃ O₃ p₃ w₃ a₃ => ?_
  exact h s₃ D S₃ vs₃ c₃ hD ⟨q₃.1,q₃.2⟩ F₃ O₃ (fun k => by rw [p₃.mem_iff];exact hmem k) w₃ a₃
 rw [sizeLine_eq];lia
end
noncomputable def runN (N : Nfa) (w : List Nat) : Qs:=w.foldl (fun q c => nq N q (ch c)) (q0 N)
theorem runN_snoc (N : Nfa) (w : List Nat) (c : Nat) : runN N (w ++ [c]) = nq N (runN N w) (ch c):=by simp [runN]
theorem nq_nil (N : Nfa) (l : Str) : nq N [] l = []:=qOf_eq .nil fun k => ⟨fun h => (nomatch h),fun h => by
 have : ∀ k,Clo N.tr (fun d => ∃ k ∈ ([] : Qs),N.tr k l d ∨ N.tr k anyS d) k → False:=fun k h => by
  induction h with
  | base h => refine xe12 h fun k hk _ => ?_;try clear h;cases hk
  | step _ _ ih => exact ih
 exact (this k h).elim⟩
theorem foldl_nil (N : Nfa) (w : List Nat) : w.foldl (fun q c => nq N q (ch c)) [] = []:=by
 induction w with
 | nil => rfl
 | cons c w ih => rw [List.foldl_cons,nq_nil];exact ih
theorem runN_dead {N : Nfa} {w : List Nat} {i : Nat} (h : runN N (w.take i) = []) : runN N w = []:=by
 have : runN N w = (w.drop i).foldl (fun q c => nq N q (ch c)) (runN N (w.take i)):=by
  unfold runN
  rw [← List.foldl_append,List.take_append_drop]
 rw [this,h,foldl_nil]
theorem take_snoc {w : List Nat} {i c : Nat} (h : w[i]? = some c) : w.take (i + 1) = w.take i ++ [c]:=by
 rw [List.take_add_one,h];rfl
theorem qtruthy {w : World} {A : Around} {E : Value → Shared → Prop} {s : Shared} {ι : Sd} {h₀ : Heap} {L a : Addr} {σ : Sg} {q : Qs} (O : Own ι h₀ L s.heap σ) (h : (k2 pg w).is σ q (.ref a)) (hq : q.length ≤ 1000) {Q : Bool → Shared → Prop} (k : ∀ s',Quiet s s' → Q (!q.isEmpty) s') : wpAny (model pg w) A (truthy (.ref a)) Q E s:=by
 refine xe33 h fun _ items n e h1 h2 => ?_
 try clear h
 cases e
 have hl:=h2.length
 refine truthy_tuple (items:=items) ⟨_,O.get h1,rfl,n,rfl⟩ (by simp at hl;lia) ?_
 have : (!items.isEmpty) = !q.isEmpty:=by
  cases q with
  | nil => cases h2' : items.toList with
   | nil => simp at h2';simp [h2']
   | cons _ _ => rw [h2'] at hl;simp at hl
  | cons _ _ => cases h2' : items.toList with
   | nil => rw [h2'] at hl;simp at hl
   | cons _ _ =>
    cases items with | mk l => simp at h2';subst h2';rfl
 first
  | (rw [this];exact k _ ⟨⟨rfl,rfl⟩,rfl⟩)
  | (rw [← this];exact k _ ⟨⟨rfl,rfl⟩,rfl⟩)
  | (have:=k _ ⟨⟨rfl,rfl⟩,rfl⟩;simpa using this)
structure AcJ (w : World) (σ0 : Sg) (N : Nfa) (x : Addr) (q : Qs) (m : Str → Option Value) (σ : Sg) : Prop where
 m1 : m (Str.ofString "self") = some (.ref x)
 e : Ext σ0 σ
 st : ∃ a,m (Str.ofString "state") = some (.ref a) ∧ (k2 pg w).is σ q (.ref a)
 srt : Srt q
 sub : ∀ k ∈ q,k ∈ N.U
theorem acceptN (w : World) (σ : Sg) (x : Addr) (N : Nfa) (c0 : NfaCells) (hN : NfaIs w σ x N c0) (hone : ∀ k d d',N.tr k eps d → N.tr k eps d' → d = d') (u : List Nat) (tk : Tok) :
  Spec w 135 5 [.ref x,.str (sw u) tk] [] σ (fun v σ' => Ext σ σ' ∧ ∃ b,v = .bool b ∧ (b = true ↔ ∃ k ∈ runN N u,N.fin k)):=by
 refine' spec_of (binds:=[(Str.ofString "self",.ref x),(Str.ofString "string",.str (sw u) tk),(Str.ofString "debug",.bool false)]) ?ho ?hcd ?hb ?hl ?c1 ?c2 ?c3 ?c4 ?_;((case ho => k_is);(case hcd => k_is);(case hb => (first | (intro _ _;exact BindsTo.of_eq rfl) | (intro _ Xh;exact binds_K Xh rfl (by k_is) rfl rfl rfl)));(case hl => exact locs rfl);(case c1 => exact rfl);(case c2 => exact rfl);(case c3 => exact rfl);(case c4 => decide))
 intro A g L ι s C F O env R;have X:=C.X;refine xe31 C.T fun mean mg mb T => ?_;have S0:=Same.refl s
 have okq : ∀ P : St → Prop,(∀ k,k ∈ qOf (Clo N.tr P) ↔ Clo N.tr P k) → (∀ k,P k → k ∈ N.U) → ∀ k ∈ qOf (Clo N.tr P),k ∈ N.U:=fun P h2 h3 k hk => clo_sub hN h3 ((h2 k).mp hk)
 have I:=hN.inst
 refine xH ?_;intro _ _
 iterate 2 walk1
 first | refine xN ?_ | walk1
 refine imeth ‹_› ‹_› ‹_› ‹_› (by k_is) (by k_is) (by k_is) (by first | assumption | rfl) ?_
 walk1
 refine (startN w _ x N c0 hN hone).call (C.le (by decide)) ‹_› ‹_› fun v σ₁ s₁ q₁ F₁ O₁ hP => ?_
 have qq₁:=Same.trans ‹_› q₁
 refine xe02 hP fun e₁ hq₁ => ?_
 try clear hP
 refine xe14 (isq_eq hq₁) fun a₁ zq1 ha₁ st₁ sm₁ => ?_
 subst zq1
 refine xS ?_;intros
 rename_i s2 F2 O2 q2
 refine cut (ι:=ι) (g:=g) (L:=L) (fun m σ' => ∃ q,AcJ w σ N x q m σ' ∧ ((∃ k ∈ q,N.fin k) ↔ ∃ k ∈ runN N u,N.fin k)) ?_ fun m₃ σ₃ s₃ q₃ F₃ O₃ J₃ => ?_
 ·have SB:=Same.refl s2
  refine wpAny_For ?_
  first | refine xN ?_ | walk1
  refine forStr (fun i m σ' => AcJ w σ N x (runN N (u.take i)) m σ') C.hh F2 O2 ⟨rfl,e₁,⟨a₁,rfl,ha₁⟩,st₁,okq _ sm₁ fun k hk => hk ▸ hN.iniU⟩ (fun i c t m₄ σ₄ s₄ ι' back q₄ hc J F₄ O₄ => ?_) fun m₄ σ₄ s₄ q₄ F₄ O₄ J => ?_
  ·have qL:=q₄
   clear q₄
   refine holdP ?_;intro G;rcases J with ⟨m1,e4,⟨a4,m2,h4⟩,srt4,sub4⟩;unfold G;clear G
   have S4:=Same.refl s₄
   have hN4:=hN.move e4
   have I:=hN4.inst
   refine xH ?_;intro _ _
   iterate 2 walk1
   first | refine xN ?_ | walk1
   refine imeth ‹_› ‹_› ‹_› ‹_› (by k_is) (by k_is) (by k_is) (by first | assumption | rfl) ?_
   iterate 2 walk1
   first | refine xN ?_ | walk1
   walk1
   first | refine xN ?_ | walk1
   iterate 2 walk1
   refine (nextN w _ x N c0 hN4 hone h4 (ch c) t).call (C.le (by decide)) ‹_› ‹_› fun v σ₅ s₅ q₅ F₅ O₅ hP => ?_
   have qq₅:=Same.trans ‹_› q₅
   refine xe02 hP fun e₅ hq₅ => ?_
   try clear hP
   refine xe14 (isq_eq hq₅) fun a₅ zq2 ha₅ st₅ sm₅ => ?_
   subst zq2
   have ha₅ : (k2 pg w).is σ₅ (nq N (runN N (u.take i)) (ch c)) (.ref a₅):=ha₅
   have sub5 : ∀ k ∈ nq N (runN N (u.take i)) (ch c),k ∈ N.U:=okq _ sm₅ fun k hk => by
    obtain ⟨k',_,h | h⟩:=hk
    ·exact hN.trU _ _ _ h
    exact hN.trU _ _ _ h
   have er : runN N (u.take (i + 1)) = nq N (runN N (u.take i)) (ch c):=by rw [take_snoc hc,runN_snoc]
   refine xS ?_;intros
   refine xH ?_;intro _ _
   iterate 3 walk1
   first | refine xN ?_ | walk1
   have hql5 : (nq N (runN N (u.take i)) (ch c)).length ≤ 60:=Nat.le_trans (nodup_sub (st₅.imp fun {a b} h e => by subst e;rw [lex_irr] at h;cases h) sub5) hN.bU
   refine qtruthy ‹_› ha₅ (by lia) (quietly ‹_› ‹_› ?_)
   (intro _ hq _ _;have _:=Same.trans ‹_› hq;clear hq)
   rename_i sD FD OD qD
   cases hnil : nq N (runN N (u.take i)) (ch c) with
   | nil =>
    simp only [List.isEmpty_nil,Bool.not_true,Bool.not_false]
    walk1
    refine xH ?_;intro _ _
    walk1
    show Mid _ _ _ _ _ _ _
    refine Mid.mk' (Same.trans SB (Same.trans qL qD)) FD (back _ _ OD) ⟨[],⟨m1,e4.trans e₅,⟨a₅,rfl,hnil ▸ ha₅⟩,.nil,fun k hk => (nomatch hk)⟩,?_⟩
    rw [runN_dead (i:=i + 1) (er.trans hnil)]
   | cons k0 kr =>
    simp only [List.isEmpty_cons,Bool.not_true,Bool.not_false]
    iterate 3 walk1
    show Turn _ _ _ _ _ _ _
    refine Turn.mk' qD FD OD ?_
    rw [er]
    exact ⟨m1,e4.trans e₅,⟨a₅,rfl,ha₅⟩,st₅,sub5⟩
  walk1
  exact Mid.mk' (Same.trans ‹_› q₄) F₄ O₄ ⟨_,J,by rw [List.take_length]⟩
 refine xe12 J₃ fun q J hJ => ?_
 try clear J₃
 refine holdP ?_;intro G;rcases J with ⟨m1,e3,⟨a3,m2,h3⟩,srt3,sub3⟩;unfold G;clear G
 have qq₃:=Same.trans q2 q₃
 have I:=(hN.move e3).inst
 refine xH ?_;intro _ _
 iterate 2 walk1
 first | refine xN ?_ | walk1
 refine imeth ‹_› ‹_› ‹_› ‹_› (by k_is) (by k_is) (by k_is) (by first | assumption | rfl) ?_
 iterate 2 walk1
 first | refine xN ?_ | walk1
 iterate 2 walk1
 have hql : q.length ≤ 60:=Nat.le_trans (nodup_sub (srt3.imp fun {a b} h e => by subst e;rw [lex_irr] at h;cases h) sub3) hN.bU
 refine (isFinalN w _ x N c0 (hN.move e3) h3 hql).call (C.le (by decide)) ‹_› ‹_› fun v σ₄ s₄ q₄ F₄ O₄ hP => ?_
 have qq₄:=Same.trans ‹_› q₄
 refine holdP ?_;intro G;rcases hP with ⟨e₄,b,rfl,hb⟩;unfold G;clear G
 refine Ends.mk' qq₄ F₄ O₄ ⟨e3.trans e₄,b,rfl,hb.trans hJ⟩
noncomputable def Dfa.nx (M : Dfa) (q : Qs) (l : Str) : Option Qs:=(M.tr q l).or (M.df q)
noncomputable def runD (M : Dfa) (w : List Nat) : Option Qs:=w.foldl (fun o c => o.bind fun q => M.nx q (ch c)) (some M.ini)
theorem runD_snoc (M : Dfa) (w : List Nat) (c : Nat) : runD M (w ++ [c]) = (runD M w).bind fun q => M.nx q (ch c):=by simp [runD]
theorem runD_dead {M : Dfa} {w : List Nat} {i : Nat} (h : runD M (w.take i) = none) : runD M w = none:=by
 have : runD M w = (w.drop i).foldl (fun o c => o.bind fun q => M.nx q (ch c)) (runD M (w.take i)):=by
  unfold runD
  rw [← List.foldl_append,List.take_append_drop]
 rw [this,h]
 generalize w.drop i = l
 induction l with
 | nil => rfl
 | cons c l ih => exact ih
structure AdJ (w : World) (σ0 : Sg) (x : Addr) (o : Option Qs) (m : Str → Option Value) (σ : Sg) : Prop where
 m1 : m (Str.ofString "self") = some (.ref x)
 e : Ext σ0 σ
 st : ∃ v,m (Str.ofString "state") = some v ∧ OptV w σ o v
theorem acceptD (w : World) (σ : Sg) (x : Addr) (M : Dfa) (c0 : DfaCells) (hM : DfaIs w σ x M c0) (hnx : ∀ q l q',M.nx q l = some q' → q' ≠ [] ∧ q'.length ≤ 60) (u : List Nat) (tk : Tok) :
  Spec w 135 5 [.ref x,.str (sw u) tk] [] σ (fun v σ' => Ext σ σ' ∧ ∃ b,v = .bool b ∧ (b = true ↔ ∃ q,runD M u = some q ∧ M.fin q)):=by
 refine' spec_of (binds:=[(Str.ofString "self",.ref x),(Str.ofString "string",.str (sw u) tk),(Str.ofString "debug",.bool false)]) ?ho ?hcd ?hb ?hl ?c1 ?c2 ?c3 ?c4 ?_;((case ho => k_is);(case hcd => k_is);(case hb => (first | (intro _ _;exact BindsTo.of_eq rfl) | (intro _ Xh;exact binds_K Xh rfl (by k_is) rfl rfl rfl)));(case hl => exact locs rfl);(case c1 => exact rfl);(case c2 => exact rfl);(case c3 => exact rfl);(case c4 => decide))
 intro A g L ι s C F O env R;have X:=C.X;refine xe31 C.T fun mean mg mb T => ?_;have S0:=Same.refl s
 have I:=hM.inst
 refine xH ?_;intro _ _
 iterate 2 walk1
 first | refine xN ?_ | walk1
 refine imeth ‹_› ‹_› ‹_› ‹_› (by k_is) (by k_is) (by k_is) (by first | assumption | rfl) ?_
 walk1
 refine (startD w _ x M c0 hM).call (C.le (by decide)) ‹_› ‹_› fun v σ₁ s₁ q₁ F₁ O₁ hP => ?_
 have qq₁:=Same.trans ‹_› q₁
 refine xe02 hP fun zq1 zq2 => ?_
 try clear hP
 subst zq1
 subst zq2
 refine xS ?_;intros
 rename_i s2 F2 O2 q2
 refine cut (ι:=ι) (g:=g) (L:=L) (fun m σ' => ∃ o,AdJ w σ₁ x o m σ' ∧ ((∃ q,o = some q ∧ M.fin q) ↔ ∃ q,runD M u = some q ∧ M.fin q)) ?_ fun m₃ σ₃ s₃ q₃ F₃ O₃ J₃ => ?_
 ·have SB:=Same.refl s2
  refine wpAny_For ?_
  first | refine xN ?_ | walk1
  refine forStr (fun i m σ' => ∃ q,runD M (u.take i) = some q ∧ AdJ w σ₁ x (some q) m σ') C.hh F2 O2 ⟨M.ini,rfl,rfl,Ext.refl _,_,rfl,.inr ⟨_,rfl,hM.ini⟩⟩ (fun i c t m₄ σ₄ s₄ ι' back q₄ hc J F₄ O₄ => ?_) fun m₄ σ₄ s₄ q₄ F₄ O₄ J => ?_
  ·have qL:=q₄
   clear q₄
   refine holdP ?_;intro G;rcases J with ⟨q,hrq,m1,e4,v4,m2,h4⟩;unfold G;clear G
   rcases h4 with ⟨h4,_⟩ | ⟨q',h4,h4'⟩
   ·cases h4
   cases h4
   refine xe11 (k2r pg w h4') fun a4 zq3 => ?_
   subst zq3
   have S4:=Same.refl s₄
   have hM4:=hM.move e4
   have I:=hM4.inst
   refine xH ?_;intro _ _
   iterate 2 walk1
   first | refine xN ?_ | walk1
   refine imeth ‹_› ‹_› ‹_› ‹_› (by k_is) (by k_is) (by k_is) (by first | assumption | rfl) ?_
   iterate 2 walk1
   first | refine xN ?_ | walk1
   walk1
   first | refine xN ?_ | walk1
   iterate 2 walk1
   refine (nextD w _ x a4 M c0 hM4 (l:=ch c) (tk:=t) h4').call (C.le (by decide)) ‹_› ‹_› fun v σ₅ s₅ q₅ F₅ O₅ hP => ?_
   have qq₅:=Same.trans ‹_› q₅
   refine xe02 hP fun e₅ hv => ?_
   try clear hP
   have er : runD M (u.take (i + 1)) = M.nx q (ch c):=by rw [take_snoc hc,runD_snoc,hrq];rfl
   have er' : (M.tr q (ch c)).or (M.df q) = M.nx q (ch c):=rfl
   rw [er'] at hv
   rcases hv with ⟨hnone,rfl⟩ | ⟨q5,hsome,ha5⟩
   ·refine xS ?_;intros
    rename_i sD FD OD qD
    refine xH ?_;intro _ _
    iterate 3 walk1
    first | refine xN ?_ | walk1
    iterate 2 walk1
    refine xH ?_;intro _ _
    walk1
    show Mid _ _ _ _ _ _ _
    refine Mid.mk' (Same.trans SB (Same.trans qL qD)) FD (back _ _ OD) ⟨none,⟨m1,e4.trans e₅,_,rfl,.inl ⟨rfl,rfl⟩⟩,?_⟩
    rw [runD_dead (i:=i + 1) (er.trans hnone)]
   refine xe11 (k2r pg w ha5) fun a₅ zq4 => ?_
   subst zq4
   refine xe02 (hnx _ _ _ hsome) fun hne hql => ?_
   refine xS ?_;intros
   refine xH ?_;intro _ _
   iterate 3 walk1
   first | refine xN ?_ | walk1
   refine qtruthy ‹_› ha5 (by lia) (quietly ‹_› ‹_› ?_)
   (intro _ hq _ _;have _:=Same.trans ‹_› hq;clear hq)
   rename_i sD FD OD qD
   have hemp : q5.isEmpty = false:=by cases q5 with | nil => exact absurd rfl hne | cons _ _ => rfl
   simp only [hemp,Bool.not_true,Bool.not_false]
   iterate 3 walk1
   show Turn _ _ _ _ _ _ _
   exact Turn.mk' qD FD OD ⟨q5,er.trans hsome,m1,e4.trans e₅,_,rfl,.inr ⟨_,rfl,ha5⟩⟩
  walk1
  refine Mid.mk' (Same.trans ‹_› q₄) F₄ O₄ ?_
  refine xe12 J fun q hrq _ => ?_
  clear J
  rename_i J
  rw [List.take_length] at hrq
  exact ⟨_,J,by rw [hrq]⟩
 refine xe12 J₃ fun o J hJ => ?_
 try clear J₃
 refine holdP ?_;intro G;rcases J with ⟨m1,e3,v3,m2,h3⟩;unfold G;clear G
 have qq₃:=Same.trans q2 q₃
 have I:=(hM.move e3).inst
 refine xH ?_;intro _ _
 iterate 2 walk1
 first | refine xN ?_ | walk1
 refine imeth ‹_› ‹_› ‹_› ‹_› (by k_is) (by k_is) (by k_is) (by first | assumption | rfl) ?_
 iterate 2 walk1
 first | refine xN ?_ | walk1
 iterate 2 walk1
 refine (isFinalD w _ x M c0 (hM.move e3) h3).call (C.le (by decide)) ‹_› ‹_› fun v σ₄ s₄ q₄ F₄ O₄ hP => ?_
 have qq₄:=Same.trans ‹_› q₄
 refine holdP ?_;intro G;rcases hP with ⟨rfl,b,rfl,hb⟩;unfold G;clear G
 refine Ends.mk' qq₄ F₄ O₄ ⟨e3,b,rfl,hb.trans hJ⟩
inductive BiI (w : World) (ι : Sd) (g : Heap) (L : Addr) (s : Shared) (σ : Sg) (la : Addr) (l : Str) (tl : Tok) (Ss : List Str) (n : Nat) (s' : Shared) : Prop
 | ofx (m') (p) (t) (h1 : Same s s') (h2 : Fr g L s'.heap m') (h3 : Own ι g L s'.heap σ) (h4 : m' (Str.ofString "labels") = some (.ref la)) (h5 : m' (Str.ofString "label") = some (.str l tl)) (h6 : m' (Str.ofString "pos") = some (.int (p : Nat) t)) (h7 : p ≤ Ss.length) (h8 : (∀ j s,j < p → Ss[j]? = some s → sLt s l = true)) (h9 : n = Ss.length - p)
theorem bisect (w : World) (σ : Sg) (la : Addr) (vs : List Value) (cn : Nat) (Ss : List Str) (hla : σ la = some (listOf vs.toArray cn)) (hS : All2 isS Ss vs) (hl : vs.length ≤ 60) (l : Str) (tl : Tok) :
  Spec w 28 3 [.ref la,.str l tl] [] σ (fun v σ' => σ' = σ ∧ ∃ p t,v = .int (p : Nat) t ∧ p ≤ Ss.length ∧ (∀ j s,j < p → Ss[j]? = some s → sLt s l = true) ∧ (∀ s,Ss[p]? = some s → sLt s l = false)):=by
 refine' spec_of (binds:=[(Str.ofString "labels",.ref la),(Str.ofString "label",.str l tl)]) ?ho ?hcd ?hb ?hl ?c1 ?c2 ?c3 ?c4 ?_;((case ho => k_is);(case hcd => k_is);(case hb => (first | (intro _ _;exact BindsTo.of_eq rfl) | (intro _ Xh;exact binds_K Xh rfl (by k_is) rfl rfl rfl)));(case hl => exact locs rfl);(case c1 => exact rfl);(case c2 => exact rfl);(case c3 => exact rfl);(case c4 => decide))
 intro A g L ι s C F O env R;have X:=C.X;refine xe31 C.T fun mean mg mb T => ?_;have S0:=Same.refl s
 have hlen:=hS.length
 refine xH ?_;intro _ _
 iterate 2 walk1
 refine xS ?_;intros
 refine xH ?_;intro _ _
 refine whileL (BiI w ι g L s σ la l tl Ss) Ss.length ⟨_,0,_,by assumption,by assumption,by assumption,rfl,rfl,rfl,Nat.zero_le _,fun j s h => absurd h (Nat.not_lt_zero _),rfl⟩ ?_
 intro n s₁ zq13
 refine holdP ?_;intro G;rcases zq13 with ⟨m₁,p,t,q₁,F₁,O₁,m1,m2,m3,hp,hlt,hn⟩;unfold G;clear G
 iterate 2 walk1
 first | refine xN ?_ | walk1
 walk1
 first | refine xN ?_ | walk1
 iterate 2 walk1
 first | refine xN ?_ | walk1
 walk1
 refine llen O₁ hla (by lia) (fun s₂ t₂ q₂ => quietly F₁ O₁ (fun s₂ q₂ F₂ O₂ => ?_) s₂ q₂)
 have qq₂:=Same.trans q₁ q₂
 iterate 2 walk1
 by_cases hpl : p < vs.length
 ·rw [show decide ((p : Int) < (vs.length : Int)) = true from decide_eq_true (by lia)]
  simp only [if_true]
  iterate 3 walk1
  first | refine xN ?_ | walk1
  first | refine xN ?_ | walk1
  refine xe12 (?_ : ∃ sp,Ss[p]? = some sp ∧ ∃ t,vs[p]? = some (.str sp t)) fun sp hsp zq6 => ?_
  ·refine xe12 (hS.get2 (i:=p) (List.getElem?_eq_getElem hpl)) fun sp h1 zq12 => ?_
   refine xe11 zq12 fun t h2 => ?_
   try clear zq12
   exact ⟨sp,h1,t,by rw [List.getElem?_eq_getElem hpl,h2]⟩
  refine xe11 zq6 fun tsp hv => ?_
  try clear zq6
  refine lsub ‹_› ‹_› hla hv rfl (by lia) fun s₃ q₃ F₃ O₃ => ?_
  have qq₃:=Same.trans ‹_› q₃
  have qD:=qq₃
  have FD:=F₃
  have OD:=O₃
  first | refine xN ?_ | walk1
  iterate 2 walk1
  by_cases hsl : sp.cps.toList < l.cps.toList
  ·rw [decide_eq_true hsl]
   have hsl : sLt sp l = true:=decide_eq_true hsl
   simp only [if_true]
   iterate 2 walk1
   refine xH ?_;intro _ _
   walk1
   refine' wpAny_loadName_local ?k1 ?k2 (Fr.ns ?F) ?e ?_;(case k1 => rfl);(case k2 => rfl);(case F => assumption);(case e => first | assumption | rfl)
   iterate 2 walk1
   refine xS ?_;intros
   rename_i sE FE OE qE
   walk1
   show Less _ _ _
   refine ⟨Ss.length - (p + 1),by lia,_,p + 1,_,qE,FE,OE,m1,m2,rfl,by lia,fun j s hj h => ?_,rfl⟩
   by_cases hjp : j = p
   ·subst hjp;rw [hsp] at h;cases h;exact hsl
   exact hlt j s (by lia) h
  rw [decide_eq_false hsl]
  have hsl : sLt sp l = false:=decide_eq_false hsl
  simp only [Bool.false_eq_true,if_false]
  walk1
  refine xH ?_;intro _ _
  walk1
  first | refine xN ?_ | walk1
  exact Ends.mk' qD FD OD ⟨rfl,p,t,rfl,hp,hlt,fun s h => by rw [hsp] at h;cases h;exact hsl⟩
 rw [show decide ((p : Int) < (vs.length : Int)) = false from decide_eq_false (by lia)]
 simp only [Bool.false_eq_true,if_false]
 have hpl : p = Ss.length:=by lia
 walk1
 refine xH ?_;intro _ _
 walk1
 first | refine xN ?_ | walk1
 exact Ends.mk' qq₂ F₂ O₂ ⟨rfl,p,t,rfl,hp,hlt,fun s h => by rw [hpl,List.getElem?_eq_none (Nat.le_refl _)] at h;cases h⟩
theorem sLt_ch (a b : Nat) : sLt (ch a) (ch b) = decide (a < b):=by
 unfold sLt
 simp only [ch]
 congr 1
 simp [List.cons_lt_cons_iff]
noncomputable abbrev CxOf {w : World} {A : Around} {g : Heap} {L : Addr} {d : Nat} (C : CxT w A g L d) (g' : Heap) : Prop:=CxT w A g' L d
theorem edgeD (w : World) (σ : Sg) (x a : Addr) (M : Dfa) (c : DfaCells) (hM : DfaIs w σ x M c) {q : Qs} (ha : (k2 pg w).is σ q (.ref a)) (hqU : q ∈ M.UQ) (hch : ∀ l,M.tr q l ≠ none → ∃ c,l = ch c) (lv : Value) (low : Nat) (hlv : (lv = .none ∧ low = 0) ∨ ∃ c t,lv = .str (ch c) t ∧ low = c + 1 ∧ c < 1000000) :
  SpecT w 309 4 [.ref x,.ref a,lv] [(Str.ofString "asbytes",.bool false)] σ (fun v σ' => (∃ c',DfaIs w σ' x M c' ∧ Kp c σ c' σ' ∧ Ou c σ c') ∧ ((v = .none ∧ ∀ n,low ≤ n → M.nx q (ch n) = none) ∨ ∃ n t,v = .str (ch n) t ∧ low ≤ n ∧ M.nx q (ch n) ≠ none ∧ ∀ j,low ≤ j → j < n → M.nx q (ch j) = none)):=by
 refine' spec_ofT (binds:=[(Str.ofString "self",.ref x),(Str.ofString "s",.ref a),(Str.ofString "label",lv),(Str.ofString "asbytes",.bool false)]) ?ho ?hcd ?hb ?hl ?c1 ?c2 ?c3 ?c4 ?_;((case ho => k_is);(case hcd => k_is);(case hb => (first | (intro _ _;exact BindsTo.of_eq rfl) | (intro _ Xh;exact binds_K Xh rfl (by k_is) rfl rfl rfl)));(case hl => exact locs rfl);(case c1 => exact rfl);(case c2 => exact rfl);(case c3 => exact rfl);(case c4 => decide))
 intro A₀ g L ι s outer base hA B XB TB D C F O env A R;have X:=C.toCx.X;refine xe31 TB fun mean mg mb TBt => ?_;try clear TB;have T:=TBt.keeps B.stays;have S0:=Same.refl s
 refine cut (ι:=ι) (g:=g) (L:=L) (fun m σ' => σ' = σ ∧ m (Str.ofString "self") = some (.ref x) ∧ m (Str.ofString "s") = some (.ref a) ∧ ∃ t,m (Str.ofString "label") = some (.str (ch low) t)) ?_ fun m₁ σ₁ s₁ q₁ F₁ O₁ J₁ => ?_
 ·rcases hlv with ⟨rfl,rfl⟩ | ⟨c,t,rfl,rfl,hc⟩
  ·iterate 2 walk1
   first | refine xN ?_ | walk1
   iterate 4 walk1
   refine xH ?_;intro _ _
   iterate 3 walk1
   first | refine xN ?_ | walk1
   iterate 3 walk1
   refine xS ?_;intros
   walk1
   refine Mid.mk' ‹_› ‹_› ‹_› ⟨rfl,rfl,rfl,_,rfl⟩
  iterate 2 walk1
  first | refine xN ?_ | walk1
  iterate 4 walk1
  refine xH ?_;intro _ _
  iterate 3 walk1
  first | refine xN ?_ | walk1
  iterate 3 walk1
  first | refine xN ?_ | walk1
  iterate 4 walk1
  first | refine xN ?_ | walk1
  iterate 2 walk1
  first | refine xN ?_ | walk1
  iterate 6 walk1
  refine xS ?_;intros
  walk1
  refine Mid.mk' ‹_› ‹_› ‹_› ⟨rfl,rfl,rfl,_,rfl⟩
 refine xe04 J₁ fun zq104 m1 m2 zq105 => ?_
 try clear J₁
 subst zq104
 refine xe11 zq105 fun tl m3 => ?_
 try clear zq105
 have I:=hM.inst
 refine xH ?_;intro _ _
 iterate 3 walk1
 first | refine xN ?_ | walk1
 have qq₁:=Same.trans S0 q₁
 (refine iget ‹_› ‹_› ‹_› ‹_› (by k_is) (by k_is) (by k_is) (by k_is) (by first | assumption | rfl) (by rfl) (quietly ‹_› ‹_› ?_);intro _ hq _ _;have _:=Same.trans ‹_› hq;clear hq)
 refine dmeth ‹_› hM.tr PySem.F.slot_dict_get PySem.F.type_dict_get ?_
 iterate 2 walk1
 first | refine xN ?_ | walk1
 walk1
 refine znewDict ‹_› ‹_› (modules_low T.nolimit) fun s₂ d hdn hdl q₂ F₂ O₂ => ?_
 have qq₂:=Same.trans ‹_› q₂
 have e₂:=Ext.upd (o:=emptyD) hdn
 have hM₂:=hM.move e₂
 have ha₂:=(k2 pg w).mono e₂.tx ha
 have I₂:=hM₂.inst
 walk1
 refine dget2 (k2d _ _) (k2r _ _) (C.toCx.r2 (by decide)) ‹_› hM₂.tr ha₂ (quietly ‹_› ‹_› ?_)
 (intro _ hq _ _;have _:=Same.trans ‹_› hq;clear hq)
 refine xe23 (?_ : ∃ d' f,((c.inner q).map Value.ref).getD (.ref d) = .ref d' ∧ DS pg w (upd σ₁ d emptyD) d' f ∧ ∀ l,f l = (c.vt q l).map Value.ref) fun d' f hd' hD' hf => ?_
 ·cases hin : c.inner q with
  | none =>
   refine ⟨d,_,rfl,ds0 hdl,fun l => ?_⟩
   cases hv : c.vt q l with
   | none => rfl
   | some a => refine xe11 (hM.lin _ _ _ hv) fun _ z => ?_;rw [hin] at z;cases z
  | some d'' => exact ⟨d'',_,rfl,hM₂.inn _ _ hin,fun l => rfl⟩
 rw [hd']
 have hfn : ∀ l,f l ≠ none ↔ M.tr q l ≠ none:=fun l => by
  rw [hf]
  rcases hM.vt q l with ⟨h1,h2⟩ | ⟨b,q',h1,h2,h3⟩
  ·rw [h1,h2];simp
  rw [h1,h2];simp
 refine xS ?_;intros
 refine xH ?_;intro _ _
 iterate 3 walk1
 first | refine xN ?_ | walk1
 first | refine xN ?_ | walk1
 refine sdin ‹_› hD' (quietly ‹_› ‹_› ?_)
 (intro _ hq _ _;have _:=Same.trans ‹_› hq;clear hq)
 have fin1 : ∀ (v : Value) (σ' : Sg),(∃ c',DfaIs w σ' x M c' ∧ Kp c σ₁ c' σ' ∧ Ou c σ₁ c') → (∃ t,v = .str (ch low) t) → M.nx q (ch low) ≠ none → (∃ c',DfaIs w σ' x M c' ∧ Kp c σ₁ c' σ' ∧ Ou c σ₁ c') ∧ ((v = .none ∧ ∀ n,low ≤ n → M.nx q (ch n) = none) ∨ ∃ n t,v = .str (ch n) t ∧ low ≤ n ∧ M.nx q (ch n) ≠ none ∧ ∀ j,low ≤ j → j < n → M.nx q (ch j) = none):=fun v σ' h1 zm1 h3 => xe11 zm1 fun t h2 => ⟨h1,.inr ⟨low,t,h2,Nat.le_refl _,h3,fun j h4 h5 => absurd h4 (by lia)⟩⟩
 cases hlt : f (ch low) with
 | some b =>
  simp only [Option.isSome_some]
  iterate 3 walk1
  refine xH ?_;intro _ _
  walk1
  first | refine xN ?_ | walk1
  show EndsT _ _ _ _ _ _ _ _
  refine EndsT.mk' KtsTurn.refl ‹_› ‹_› ‹_› (fin1 _ _ ⟨c,hM₂,Kp.ext e₂,fun _ _ h => .inl h⟩ ⟨tl,rfl⟩ ?_)
  have h1:=(hfn (ch low)).mp (by rw [hlt];simp)
  unfold Dfa.nx
  cases h2 : M.tr q (ch low) with
  | none => exact absurd h2 h1
  | some _ => simp
 | none =>
  simp only [Option.isSome_none]
  have htr0 : M.tr q (ch low) = none:=by
   cases h2 : M.tr q (ch low) with
   | none => rfl
   | some _ => exact absurd hlt ((hfn (ch low)).mpr (by rw [h2];simp))
  iterate 4 walk1
  first | refine xN ?_ | walk1
  walk1
  first | refine xN ?_ | walk1
  (refine iget ‹_› ‹_› ‹_› ‹_› (by k_is) (by k_is) (by k_is) (by k_is) (by first | assumption | rfl) (by rfl) (quietly ‹_› ‹_› ?_);intro _ hq _ _;have _:=Same.trans ‹_› hq;clear hq)
  refine din (k2d _ _) (k2r _ _) (C.toCx.r2 (by decide)) ‹_› hM₂.df ha₂ (quietly ‹_› ‹_› ?_)
  (intro _ hq _ _;have _:=Same.trans ‹_› hq;clear hq)
  rename_i sB FB OB qB
  cases hvd : c.vd q with
  | some b =>
   simp only [Option.map_some,Option.isSome_some]
   iterate 3 walk1
   refine xH ?_;intro _ _
   walk1
   first | refine xN ?_ | walk1
   show EndsT _ _ _ _ _ _ _ _
   refine EndsT.mk' KtsTurn.refl ‹_› ‹_› ‹_› (fin1 _ _ ⟨c,hM₂,Kp.ext e₂,fun _ _ h => .inl h⟩ ⟨tl,rfl⟩ ?_)
   unfold Dfa.nx
   rcases hM.vd q with ⟨h1,h2⟩ | ⟨b,q',h1,h2,h3⟩
   ·rw [hvd] at h1;cases h1
   rw [htr0,h2];simp
  | none =>
   simp only [Option.map_none,Option.isSome_none]
   have hdf0 : M.df q = none:=by
    rcases hM.vd q with ⟨h1,h2⟩ | ⟨b,q',h1,h2,h3⟩
    ·exact h2
    rw [hvd] at h1;cases h1
   iterate 5 walk1
   refine cutT (ι:=ι) (g:=g) (L:=L) (fun g' m' σ' => ∃ la Ss vs cn c',CxOf C g' ∧ m' (Str.ofString "labels") = some (.ref la) ∧ m' (Str.ofString "label") = some (.str (ch low) tl) ∧ σ' la = some (listOf vs.toArray cn) ∧ All2 isS Ss vs ∧ Ss.Pairwise (fun a b => sLt a b = true) ∧ (∀ l,l ∈ Ss ↔ M.tr q l ≠ none) ∧ DfaIs w σ' x M c' ∧ Kp c σ₁ c' σ' ∧ Ou c σ₁ c') ?_ fun g₃ m₃ σ₃ s₃ T₃ q₃ F₃ O₃ J₃ => ?_
   ·have SB:=Same.refl sB
    walk1
    refine xH ?_;intro _ _
    iterate 3 walk1
    first | refine xN ?_ | walk1
    (refine iget ‹_› ‹_› ‹_› ‹_› (by k_is) (by k_is) (by k_is) (by k_is) (by first | assumption | rfl) (by rfl) (quietly ‹_› ‹_› ?_);intro _ hq _ _;have _:=Same.trans ‹_› hq;clear hq)
    first | refine xN ?_ | walk1
    walk1
    cases hout : c.out q with
    | some la =>
     refine dsub (k2d _ _) (k2r _ _) (C.toCx.r2 (by decide)) ‹_› ‹_› hM₂.out ha₂ (by rw [hout];rfl) ?_
     (intro _ hq _ _;have _:=Same.trans ‹_› hq;clear hq)
     refine xS ?_;intros
     rename_i sE FE OE qE
     iterate 2 walk1
     show MidT _ _ _ _ _ _ _ _
     refine xe34 (hM₂.outl q la hout) fun Ss vs cn h1 h2 h3 h4 => ?_
     exact ⟨rfl,g,_,_,KtsTurn.refl,qE,FE,OE,la,Ss,vs,cn,c,C,rfl,m3,h1,h2,h3,h4,hM₂,Kp.ext e₂,fun _ _ h => .inl h⟩
    | none =>
     rename_i sG FG OG qG
     refine subscriptTail_builtinR (x:=.none) (hM₂.out.typeIs OG) slot_dict_getitem.lookup (dmiss (k2d _ _) (k2r _ _) (C.toCx.r2 (by decide)) C.hh FG OG hM₂.out ha₂ (by rw [hout];rfl) fun h' e s' hx hs' q' => ?_) (by with_unfolding_all rfl)
     subst hs'
     refine caught_here B FG OG hx XB TBt (KF:=pre.heap_1 w.params) (T':="KeyError") (by k_is) (by rfl) (by decide) (by rw [isSubtype_type];kernel_rfl) (by rw [isSubtype_type];kernel_rfl) (by rw [isSubtype_type];kernel_rfl) fun h₆ g₆ oe t₆ Tt T₆ F₆ O₆ he0 hec hed B₆ => ?_
     have X₆:=XB.keeps B₆.stays
     have TT₆:=TBt.keeps B₆.stays
     have q₆ : Same sB { s' with heap:=h₆ }:=Same.trans qG ⟨q'.1,q'.2⟩
     have e₆:=Ext.upd (o:=oe) he0
     have hM₆:=hM₂.move e₆
     have I₆:=hM₆.inst
     have hD₆:=hD'.move (σ':=upd (upd σ₁ d emptyD) e oe) fun o => e₆ _ _
     have ha₆:=(k2 pg w).mono e₆.tx ha₂
     refine xH ?_;intro _ _
     iterate 2 walk1
     first | refine xN ?_ | walk1
     iterate 2 walk1
     first | refine xN ?_ | walk1
     walk1
     refine dsortedH (by rfl) (upd_self ..) hed (by rfl) F₆ O₆ hD₆ (U:=M.LU) (fun k hk => hM.vtL q k ((hfn k).mp hk)) (by have:=hM.bL;lia) fun s₇ D₇ Ss vs cn hD₇ q₇ F₇ O₇ hm₇ hp₇ ha₇ => ?_
     have qq₇ : Same sB s₇:=Same.trans q₆ q₇
     have e₇:=Ext.upd (o:=listOf vs.toArray cn) hD₇
     have hM₇:=hM₆.move e₇
     have I₇:=hM₇.inst
     have ha₇':=(k2 pg w).mono e₇.tx ha₆
     iterate 2 walk1
     first | refine xN ?_ | walk1
     have SS₇:=Same.refl s₇
     (refine iget ‹_› ‹_› ‹_› ‹_› (by k_is) (by k_is) (by k_is) (by k_is) (by first | assumption | rfl) (by rfl) (quietly ‹_› ‹_› ?_);intro _ hq _ _;have _:=Same.trans ‹_› hq;clear hq)
     first | refine xN ?_ | walk1
     refine dset (k2d _ _) (k2r _ _) (by exact C.toCx.r2 (by decide)) ‹_› ‹_› hM₇.out ha₇' (v:=.ref D₇) ⟨M.UQ,Nat.le_trans hM.bU (by decide),fun k hk => ?_⟩ fun s₈ o₈ q₈ F₈ O₈ D₈ hc₈ => ?_
     ·cases hq : c.out k with
      | none => rw [hq] at hk;exact absurd rfl hk
      | some a => exact hM.outU k a hq
     have qq₈:=Same.trans ‹_› q₈
     walk1
     refine xS ?_;intros
     rename_i sE FE OE qE
     walk1
     show MidT _ _ _ _ _ _ _ _
     refine xe13 (hM₇.putOut D₈ (b:=D₇) ⟨Ss,vs,cn,upd_self ..,ha₇,hp₇,fun l => (hm₇ l).trans (hfn l)⟩ hqU) fun c' h1 h2 h3 => ?_
     have hDG : D₇ ≠ c.G:=fun z => by
      refine xe12 hM₆.out.cell fun _ z1 _ => ?_
      rw [← z,hD₇] at z1;cases z1
     refine ⟨rfl,g₆,_,_,by rw [outs_deeper hA];exact T₆,Same.trans qq₇ qE,FE,OE,D₇,Ss,vs,cn,c',C.turn hA B₆ XB ⟨_,_,_,TBt⟩ (D.turn T₆),rfl,m3,?_,ha₇,hp₇,fun l => (hm₇ l).trans (hfn l),h1,(Kp.ext (e₂.trans (e₆.trans e₇))).trans h2,fun q' b hb => ?_⟩
     ·rw [upd_ne hDG];exact upd_self ..
     rw [h3] at hb
     split at hb
     ·cases hb
      refine .inr ?_
      cases z : σ₁ D₇ with
      | none => rfl
      | some ob => rw [e₆ _ _ (e₂ _ _ z)] at hD₇;cases hD₇
     exact .inl hb
   refine xe510 J₃ fun la Ss vs cn c₃ C₃ n1 n2 hla haS hpw hmem hM₃ kp₃ ou₃ => ?_
   try clear J₃
   have C₃ : CxT w _ g₃ L 3:=C₃
   have X₃:=C₃.toCx.X
   refine xe31 C₃.toCx.T fun _ _ _ TT₃ => ?_
   have qq₃:=Same.trans qB q₃
   have hSn : Ss.Nodup:=hpw.imp fun {a b} h e => by
    subst e
    have:=sLt_asym _ _ h
    rw [h] at this;cases this
   have hSl : Ss.length ≤ 60:=Nat.le_trans (nodup_sub hSn fun l hl => hM.vtL q l ((hmem l).mp hl)) hM.bL
   have hvl:=haS.length
   refine xH ?_;intro _ _
   iterate 2 walk1
   first | refine xN ?_ | walk1
   iterate 2 walk1
   first | refine xN ?_ | walk1
   walk1
   first | refine xN ?_ | walk1
   iterate 2 walk1
   refine (bisect w _ la vs cn Ss hla haS (by lia) (ch low) tl).call (C₃.toCx.le (by decide)) ‹_› ‹_› fun v σ₄ s₄ q₄ F₄ O₄ hP => ?_
   have qq₄:=Same.trans qq₃ q₄
   refine xe02 hP fun zq106 zq107 => ?_
   try clear hP
   subst zq106
   refine xe24 zq107 fun p tp zq143 hpl hlt1 hge1 => ?_
   try clear zq107
   subst zq143
   have dfn : ∀ n,M.nx q (ch n) ≠ none → ch n ∈ Ss:=fun n h => (hmem _).mpr fun z => h (by unfold Dfa.nx;rw [z,hdf0];rfl)
   have lab : ∀ l ∈ Ss,∃ n,l = ch n:=fun l hl => hch l ((hmem l).mp hl)
   refine xS ?_;intros
   refine xH ?_;intro _ _
   iterate 2 walk1
   first | refine xN ?_ | walk1
   walk1
   first | refine xN ?_ | walk1
   iterate 2 walk1
   first | refine xN ?_ | walk1
   walk1
   refine llen ‹_› hla (by lia) (fun s₅ t₅ q₅ => quietly ‹_› ‹_› (fun s₅ q₅ F₅ O₅ => ?_) s₅ q₅)
   have qq₅:=Same.trans ‹_› q₅
   iterate 3 walk1
   ·rename_i hpl'
    have hpl' : p < vs.length:=by exact xs25f ‹_›
    refine xe12 (?_ : ∃ sp,Ss[p]? = some sp ∧ ∃ t,vs[p]? = some (.str sp t)) fun sp hsp zq108 => ?_
    ·refine xe12 (haS.get2 (i:=p) (List.getElem?_eq_getElem hpl')) fun sp h1 zq144 => ?_
     refine xe11 zq144 fun t h2 => ?_
     try clear zq144
     exact ⟨sp,h1,t,by rw [List.getElem?_eq_getElem hpl',h2]⟩
    refine xe11 zq108 fun tsp hv => ?_
    try clear zq108
    have hspm : sp ∈ Ss:=List.mem_of_getElem? hsp
    refine xe11 (lab sp hspm) fun n zq1 => ?_
    subst zq1
    refine xH ?_;intro _ _
    iterate 2 walk1
    first | refine xN ?_ | walk1
    first | refine xN ?_ | walk1
    refine lsub ‹_› ‹_› hla hv rfl (by lia) fun s₆ q₆ F₆ O₆ => ?_
    have qq₆:=Same.trans ‹_› q₆
    show EndsT _ _ _ _ _ _ _ _
    refine EndsT.mk' T₃ qq₆ F₆ O₆ ⟨⟨c₃,hM₃,kp₃,ou₃⟩,.inr ⟨n,tsp,rfl,?_,?_,fun j h1 h2 => ?_⟩⟩
    ·have:=hge1 _ hsp
     rw [sLt_ch] at this
     have:=of_decide_eq_false this
     lia
    ·intro z
     have h1:=(hmem _).mp hspm
     unfold Dfa.nx at z
     cases h2 : M.tr q (ch n) with
     | none => exact h1 h2
     | some _ => rw [h2] at z;simp at z
    apply Classical.byContradiction
    intro hne
    refine xe11 (List.mem_iff_getElem?.mp (dfn j hne)) fun i hi => ?_
    rcases Nat.lt_trichotomy i p with hip | hip | hip
    ·have:=hlt1 i _ hip hi
     rw [sLt_ch] at this
     have:=of_decide_eq_true this
     lia
    ·subst hip
     rw [hsp] at hi
     have:=congrArg Str.cps (Option.some.inj hi)
     simp at this
     lia
    have hi':=(List.getElem?_eq_some_iff.mp hi)
    have hp':=(List.getElem?_eq_some_iff.mp hsp)
    refine xe11 hi' fun hi1 hi2 => ?_
    try clear hi'
    refine xe11 hp' fun hp1 hp2 => ?_
    try clear hp'
    have:=List.pairwise_iff_getElem.mp hpw p i hp1 hi1 hip
    rw [hi2,hp2,sLt_ch] at this
    have:=of_decide_eq_true this
    lia
   rename_i hpl'
   have hpl' : p = Ss.length:=by lia
   walk1
   refine xH ?_;intro _ _
   iterate 2 walk1
   show EndsT _ _ _ _ _ _ _ _
   refine EndsT.mk' T₃ qq₅ F₅ O₅ ⟨⟨c₃,hM₃,kp₃,ou₃⟩,.inl ⟨rfl,fun n hn => ?_⟩⟩
   apply Classical.byContradiction
   intro hne
   refine xe11 (List.mem_iff_getElem?.mp (dfn n hne)) fun i hi => ?_
   have hi1:=(List.getElem?_eq_some_iff.mp hi).1
   have:=hlt1 i _ (by lia) hi
   rw [sLt_ch] at this
   have:=of_decide_eq_true this
   lia
section
variable {prog : Program} {w : World} {A : Around} {E : Value → Shared → Prop} {s : Shared} {ι : Sd} {h₀ : Heap} {L : Addr} {σ : Sg} {m : Str → Option Value}
theorem forW2 {env : Env} {xi xc : Str} {pi pc pt : Pos} {x1 : Nat} {body orelse : List Stmt} {Q : Flow → Shared → Prop} {I : Addr} {fp wr : List Addr} {n : Nat} {P : Nat → Value → Prop} {St : Nat → Heap → Prop} {Md : Nat → Addr → Heap → Prop}
  (J : Nat → (Str → Option Value) → Sg → Prop) (hh : A.handled = none)
  (W : WalksT prog w A I fp wr n (fun i vals => ∃ t x,P i x ∧ vals = #[.int i t,x]) St Md) (hxi : env.kindOf xi = some .local) (hxc : env.kindOf xc = some .local) (hp : (env.scope.kind == .class || (env.scope.kind == .module && env.locals != env.globals)) = false)
  (hob : ∀ i h,St i h → ∀ b ∈ wr,∃ o,h.get? b = some o) (hwr : ∀ b ∈ wr,b ≠ env.locals ∧ h₀.get? b = none ∧ σ b = none ∧ ∀ p ∈ ι,p.1 ≠ b) (hfp : ∀ b ∈ fp,b ∈ wr)
  (hst : St 0 s.heap) (F : Fr h₀ env.locals s.heap m) (O : Own ι h₀ env.locals s.heap σ) (h0 : J 0 m σ)
  (step : ∀ i v t m₁ σ₁ s₁ ι',(∀ h σ,Own ι' h₀ env.locals h σ → Own ι h₀ env.locals h σ) → Same s s₁ → i < n → P i v → J i m₁ σ₁ →
   Fr h₀ env.locals s₁.heap (fun y => if y = xc then some v else if y = xi then some (.int i t) else m₁ y) → Own ι' h₀ env.locals s₁.heap σ₁ →
   wpAny (model prog w) A (execs body env) (fun f s₂ => match f with
    | .next | .cont => Turn J ι' h₀ env.locals s₁ (i + 1) s₂
    | .brk => Q .next s₂
    | .ret v => Q (.ret v) s₂) (fun _ _ => False) s₁)
  (done : ∀ m₁ σ₁ s₁,Same s s₁ → Fr h₀ env.locals s₁.heap m₁ → Own ι h₀ env.locals s₁.heap σ₁ → J n m₁ σ₁ → wpAny (model prog w) A (execs orelse env) Q (fun _ _ => False) s₁) :
  codeAny (model prog w) A (.forLoop (.Tuple [.Name xi pi,.Name xc pc] x1 pt) (.ref I) body orelse env) (fun r s' => match r with | .ok f => Q f s' | .error e => cameBackBy (model prog w) A env E e s') s:=by
 refine codeAny_forLoop_any (fun k s' => ∃ m' σ' i,Same s s' ∧ St i s'.heap ∧ Fr h₀ env.locals s'.heap m' ∧ Own ι h₀ env.locals s'.heap σ' ∧ (∀ b ∈ wr,σ' b = none) ∧ J i m' σ' ∧ i ≤ n ∧ k = n + 1 - i) ?_ (n + 1)
  ⟨m,σ,0,.refl _,hst,F,O,fun b hb => (hwr b hb).2.2.1,h0,Nat.zero_le _,rfl⟩
 intro k s' zq4
 refine xe38 zq4 fun m' σ' i S' hst' F' O' hn' hJ hi zq84 => ?_
 try clear zq4
 subst zq84
 have next : ∀ h₁ : Heap,(∀ b o,b ∉ wr → s'.heap.get? b = some o → h₁.get? b = some o) → Fr h₀ env.locals h₁ m' ∧ Own ι h₀ env.locals h₁ σ':=fun h₁ hk => by
  refine xe32 F'.ns fun oL es ep hL r => ?_
  refine ⟨⟨⟨oL,es,ep,hk _ _ (fun q => (hwr _ q).1 rfl) hL,r⟩,fun b o e => hk b o (fun q => ?_) (F'.keep b o e),F'.above⟩,⟨fun a o e => ⟨hk _ _ (fun q => ?_) (O'.get e),(O'.cell a o e).2⟩,fun p hp => ⟨hk _ _ (fun q => (hwr _ q).2.2.2 p hp rfl) (O'.side p hp).1,(O'.side p hp).2⟩⟩⟩
  ·rw [(hwr b q).2.1] at e;cases e
  rw [hn' a q] at e;cases e
 by_cases hlt : i < n
 ·refine W.item i _ _ _ hlt hst' fun T vals h₁ tk₁ hP hTs hT hm₁ hk₁ => ?_
  refine xe22 hP fun t v hPv zq1 => ?_
  try clear hP
  subst zq1
  refine W.go _ _ _ i T _ _ _ hm₁ fun h₂ hst₂ hk₂ => ?_
  have hTw:=W.apart _ _ _ hm₁
  have hT₂ : h₂.IsTuple T #[.int i t,v]:=by
   refine xe12 hT fun o ho r => ?_
   try clear hT
   exact ⟨o,hk₂ _ _ hTw ho,r⟩
  refine wpAny_assign_Tuple hh hT₂ rfl rfl fun h₃ hx₃ => ?_
  have hk₃ : ∀ b o,b ∉ wr → s'.heap.get? b = some o → h₃.get? b = some o:=fun b o hb e => hx₃ b o (Nat.ne_of_lt (Heap.lt_size (hk₂ b o hb (hk₁ b o hb e)))) (hk₂ b o hb (hk₁ b o hb e))
  refine xe02 (next h₃ hk₃) fun F₃ O₃ => ?_
  have hst₃ : St (i + 1) h₃:=W.frame _ _ _ hst₂ fun b hb o e => hx₃ b o (Nat.ne_of_lt (Heap.lt_size e)) e
  show wpAny _ A (do holding [v] (assign (.Name xi pi) env (.int i t));do holding [] (assign (.Name xc pc) env v);pure ()) _ _ _
  refine wpAny_bind (wpAny_holding (wpAny_assign_Name (wpAny_storeName_local hxi F₃.ns (fun h₄ hn₄ hs₄ => ?_) hp)))
  have F₄:=F₃.set hn₄ hs₄
  have O₄:=O₃.setL hs₄
  refine wpAny_bind (wpAny_holding (wpAny_assign_Name (wpAny_storeName_local hxc F₄.ns (fun h₅ hn₅ hs₅ => wpAny_pure ?_) hp)))
  have F₅:=F₄.set hn₅ hs₅
  have O₅:=O₄.setL hs₅
  have O₆ : Own (sideOf h₅ wr ++ ι) h₀ env.locals h₅ σ':=⟨O₅.cell,fun p hp => (List.mem_append.mp hp).elim (fun q => by
   refine xe02 (mem_sideOf.mp q) fun q1 q2 => ?_
   exact ⟨q2,(hwr _ q1).1,(hwr _ q1).2.1,hn' _ q1⟩) fun q => O₅.side p q⟩
  have hst₅ : St (i + 1) h₅:=W.frame _ _ _ hst₃ fun b hb o e => by
   have hbL : b ≠ env.locals:=(hwr b (hfp b hb)).1
   exact (hs₅.2 b hbL).trans ((hs₄.2 b hbL).trans e)
  refine wpAny_mono (step i v t m' σ' _ _ (fun h σ o => ⟨o.cell,fun p hp => o.side p (List.mem_append_right _ hp)⟩) (S'.trans ⟨rfl,rfl⟩) hlt hPv hJ F₅ O₆) (fun f s₃ h₃ => ?_) fun _ _ e => e.elim
  have back : ∀ s₅,Same s' s₅ → Turn J (sideOf h₅ wr ++ ι) h₀ env.locals s₅ (i + 1) s₃ → ∃ k,k < n + 1 - i ∧ ∃ m' σ' i,Same s s₃ ∧ St i s₃.heap ∧ Fr h₀ env.locals s₃.heap m' ∧ Own ι h₀ env.locals s₃.heap σ' ∧ (∀ b ∈ wr,σ' b = none) ∧ J i m' σ' ∧ i ≤ n ∧ k = n + 1 - i:=by
   intro s₅ q₅ zq5
   obtain ⟨m₂,σ₂,S₂,F₇,O₇,hJ₂⟩:=zq5
   refine ⟨n + 1 - (i + 1),by exact xs8b ‹_›,m₂,σ₂,i + 1,(S'.trans q₅).trans S₂,?_,F₇,⟨O₇.cell,fun p hp => O₇.side p (List.mem_append_right _ hp)⟩,fun b hb => ?_,hJ₂,hlt,rfl⟩
   ·exact W.frame _ _ _ hst₅ fun b hb o e => (O₇.side (b,o) (List.mem_append_left _ (mem_sideOf.mpr ⟨hfp b hb,e⟩))).1
   refine xe11 (hob _ _ hst₅ b hb) fun o e => ?_
   exact (O₇.side (b,o) (List.mem_append_left _ (mem_sideOf.mpr ⟨hb,e⟩))).2.2.2
  cases f with
  | ret v => exact h₃
  | brk => exact h₃
  | cont => exact back _ (by exact ⟨rfl,rfl⟩) h₃
  | next => exact back _ (by exact ⟨rfl,rfl⟩) h₃
 have hin : i = n:=by lia
 subst hin
 refine W.done _ _ _ hst' fun h₁ tk₁ hk₁ => ?_
 refine xe02 (next h₁ hk₁) fun F₁ O₁ => ?_
 exact wpAny_mono (done m' σ' _ (S'.trans ⟨rfl,rfl⟩) F₁ O₁ hJ) (fun _ _ q => q) fun _ _ e => e.elim
structure EnR (ι : Sd) (σ : Sg) (h₀ : Heap) (L : Addr) (h : Heap) (e it : Addr) (l : List Nat) (tk : Tok) : Prop where
 he : IsEnum h e it 0 .none
 hit : h.IsStrIter it (strIterType (sw l)) (sw l) tk 0
 ne : e ≠ it
 wr : ∀ b ∈ [e,it],b ≠ L ∧ h₀.get? b = none ∧ σ b = none ∧ ∀ p ∈ ι,p.1 ≠ b
theorem senum {l : List Nat} {tk : Tok} {Q : Value → Shared → Prop} (F : Fr h₀ L s.heap m) (O : Own ι h₀ L s.heap σ)
  (h : ∀ s' e it,EnR ι σ h₀ L s'.heap e it l tk → Same s s' → Fr h₀ L s'.heap m → Own ι h₀ L s'.heap σ → Q (.ref e) s') : wpAny (model prog w) A (call (.type "enumerate") [.str (sw l) tk]) Q E s:=by
 refine call_enumerate_str fun h' he hit hsz hk => ?_
 have hLs:=F.ns.lt
 have hab:=F.above
 refine h { s with heap:=h' } _ _ ⟨he,hit,Nat.succ_ne_self _,fun b hb => ?_⟩ ⟨rfl,rfl⟩ (F.kept hk) (O.more hk)
 have hbs : s.heap.objs.size ≤ b:=by
  rcases List.mem_cons.mp hb with rfl | hb
  ·exact Nat.le_succ _
  rw [List.mem_singleton.mp hb];exact Nat.le_refl _
 refine ⟨Nat.ne_of_gt (Nat.lt_of_lt_of_le hLs hbs),?_,O.fresh hbs,fun p hp z => ?_⟩
 ·exact Heap.get?_none_of_le (Nat.le_trans hab (Nat.le_trans (Nat.le_of_lt hLs) hbs))
 have:=Heap.lt_size (O.side p hp).1
 rw [z] at this
 exact absurd this (Nat.not_lt.mpr hbs)
theorem forEnum {env : Env} {xi xc : Str} {pi pc pt : Pos} {x1 : Nat} {body orelse : List Stmt} {Q : Flow → Shared → Prop} {e it : Addr} {l : List Nat} {tk : Tok} {m : Str → Option Value}
  (J : Nat → (Str → Option Value) → Sg → Prop) (hh : A.handled = none) (R : EnR ι σ h₀ env.locals s.heap e it l tk) (F : Fr h₀ env.locals s.heap m) (O : Own ι h₀ env.locals s.heap σ) (h0 : J 0 m σ)
  (step : ∀ i c t u m₁ σ₁ s₁ ι',(∀ h σ,Own ι' h₀ env.locals h σ → Own ι h₀ env.locals h σ) → Same s s₁ → l[i]? = some c → J i m₁ σ₁ →
   Fr h₀ env.locals s₁.heap (fun y => if y = xc then some (.str (ch c) u) else if y = xi then some (.int i t) else m₁ y) → Own ι' h₀ env.locals s₁.heap σ₁ →
   wpAny (model prog w) A (execs body env) (fun f s₂ => match f with
    | .next | .cont => Turn J ι' h₀ env.locals s₁ (i + 1) s₂
    | .brk => Q .next s₂
    | .ret v => Q (.ret v) s₂) (fun _ _ => False) s₁)
  (done : ∀ m₁ σ₁ s₁,Same s s₁ → Fr h₀ env.locals s₁.heap m₁ → Own ι h₀ env.locals s₁.heap σ₁ → J l.length m₁ σ₁ → wpAny (model prog w) A (execs orelse env) Q (fun _ _ => False) s₁)
  (hxi : env.kindOf xi = some .local:=by rfl) (hxc : env.kindOf xc = some .local:=by rfl) (hp : (env.scope.kind == .class || (env.scope.kind == .module && env.locals != env.globals)) = false:=by rfl) :
  wpAny (model prog w) A (pyIter (.ref e)) (fun it s₂ => codeAny (model prog w) A (.forLoop (.Tuple [.Name xi pi,.Name xc pc] x1 pt) it body orelse env) (fun r s' => match r with | .ok f => Q f s' | .error e => cameBackBy (model prog w) A env E e s') s₂) E s:=by
 refine wpAny_pyIter_enum R.he ?_
 have go : ∀ (St : Nat → Heap → Prop) (D : Draws prog w A.in1 it [it] (sw l).cps.size (fun i v => ∃ c u,(sw l).cps[i]? = some c ∧ v = Value.str ⟨#[c]⟩ u) St),St 0 s.heap → (∀ i h,St i h → ∃ o,h.get? it = some o) →
   codeAny (model prog w) A (.forLoop (.Tuple [.Name xi pi,.Name xc pc] x1 pt) (.ref e) body orelse env) (fun r s' => match r with | .ok f => Q f s' | .error e => cameBackBy (model prog w) A env E e s') s:=fun St D hst hlive => by
  have hsz : (sw l).cps.size = l.length:=by simp
  rw [hsz] at D
  have W:=WalksT.enumerateD D e R.ne (by simp [R.ne]) (.head _)
  refine forW2 J hh W hxi hxc hp (fun i h st b hb => ?_) R.wr (fun b hb => hb) ⟨⟨_,R.he⟩,hst⟩ F O h0 (fun i v t m₁ σ₁ s₁ ι' w₁ q₁ hi hv hJ F₁ O₁ => ?_) done
  ·refine xe02 st fun zq2 hs => ?_
   try clear st
   refine xe11 zq2 fun old he => ?_
   try clear zq2
   rcases List.mem_cons.mp hb with rfl | hb
   ·exact ⟨_,he⟩
   rw [List.mem_singleton.mp hb];exact hlive _ _ hs
  refine xe22 hv fun c u hc zq3 => ?_
  try clear hv
  subst zq3
  exact step i c t u m₁ σ₁ s₁ ι' w₁ q₁ (by simpa using hc) hJ F₁ O₁
 have hit:=R.hit
 cases ha : (sw l).cps.all (· < 128)
 ·have hit' : s.heap.IsStrIter it "str_iterator" (sw l) tk 0:=by unfold strIterType at hit;rw [ha] at hit;exact hit
  exact go _ (Draws.strWide (A:=A.in1) hh it (sw l) tk) hit' fun i h st => xe12 (st) fun o ho _ => ⟨o,ho⟩
 have hit' : s.heap.IsStrIter it "str_ascii_iterator" (sw l) tk 0:=by unfold strIterType at hit;rw [ha] at hit;exact hit
 exact go _ (Draws.strAscii (A:=A.in1) hh it (sw l) tk) hit' fun i h st => xe12 (st) fun o ho _ => ⟨o,ho⟩
theorem assign3 {env : Env} {y1 y2 y3 : Str} {p1 p2 p3 pt : Pos} {k : Nat} {ta : Addr} {v1 v2 v3 : Value} {n : Nat} {Q : Unit → Shared → Prop} (hh : A.handled = none) (F : Fr h₀ env.locals s.heap m) (O : Own ι h₀ env.locals s.heap σ) (hta : σ ta = some (tupOf [v1,v2,v3] n))
  (h : ∀ s',Same s s' → Fr h₀ env.locals s'.heap (fun y => if y = y3 then some v3 else if y = y2 then some v2 else if y = y1 then some v1 else m y) → Own ι h₀ env.locals s'.heap σ → Q () s')
  (h1 : env.kindOf y1 = some .local:=by rfl) (h2 : env.kindOf y2 = some .local:=by rfl) (h3 : env.kindOf y3 = some .local:=by rfl) (hp : (env.scope.kind == .class || (env.scope.kind == .module && env.locals != env.globals)) = false:=by rfl) :
  wpAny (model prog w) A (assign (.Tuple [.Name y1 p1,.Name y2 p2,.Name y3 p3] k pt) env (.ref ta)) Q E s:=by
 refine wpAny_assign_Tuple (items:=#[v1,v2,v3]) hh ⟨_,O.get hta,rfl,n,rfl⟩ rfl rfl fun h' hx => ?_
 have hk : ∀ b o,s.heap.get? b = some o → h'.get? b = some o:=fun b o e => hx b o (Nat.ne_of_lt (Heap.lt_size e)) e
 have F₁:=F.kept hk
 have O₁:=O.more hk
 show wpAny _ A (do holding [v2,v3] (assign (.Name y1 p1) env v1);do holding [v3] (assign (.Name y2 p2) env v2);do holding [] (assign (.Name y3 p3) env v3);pure ()) _ _ _
 refine wpAny_bind (wpAny_holding (wpAny_assign_Name (wpAny_storeName_local h1 F₁.ns (fun h₄ hn₄ hs₄ => ?_) hp)))
 have F₄:=F₁.set hn₄ hs₄
 have O₄:=O₁.setL hs₄
 refine wpAny_bind (wpAny_holding (wpAny_assign_Name (wpAny_storeName_local h2 F₄.ns (fun h₅ hn₅ hs₅ => ?_) hp)))
 have F₅:=F₄.set hn₅ hs₅
 have O₅:=O₄.setL hs₅
 refine wpAny_bind (wpAny_holding (wpAny_assign_Name (wpAny_storeName_local h3 F₅.ns (fun h₆ hn₆ hs₆ => wpAny_pure ?_) hp)))
 exact h _ (by exact ⟨rfl,rfl⟩) (F₅.set hn₆ hs₆) (O₅.setL hs₆)
end
noncomputable abbrev Ent:=List Nat × Qs × Option Nat
noncomputable def low : Option Nat → Nat
 | none => 0
 | some c => c + 1
inductive Res (M : Dfa) : List Ent → Option (List Nat) → Prop
 | nil : Res M [] none
 | skip {w q b es r} : (∀ n,low b ≤ n → M.nx q (ch n) = none) → Res M es r → Res M ((w,q,b) :: es) r
 | hit {w q b es n q'} : low b ≤ n → M.nx q (ch n) = some q' → (∀ j,low b ≤ j → j < n → M.nx q (ch j) = none) → M.fin q' → Res M ((w,q,b) :: es) (some (w ++ [n]))
 | push {w q b es n q' r} : low b ≤ n → M.nx q (ch n) = some q' → (∀ j,low b ≤ j → j < n → M.nx q (ch j) = none) → ¬ M.fin q' → Res M ((w ++ [n],q',none) :: es) r → Res M ((w,q,b) :: es) r
noncomputable def fwd (M : Dfa) (u : List Nat) : Nat → List Ent
 | 0 => []
 | j + 1 => (u.take j,(runD M (u.take j)).getD [],some (u.getD j 0)) :: fwd M u j
noncomputable def NV (M : Dfa) (u : List Nat) (r : Option (List Nat)) : Prop :=
 (∃ q,runD M u = some q ∧ M.fin q ∧ r = some u) ∨ (∃ q,runD M u = some q ∧ ¬ M.fin q ∧ Res M ((u,q,none) :: fwd M u u.length) r) ∨
 (∃ i,i < u.length ∧ runD M (u.take i) ≠ none ∧ runD M (u.take (i + 1)) = none ∧ Res M (fwd M u (i + 1)) r)
noncomputable def LabIs (b : Option Nat) (v : Value) : Prop:=(b = none ∧ v = .none) ∨ ∃ c t,b = some c ∧ v = .str (ch c) t
noncomputable def EntIs (w : World) (σ : Sg) (e : Ent) (v : Value) : Prop:=∃ a t la lv,v = .ref a ∧ σ a = some (tupOf [.str (sw e.1) t,.ref la,lv] 0) ∧ (k2 pg w).is σ e.2.1 (.ref la) ∧ LabIs e.2.2 lv
theorem EntIs.mono {w : World} {σ σ' : Sg} {e : Ent} {v : Value} (tx : TX σ σ') (h : EntIs w σ e v) : EntIs w σ' e v:=by
 refine xe44 h fun a t la lv h1 h2 h3 h4 => ?_
 try clear h
 exact ⟨a,t,la,lv,h1,tx _ _ h2 rfl,(k2 pg w).mono tx h3,h4⟩
structure NvJ (w : World) (σ0 : Sg) (M : Dfa) (x l : Addr) (u : List Nat) (tk : Tok) (i : Nat) (m : Str → Option Value) (σ : Sg) : Prop where
 m1 : m (Str.ofString "self") = some (.ref x)
 m2 : m (Str.ofString "string") = some (.str (sw u) tk)
 m3 : m (Str.ofString "asbytes") = some (.bool false)
 m4 : m (Str.ofString "stack") = some (.ref l)
 m5 : ∃ t,m (Str.ofString "i") = some (.int ((i - 1 : Nat) : Int) t)
 e : Ext σ0 σ
 stk : ∃ vs n,σ l = some (listOf vs.toArray n) ∧ All2 (EntIs w σ) (fwd M u i).reverse vs
 st : ∃ q a,runD M (u.take i) = some q ∧ m (Str.ofString "state") = some (.ref a) ∧ (k2 pg w).is σ q (.ref a)
theorem fwd_len (M : Dfa) (u : List Nat) : ∀ i,(fwd M u i).length = i
 | 0 => rfl
 | i + 1 => congrArg Nat.succ (fwd_len M u i)
structure NvK (w : World) (σ0 : Sg) (M : Dfa) (x l : Addr) (u : List Nat) (tk : Tok) (m : Str → Option Value) (σ : Sg) : Prop where
 m1 : m (Str.ofString "self") = some (.ref x)
 m2 : m (Str.ofString "string") = some (.str (sw u) tk)
 m3 : m (Str.ofString "asbytes") = some (.bool false)
 m4 : m (Str.ofString "stack") = some (.ref l)
 e : Ext σ0 σ
 st : ∃ es o v vs n,σ l = some (listOf vs.toArray n) ∧ All2 (EntIs w σ) es.reverse vs ∧ m (Str.ofString "state") = some v ∧ OptV w σ o v ∧ ((∃ q,o = some q ∧ runD M u = some q ∧ es = (u,q,none) :: fwd M u u.length) ∨ (o = none ∧ ∃ i,i < u.length ∧ runD M (u.take i) ≠ none ∧ runD M (u.take (i + 1)) = none ∧ es = fwd M u (i + 1)))
noncomputable def mes (B : Nat) : List Ent → Nat
 | [] => 0
 | e :: r => (r.length + 1) * (B + 2) + (B + 1 - e.1.length)
theorem mes_lt (B : Nat) (e : Ent) (r : List Ent) : mes B r < mes B (e :: r):=by
 cases r with
 | nil => show 0 < (0 + 1) * (B + 2) + _;lia
 | cons f r =>
  show (r.length + 1) * (B + 2) + (B + 1 - f.1.length) < (r.length + 1 + 1) * (B + 2) + _
  rw [Nat.add_mul (r.length + 1) 1]
  exact Nat.lt_of_lt_of_le (Nat.add_lt_add_left (Nat.lt_of_le_of_lt (Nat.sub_le _ _) (by rw [Nat.one_mul];exact Nat.lt_succ_self _)) _) (Nat.le_add_right _ _)
inductive NvI (w : World) (A : Around) (ι : Sd) (g : Heap) (L : Addr) (s : Shared) (M : Dfa) (x l : Addr) (u : List Nat) (B : Nat) (n : Nat) (s' : Shared) : Prop
 | ofx (g') (m') (σ') (c') (es) (vs) (cn) (h1 : KtsTurn (outs A) g g') (h2 : CxT w A g' L 4) (h3 : Same s s') (h4 : Fr g' L s'.heap m') (h5 : Own ι g' L s'.heap σ') (h6 : m' (Str.ofString "self") = some (.ref x)) (h7 : m' (Str.ofString "asbytes") = some (.bool false)) (h8 : m' (Str.ofString "stack") = some (.ref l)) (h9 : DfaIs w σ' x M c') (h10 : ¬ Foot c' l) (h11 : (∀ q a,c'.out q = some a → a ≠ l)) (h12 : σ' l = some (listOf vs.toArray cn)) (h13 : All2 (EntIs w σ') es.reverse vs) (h14 : (∀ r,Res M es r → NV M u r)) (h15 : (∀ e ∈ es,runD M e.1 = some e.2.1 ∧ ∀ c,e.2.2 = some c → c < 1000000)) (h16 : es.length ≤ 200) (h17 : n = mes B es)
theorem fwd_ok {M : Dfa} {u : List Nat} (huc : ∀ c ∈ u,c < 1000000) : ∀ i,i ≤ u.length → (∀ j,j < i → runD M (u.take j) ≠ none) → ∀ e ∈ fwd M u i,runD M e.1 = some e.2.1 ∧ ∀ c,e.2.2 = some c → c < 1000000
 | 0,_,_,e,he => nomatch he
 | i + 1,hi,h,e,he => by
  rcases List.mem_cons.mp he with rfl | he
  ·refine ⟨?_,fun c hc => ?_⟩
   ·show runD M (u.take i) = some ((runD M (u.take i)).getD [])
    cases q : runD M (u.take i) with
    | none => exact absurd q (h i (Nat.lt_succ_self i))
    | some _ => rfl
   have hc' : some (u.getD i 0) = some c:=hc
   cases hc'
   rw [List.getD_eq_getElem?_getD,List.getElem?_eq_getElem (by lia)]
   exact huc _ (List.getElem_mem _)
  exact fwd_ok huc i (by lia) (fun j hj => h j (by lia)) e he
theorem run_live {M : Dfa} {u : List Nat} {i j : Nat} (h : runD M (u.take i) ≠ none) (hj : j ≤ i) : runD M (u.take j) ≠ none:=fun z => h (by
 have:=runD_dead (M:=M) (w:=u.take i) (i:=j)
 rw [List.take_take] at this
 have e : min j i = j:=by lia
 rw [e] at this
 exact this z)
theorem nextV (w : World) (σ : Sg) (x : Addr) (M : Dfa) (c : DfaCells) (hM : DfaIs w σ x M c) (hnx : ∀ q l q',M.nx q l = some q' → q' ≠ [] ∧ q'.length ≤ 60) (hch : ∀ q l,M.tr q l ≠ none → ∃ c,l = ch c) (hqU : ∀ u q,runD M u = some q → q ∈ M.UQ) (B : Nat) (hB : ∀ u q,runD M u = some q → u.length ≤ B) (hB1 : B ≤ 1000)
  (u : List Nat) (tk : Tok) (hu : u.length ≤ 100) (huc : ∀ c ∈ u,c < 1000000) :
  SpecT w 302 5 [.ref x,.str (sw u) tk] [] σ (fun v σ' => ∃ r,((r = none ∧ v = .none) ∨ ∃ l t,r = some l ∧ v = .str (sw l) t) ∧ NV M u r):=by
 refine' spec_ofT (binds:=[(Str.ofString "self",.ref x),(Str.ofString "string",.str (sw u) tk),(Str.ofString "asbytes",.bool false)]) ?ho ?hcd ?hb ?hl ?c1 ?c2 ?c3 ?c4 ?_;((case ho => k_is);(case hcd => k_is);(case hb => (first | (intro _ _;exact BindsTo.of_eq rfl) | (intro _ Xh;exact binds_K Xh rfl (by k_is) rfl rfl rfl)));(case hl => exact locs rfl);(case c1 => exact rfl);(case c2 => exact rfl);(case c3 => exact rfl);(case c4 => decide))
 intro A₀ g L ι s outer base hA Bw XB TB D C F O env A R;have X:=C.toCx.X;refine xe31 TB fun mean mg mb TBt => ?_;try clear TB;have T:=TBt.keeps Bw.stays;have S0:=Same.refl s
 have I:=hM.inst
 refine xH ?_;intro _ _
 iterate 2 walk1
 first | refine xN ?_ | walk1
 refine imeth ‹_› ‹_› ‹_› ‹_› (by k_is) (by k_is) (by k_is) (by first | assumption | rfl) ?_
 walk1
 refine (startD w _ x M c hM).call (C.toCx.le (by decide)) ‹_› ‹_› fun v σ₁ s₁ q₁ F₁ O₁ hP => ?_
 have qq₁:=Same.trans ‹_› q₁
 refine xe02 hP fun zq1 zq2 => ?_
 try clear hP
 subst zq1
 subst zq2
 refine xS ?_;intros
 refine xH ?_;intro _ _
 iterate 3 walk1
 refine znewList ‹_› ‹_› (by simp) fun s₂ l hl q₂ F₂ O₂ => ?_
 have qq₂:=Same.trans ‹_› q₂
 have e₂:=Ext.upd (o:=listOf ([] : List Value).toArray 0) hl
 refine xS ?_;intros
 refine xH ?_;intro _ _
 iterate 2 walk1
 refine xS ?_;intros
 rename_i sB FB OB qB
 have SB:=Same.refl sB
 refine cut (ι:=ι) (g:=g) (L:=L) (NvK w σ₁ M x l u tk) ?_ fun m₃ σ₃ s₃ q₃ F₃ O₃ J₃ => ?_
 ·refine wpAny_For ?_
  walk1
  first | refine xN ?_ | walk1
  iterate 2 walk1
  first | refine xN ?_ | walk1
  walk1
  refine senum ‹_› ‹_› fun s₄ en it R₄ q₄ F₄ O₄ => ?_
  have qq₄:=Same.trans SB q₄
  refine forEnum (fun i m σ' => NvJ w σ₁ M x l u tk i m σ') C.hh R₄ F₄ O₄ ⟨rfl,rfl,rfl,rfl,⟨_,rfl⟩,e₂,⟨[],0,upd_self ..,.nil⟩,_,_,rfl,rfl,(k2 pg w).mono e₂.tx hM.ini⟩ (fun i cc t u' m₅ σ₅ s₅ ι' back q₅ hc J F₅ O₅ => ?_) fun m₅ σ₅ s₅ q₅ F₅ O₅ J => ?_
  ·have qL:=q₅
   clear q₅
   refine holdP ?_;intro G;rcases J with ⟨m1,m2,m3,m4,⟨ti,m5⟩,e5,⟨vs,n,hl5,hst5⟩,q,a,hrq,m6,hqa⟩;unfold G;clear G
   have S5:=Same.refl s₅
   have hM5:=hM.move e5
   have I:=hM5.inst
   refine xH ?_;intro _ _
   iterate 2 walk1
   first | refine xN ?_ | walk1
   refine lmeth ‹_› hl5 PySem.F.slot_list_append PySem.F.type_list_append ?_
   iterate 5 walk1
   first | refine xN ?_ | walk1
   iterate 3 walk1
   first | refine xN ?_ | walk1
   walk1
   ((first | refine' sslice_to (s:=⟨_,_,_,_,_⟩) ?zF ?zO ?z0 ?zl ?_ | refine' sslice_from (s:=⟨_,_,_,_,_⟩) ?zF ?zO ?z0 ?zl ?_);(case zF => assumption);(case zO => assumption);(case z0 => lia);(case zl => lia);(intro _ _ hq _ _;have _:=Same.trans ‹_› hq;clear hq))
   walk1
   first | refine xN ?_ | walk1
   walk1
   first | refine xN ?_ | walk1
   walk1
   rename_i sS tS FS OS qS
   have hti : ((i : Int)).toNat = i:=by lia
   have hcl : i < u.length:=(List.getElem?_eq_some_iff.mp hc).1
   refine znewTuple ‹_› ‹_› (by simp) fun s₆ tp htp q₆ F₆ O₆ => ?_
   have qq₆:=Same.trans ‹_› q₆
   have e₆:=Ext.upd (o:=tupOf [.str (sw (u.take (i : Int).toNat)) tS,.ref a,.str (ch cc) u'] 0) htp
   have hl6:=e₆ _ _ hl5
   walk1
   refine lappend ‹_› ‹_› hl6 (by have:=hst5.length;rw [List.length_reverse,fwd_len] at this;lia) fun s₇ n₇ q₇ F₇ O₇ => ?_
   have qq₇:=Same.trans ‹_› q₇
   have hl0 : σ₁ l = none:=hl
   have e7:=(e5.trans e₆).upd' (o:=listOf (vs ++ [Value.ref tp]).toArray n₇) hl0
   have tx7 : TX (upd σ₅ tp (tupOf [.str (sw (u.take (i : Int).toNat)) tS,.ref a,.str (ch cc) u'] 0)) (upd (upd σ₅ tp (tupOf [.str (sw (u.take (i : Int).toNat)) tS,.ref a,.str (ch cc) u'] 0)) l (listOf (vs ++ [Value.ref tp]).toArray n₇)):=upd_tx hl6 (by simp)
   have hM7:=hM.move e7
   have I:=hM7.inst
   have hqa7:=(k2 pg w).mono (e₆.tx.trans tx7) hqa
   have hent : EntIs w (upd (upd σ₅ tp (tupOf [.str (sw (u.take (i : Int).toNat)) tS,.ref a,.str (ch cc) u'] 0)) l (listOf (vs ++ [Value.ref tp]).toArray n₇)) (u.take i,(runD M (u.take i)).getD [],some (u.getD i 0)) (.ref tp):=by
    refine EntIs.mono tx7 ⟨tp,tS,a,_,rfl,upd_self ..,?_,.inr ⟨cc,u',?_,rfl⟩⟩
    ·rw [hrq];exact (k2 pg w).mono e₆.tx hqa
    show some (u.getD i 0) = some cc
    rw [List.getD_eq_getElem?_getD,hc];rfl
   have hall7 : All2 (EntIs w (upd (upd σ₅ tp (tupOf [.str (sw (u.take (i : Int).toNat)) tS,.ref a,.str (ch cc) u'] 0)) l (listOf (vs ++ [Value.ref tp]).toArray n₇))) (fwd M u (i + 1)).reverse (vs ++ [.ref tp]):=by
    show All2 _ ((u.take i,(runD M (u.take i)).getD [],some (u.getD i 0)) :: fwd M u i).reverse _
    rw [List.reverse_cons]
    exact (hst5.imp fun _ _ r => r.mono (e₆.tx.trans tx7)).append (.cons hent .nil)
   have hl7:=upd_self (upd σ₅ tp (tupOf [.str (sw (u.take (i : Int).toNat)) tS,.ref a,.str (ch cc) u'] 0)) l (listOf (vs ++ [Value.ref tp]).toArray n₇)
   generalize upd (upd σ₅ tp (tupOf [.str (sw (u.take (i : Int).toNat)) tS,.ref a,.str (ch cc) u'] 0)) l (listOf (vs ++ [Value.ref tp]).toArray n₇) = σ₇ at *
   refine xH ?_;intro _ _
   iterate 2 walk1
   first | refine xN ?_ | walk1
   refine imeth ‹_› ‹_› ‹_› ‹_› (by k_is) (by k_is) (by k_is) (by first | assumption | rfl) ?_
   iterate 2 walk1
   first | refine xN ?_ | walk1
   walk1
   first | refine xN ?_ | walk1
   iterate 2 walk1
   refine (nextD w _ x a M c hM7 (l:=ch cc) (tk:=u') hqa7).call (C.toCx.le (by decide)) ‹_› ‹_› fun v σ₈ s₈ q₈ F₈ O₈ hP => ?_
   have qq₈:=Same.trans ‹_› q₈
   refine xe02 hP fun e₈ hv => ?_
   try clear hP
   have er : runD M (u.take (i + 1)) = M.nx q (ch cc):=by rw [take_snoc hc,runD_snoc,hrq];rfl
   have er' : (M.tr q (ch cc)).or (M.df q) = M.nx q (ch cc):=rfl
   rw [er'] at hv
   have hl8:=e₈ _ _ hl7
   have hall8:=hall7.imp fun _ _ r => r.mono e₈.tx
   refine xS ?_;intros
   rename_i sD FD OD qD
   rcases hv with ⟨hnone,rfl⟩ | ⟨q5,hsome,ha5⟩
   ·refine xH ?_;intro _ _
    iterate 3 walk1
    first | refine xN ?_ | walk1
    iterate 2 walk1
    refine xH ?_;intro _ _
    walk1
    refine Mid.mk' (Same.trans qq₄ (Same.trans qL qD)) FD (back _ _ OD) ⟨m1,m2,m3,m4,e7.trans e₈,_,none,_,_,_,hl8,hall8,rfl,.inl ⟨rfl,rfl⟩,.inr ⟨rfl,i,hcl,by rw [hrq];simp,er.trans hnone,rfl⟩⟩
   refine xe11 (k2r pg w ha5) fun a₅ zq3 => ?_
   subst zq3
   refine xe02 (hnx _ _ _ hsome) fun hne hql => ?_
   refine xH ?_;intro _ _
   iterate 3 walk1
   first | refine xN ?_ | walk1
   refine qtruthy ‹_› ha5 (by lia) (quietly ‹_› ‹_› ?_)
   (intro _ hq _ _;have _:=Same.trans ‹_› hq;clear hq)
   rename_i sE FE OE qE
   have hemp : q5.isEmpty = false:=by cases q5 with | nil => exact absurd rfl hne | cons _ _ => rfl
   simp only [hemp,Bool.not_true,Bool.not_false]
   iterate 3 walk1
   exact Turn.mk' qE FE OE ⟨m1,m2,m3,m4,⟨t,rfl⟩,e7.trans e₈,⟨_,_,hl8,hall8⟩,q5,a₅,er.trans hsome,rfl,ha5⟩
  refine holdP ?_;intro G;rcases J with ⟨m1,m2,m3,m4,⟨ti,m5⟩,e5,⟨vs,n,hl5,hst5⟩,q,a,hrq,m6,hqa⟩;unfold G;clear G
  have S5:=Same.refl s₅
  refine xH ?_;intro _ _
  iterate 2 walk1
  first | refine xN ?_ | walk1
  refine lmeth ‹_› hl5 PySem.F.slot_list_append PySem.F.type_list_append ?_
  iterate 5 walk1
  first | refine xN ?_ | walk1
  iterate 4 walk1
  first | refine xN ?_ | walk1
  iterate 3 walk1
  refine' sslice_to (s:=⟨_,_,_,_,_⟩) ?zF ?zO ?z0 ?zl ?_
  (case zF => assumption);(case zO => assumption);(case z0 => lia);(case zl => lia)
  intro sS tS qS' FS OS
  have qS:=Same.trans S5 qS'
  have hti : u.take ((((u.length - 1 : Nat) : Int) + 1)).toNat = u:=by
   rw [List.take_of_length_le]
   exact xs43
  rw [hti]
  have qL : Same sB s₅:=Same.trans qq₄ q₅
  walk1
  first | refine xN ?_ | walk1
  iterate 3 walk1
  refine znewTuple ‹_› ‹_› (by simp) fun s₆ tp htp q₆ F₆ O₆ => ?_
  have qq₆:=Same.trans qS q₆
  have e₆:=Ext.upd (o:=tupOf [.str (sw u) tS,.ref a,.none] 0) htp
  have hl6:=e₆ _ _ hl5
  walk1
  refine lappend ‹_› ‹_› hl6 (by have:=hst5.length;rw [List.length_reverse,fwd_len] at this;lia) fun s₇ n₇ q₇ F₇ O₇ => ?_
  have qq₇:=Same.trans qq₆ q₇
  have hl0 : σ₁ l = none:=hl
  have e7:=(e5.trans e₆).upd' (o:=listOf (vs ++ [Value.ref tp]).toArray n₇) hl0
  have tx7 : TX (upd σ₅ tp (tupOf [.str (sw u) tS,.ref a,.none] 0)) (upd (upd σ₅ tp (tupOf [.str (sw u) tS,.ref a,.none] 0)) l (listOf (vs ++ [Value.ref tp]).toArray n₇)):=upd_tx hl6 (by simp)
  have hqa7:=(k2 pg w).mono (e₆.tx.trans tx7) hqa
  rw [List.take_length] at hrq
  have hent : EntIs w (upd (upd σ₅ tp (tupOf [.str (sw u) tS,.ref a,.none] 0)) l (listOf (vs ++ [Value.ref tp]).toArray n₇)) (u,q,none) (.ref tp) :=
   EntIs.mono tx7 ⟨tp,tS,a,_,rfl,upd_self ..,(k2 pg w).mono e₆.tx hqa,.inl ⟨rfl,rfl⟩⟩
  have hall7 : All2 (EntIs w (upd (upd σ₅ tp (tupOf [.str (sw u) tS,.ref a,.none] 0)) l (listOf (vs ++ [Value.ref tp]).toArray n₇))) ((u,q,none) :: fwd M u u.length).reverse (vs ++ [.ref tp]):=by
   rw [List.reverse_cons]
   exact (hst5.imp fun _ _ r => r.mono (e₆.tx.trans tx7)).append (.cons hent .nil)
  walk1
  refine Mid.mk' (Same.trans qL qq₇) F₇ O₇ ⟨m1,m2,m3,m4,e7,_,some q,_,_,_,upd_self ..,hall7,m6,.inr ⟨q,rfl,hqa7⟩,.inl ⟨q,rfl,hrq,rfl⟩⟩
 have qq₃:=Same.trans qB q₃
 refine holdP ?_;intro G;rcases J₃ with ⟨m1,m2,m3,m4,e3,es,o,v,vs,n,hl3,hall3,m5,hov,hcase⟩;unfold G;clear G
 have hM3:=hM.move e3
 have I:=hM3.inst
 refine xH ?_;intro _ _
 iterate 3 walk1
 first | refine xN ?_ | walk1
 refine imeth ‹_› ‹_› ‹_› ‹_› (by k_is) (by k_is) (by k_is) (by first | assumption | rfl) ?_
 iterate 2 walk1
 first | refine xN ?_ | walk1
 iterate 2 walk1
 refine (isFinalD w _ x M c hM3 hov).call (C.toCx.le (by decide)) ‹_› ‹_› fun v' σ₄ s₄ q₄ F₄ O₄ hP => ?_
 have qq₄:=Same.trans qq₃ q₄
 refine xe02 hP fun zq150 zq151 => ?_
 try clear hP
 subst zq150
 refine xe12 zq151 fun b zq164 hb => ?_
 try clear zq151
 subst zq164
 cases b with
 | true =>
  iterate 2 walk1
  refine xH ?_;intro _ _
  walk1
  first | refine xN ?_ | walk1
  refine EndsT.mk' KtsTurn.refl qq₄ F₄ O₄ ⟨some u,.inr ⟨u,_,rfl,rfl⟩,?_⟩
  refine xe12 (hb.mp rfl) fun q hq hqf => ?_
  rcases hcase with ⟨q',h1,h2,_⟩ | ⟨h1,_⟩
  ·rw [hq] at h1;cases h1
   exact .inl ⟨q,h2,hqf,rfl⟩
  rw [hq] at h1;cases h1
 | false =>
  have hnf : ∀ q,o = some q → ¬ M.fin q:=fun q h1 h2 => by
   have:=hb.mpr ⟨q,h1,h2⟩
   cases this
  iterate 3 walk1
  refine xH ?_;intro _ _
  have hlF : ¬ Foot c l:=fun z => by
   refine xe11 (Foot.some hM z) fun ob hz => ?_
   rw [hl] at hz;cases hz
  have hlO : ∀ q a,c.out q = some a → a ≠ l:=fun q a h z => by
   refine xe32 (hM.outl q a h) fun _ _ _ h1 _ => ?_
   rw [z,hl] at h1;cases h1
  have hes : (∀ e ∈ es,runD M e.1 = some e.2.1 ∧ ∀ c,e.2.2 = some c → c < 1000000) ∧ (∀ r,Res M es r → NV M u r) ∧ es.length ≤ 200:=by
   rcases hcase with ⟨q,h1,h2,rfl⟩ | ⟨h1,i,h2,h3,h4,rfl⟩
   ·refine ⟨fun e he => ?_,fun r hr => .inr (.inl ⟨q,h2,hnf q h1,hr⟩),by simp [fwd_len];lia⟩
    rcases List.mem_cons.mp he with rfl | he
    ·exact ⟨h2,fun c hc => nomatch hc⟩
    exact fwd_ok huc _ (Nat.le_refl _) (fun j hj => run_live (i:=u.length) (by rw [List.take_length,h2];simp) (by lia)) e he
   exact ⟨fwd_ok huc _ h2 (fun j hj => run_live h3 (by exact xs15 ‹_›)),fun r hr => .inr (.inr ⟨i,h2,h3,h4,hr⟩),by rw [fwd_len];lia⟩
  refine whileL (NvI w _ ι g L s M x l u B) (mes B es) ⟨g,m₃,_,c,es,vs,n,KtsTurn.refl,C,qq₄,F₄,O₄,m1,m3,m4,hM3,hlF,hlO,hl3,hall3,hes.2.1,hes.1,hes.2.2,rfl⟩ ?_
  intro n' s₅ zq8
  refine holdP ?_;intro G;rcases zq8 with ⟨g₅,m₅,σ₅,c₅,es₅,vs₅,cn₅,T₅,C₅,qq₅,F₅,O₅,n1,n2,n3,hM₅,hlF₅,hlO₅,hl₅,hall₅,hres₅,hrun₅,hlen₅,hn₅⟩;unfold G;clear G
  have X:=C₅.toCx.X
  refine xe31 C₅.toCx.T fun _ _ _ TT₅ => ?_
  have I:=hM₅.inst
  have hvl₅:=hall₅.length
  rw [List.length_reverse] at hvl₅
  walk1
  first | refine xN ?_ | walk1
  refine ltruthy O₅ hl₅ (by lia) (quietly F₅ O₅ fun s₆ q₆ F₆ O₆ => ?_)
  have qq₆:=Same.trans qq₅ q₆
  cases es₅ with
  | nil =>
   have hv0 : vs₅ = []:=List.eq_nil_of_length_eq_zero (by simpa using hvl₅.symm)
   subst hv0
   simp only [List.isEmpty_nil,Bool.not_true,Bool.false_eq_true,if_false]
   walk1
   refine xH ?_;intro _ _
   iterate 2 walk1
   exact EndsT.mk' T₅ qq₆ F₆ O₆ ⟨none,.inl ⟨rfl,rfl⟩,hres₅ _ .nil⟩
  | cons e er =>
   refine holdP ?_;intro G;rcases e with ⟨ew,eq,eb⟩;unfold G;clear G
   rw [List.reverse_cons] at hall₅
   refine xe23 (All2.split hall₅) fun vr vt zq4 har hat => ?_
   subst zq4
   refine xe12 (?_ : ∃ ve,vt = [ve] ∧ EntIs w σ₅ (ew,eq,eb) ve) fun ve zq152 hve => ?_
   ·cases hat with
    | cons h t => cases t;exact ⟨_,rfl,h⟩
   subst zq152
   refine xe44 hve fun ta tt la lv zq5 hta hla hlv => ?_
   try clear hve
   subst zq5
   refine xe02 (hrun₅ _ (.head _)) fun hrunE hcodeE => ?_
   have hemp : (!(vr ++ [Value.ref ta]).isEmpty) = true:=by simp
   rw [hemp]
   simp only [if_true]
   have hvr : vr.length ≤ 200:=by simp at hvl₅ hlen₅;lia
   refine xH ?_;intro _ _
   iterate 2 walk1
   first | refine xN ?_ | walk1
   refine lmeth O₆ hl₅ PySem.F.slot_list_pop PySem.F.type_list_pop ?_
   walk1
   refine lpop F₆ O₆ hl₅ (by lia) fun s₇ n₇ q₇ F₇ O₇ => ?_
   have qq₇:=Same.trans qq₆ q₇
   have tx7 : TX σ₅ (upd σ₅ l (listOf vr.toArray n₇)):=upd_tx hl₅ (by simp)
   have keep7 : ∀ b o,b ≠ l → σ₅ b = some o → upd σ₅ l (listOf vr.toArray n₇) b = some o:=fun b o h e => by rw [upd_ne h];exact e
   have hM7:=hM₅.away2 tx7 fun b o hb e => keep7 b o (fun z => by
    subst z
    rcases hb with hb | hb | hb | ⟨q,hb⟩
    ·exact hlF₅ hb
    ·exact hM₅.ninst hl₅ (.inr (.inr rfl)) hb.symm
    ·exact (hM₅.ndict hl₅ (by simp)).1 hb.symm
    exact hlO₅ q _ hb rfl) e
   have hla7:=(k2 pg w).mono tx7 hla
   have har7:=har.imp fun _ _ r => EntIs.mono tx7 r
   have hta7:=tx7 _ _ hta rfl
   have hl7:=upd_self σ₅ l (listOf vr.toArray n₇)
   generalize upd σ₅ l (listOf vr.toArray n₇) = σ₇ at *
   have I:=hM7.inst
   refine assign3 C.hh ‹_› ‹_› hta7 fun s₈ q₈ F₈ O₈ => ?_
   have qq₈:=Same.trans ‹_› q₈
   refine xH ?_;intro _ _
   iterate 2 walk1
   first | refine xN ?_ | walk1
   refine imeth ‹_› ‹_› ‹_› ‹_› (by k_is) (by k_is) (by k_is) (by first | assumption | rfl) ?_
   iterate 2 walk1
   first | refine xN ?_ | walk1
   walk1
   first | refine xN ?_ | walk1
   iterate 2 walk1
   first | refine xN ?_ | walk1
   iterate 2 walk1
   refine (edgeD w _ x la M c₅ hM7 hla7 (hqU ew eq hrunE) (hch eq) lv (low eb) ?_).call C₅ F₈ O₈ fun v σ₉ s₉ g₉ T₉ C₉ q₉ F₉ O₉ hP => ?_
   ·rcases hlv with ⟨h1,rfl⟩ | ⟨cc,t,h1,rfl⟩
    ·exact .inl ⟨rfl,by rw [show eb = none from h1];rfl⟩
    exact .inr ⟨cc,t,rfl,by rw [show eb = some cc from h1];rfl,hcodeE cc h1⟩
   refine xe02 hP fun zq6 hres => ?_
   try clear hP
   refine xe13 zq6 fun c₉ hM₉ kp₉ ou₉ => ?_
   try clear zq6
   have qq₉:=Same.trans qq₈ q₉
   have X:=C₉.toCx.X
   refine xe31 C₉.toCx.T fun _ _ _ TT₉ => ?_
   have TT:=T₅.trans T₉
   have hl₉:=kp₉.keep _ _ hlF₅ hl7
   have har₉:=har7.imp fun _ _ r => EntIs.mono kp₉.tx r
   have hlF₉ : ¬ Foot c₉ l:=fun z => (kp₉.more _ z).elim hlF₅ fun z => by rw [hl7] at z;cases z
   have hlO₉ : ∀ q a,c₉.out q = some a → a ≠ l:=fun q a h z => by
    rcases ou₉ q a h with h1 | h1
    ·exact hlO₅ q a h1 z
    rw [z,hl7] at h1;cases h1
   have hla₉:=(k2 pg w).mono kp₉.tx hla7
   rcases hres with ⟨rfl,hno⟩ | ⟨nn,tn,rfl,hlow,hsome,hleast⟩
   ·refine xS ?_;intros
    rename_i sD FD OD qD
    refine xH ?_;intro _ _
    iterate 2 walk1
    first | refine xN ?_ | walk1
    iterate 4 walk1
    exact ⟨mes B er,by rw [hn₅];exact mes_lt B _ _,g₉,_,_,c₉,er,vr,_,TT,C₉,qD,FD,OD,n1,n2,n3,hM₉,hlF₉,hlO₉,hl₉,har₉,fun r hr => hres₅ r (.skip hno hr),fun e he => hrun₅ e (.tail _ he),by simp at hlen₅;lia,rfl⟩
   refine xe11 (?_ : ∃ q',M.nx eq (ch nn) = some q') fun q' hq' => ?_
   ·cases h : M.nx eq (ch nn) with
    | none => exact absurd h hsome
    | some q' => exact ⟨q',rfl⟩
   have hrun' : runD M (ew ++ [nn]) = some q':=by rw [runD_snoc,hrunE];exact hq'
   have hwB : ew.length + 1 ≤ B:=by have:=hB _ _ hrun';simpa using this
   have I:=hM₉.inst
   refine xS ?_;intros
   rename_i sD FD OD qD
   have qqD:=qD
   refine xH ?_;intro _ _
   iterate 2 walk1
   first | refine xN ?_ | walk1
   refine PySem.P.truthy_str (by show ¬ ((1 : Nat) : Int) ≥ 2 ^ 63;decide) ?_
   have hone : (((ch nn).length : Int) != 0) = true:=rfl
   rw [hone]
   walk1
   refine xH ?_;intro _ _
   walk1
   refine' wpAny_loadName_local ?zk1 ?zk2 (Fr.ns ?zF) ?ze ?_;(case zk1 => rfl);(case zk2 => rfl);(case zF => assumption);(case ze => first | assumption | rfl)
   first | refine xN ?_ | walk1
   refine iadd_str (fun t' tk' => ?_) ?hz
   case hz => rw [sizeLine_eq];simp [Str.length];lia
   have hap : (sw ew ++ ch nn : Str) = sw (ew ++ [nn]):=sw_app ew [nn]
   rw [hap]
   refine xS ?_;intros
   refine xH ?_;intro _ _
   iterate 2 walk1
   first | refine xN ?_ | walk1
   refine imeth ‹_› ‹_› ‹_› ‹_› (by k_is) (by k_is) (by k_is) (by first | assumption | rfl) ?_
   iterate 2 walk1
   first | refine xN ?_ | walk1
   walk1
   first | refine xN ?_ | walk1
   iterate 2 walk1
   refine (nextD w _ x la M c₉ hM₉ (l:=ch nn) (tk:=tn) hla₉).call (C₉.toCx.le (by decide)) ‹_› ‹_› fun v σ₁₀ s₁₀ q₁₀ F₁₀ O₁₀ hP => ?_
   have qq₁₀:=Same.trans ‹_› q₁₀
   refine xe02 hP fun e₁₀ hv => ?_
   try clear hP
   have er' : (M.tr eq (ch nn)).or (M.df eq) = M.nx eq (ch nn):=rfl
   rw [er',hq'] at hv
   have hM₁₀:=hM₉.move e₁₀
   have I:=hM₁₀.inst
   have hvO:=hv
   rcases hv with ⟨h1,_⟩ | ⟨q5,h1,ha5⟩
   ·cases h1
   cases h1
   refine xe11 (k2r pg w ha5) fun a₅ zq7 => ?_
   subst zq7
   refine xS ?_;intros
   refine xH ?_;intro _ _
   iterate 3 walk1
   first | refine xN ?_ | walk1
   refine imeth ‹_› ‹_› ‹_› ‹_› (by k_is) (by k_is) (by k_is) (by first | assumption | rfl) ?_
   iterate 2 walk1
   first | refine xN ?_ | walk1
   iterate 2 walk1
   refine (isFinalD w _ x M c₉ hM₁₀ hvO).call (C₉.toCx.le (by decide)) ‹_› ‹_› fun v σ₁₁ s₁₁ q₁₁ F₁₁ O₁₁ hP => ?_
   have qq₁₁:=Same.trans ‹_› q₁₁
   refine xe02 hP fun hσ zq153 => ?_
   try clear hP
   refine xe12 zq153 fun b zq165 hb => ?_
   try clear zq153
   subst zq165
   subst hσ
   have hl₁₀:=e₁₀ _ _ hl₉
   cases b with
   | true =>
    iterate 2 walk1
    refine xH ?_;intro _ _
    walk1
    first | refine xN ?_ | walk1
    exact EndsT.mk' TT qq₁₁ F₁₁ O₁₁ ⟨some (ew ++ [nn]),.inr ⟨_,_,rfl,rfl⟩,hres₅ _ (.hit hlow hq' hleast (by refine xe12 (hb.mp rfl) fun q' h1 h2 => ?_;cases h1;exact h2))⟩
   | false =>
    iterate 3 walk1
    refine xH ?_;intro _ _
    iterate 2 walk1
    first | refine xN ?_ | walk1
    refine lmeth ‹_› hl₁₀ PySem.F.slot_list_append PySem.F.type_list_append ?_
    iterate 4 walk1
    first | refine xN ?_ | walk1
    walk1
    first | refine xN ?_ | walk1
    iterate 3 walk1
    refine znewTuple ‹_› ‹_› (by simp) fun s₁₂ tp htp q₁₂ F₁₂ O₁₂ => ?_
    have qq₁₂:=Same.trans ‹_› q₁₂
    have e₁₂:=Ext.upd (o:=tupOf [.str (sw (ew ++ [nn])) t',.ref a₅,.none] 0) htp
    have hl₁₂:=e₁₂ _ _ hl₁₀
    walk1
    refine lappend ‹_› ‹_› hl₁₂ (by lia) fun s₁₃ n₁₃ q₁₃ F₁₃ O₁₃ => ?_
    have qq₁₃:=Same.trans qq₁₂ q₁₃
    iterate 2 walk1
    have hM₁₂:=hM₁₀.move e₁₂
    have tx13:=upd_tx (o':=listOf (vr ++ [Value.ref tp]).toArray n₁₃) hl₁₂ (by simp)
    have hM₁₃:=hM₁₂.away2 tx13 fun b o hb' e => by
     rw [upd_ne (fun z => ?_)]
     ·exact e
     subst z
     rcases hb' with hb' | hb' | hb' | ⟨q,hb'⟩
     ·exact hlF₉ hb'
     ·exact hM₁₂.ninst hl₁₂ (.inr (.inr rfl)) hb'.symm
     ·exact (hM₁₂.ndict hl₁₂ (by simp)).1 hb'.symm
     exact hlO₉ q _ hb' rfl
    have hent:=EntIs.mono (w:=w) (σ:=upd σ₁₁ tp (tupOf [.str (sw (ew ++ [nn])) t',.ref a₅,.none] 0)) tx13 (e:=(ew ++ [nn],q',none)) (v:=.ref tp) ⟨tp,t',a₅,_,rfl,upd_self ..,(k2 pg w).mono e₁₂.tx ha5,.inl ⟨rfl,rfl⟩⟩
    have hall : All2 (EntIs w (upd (upd σ₁₁ tp (tupOf [.str (sw (ew ++ [nn])) t',.ref a₅,.none] 0)) l (listOf (vr ++ [Value.ref tp]).toArray n₁₃))) ((ew ++ [nn],q',none) :: er).reverse (vr ++ [.ref tp]):=by
     rw [List.reverse_cons]
     exact (har₉.imp fun _ _ r => EntIs.mono ((e₁₀.tx.trans e₁₂.tx).trans tx13) r).append (.cons hent .nil)
    refine ⟨mes B ((ew ++ [nn],q',none) :: er),?_,g₉,_,_,c₉,_,_,_,TT,C₉,qq₁₃,F₁₃,O₁₃,n1,n2,n3,hM₁₃,hlF₉,hlO₉,upd_self ..,hall,fun r hr => hres₅ r (.push hlow hq' hleast (fun h => by have:=hb.mpr ⟨_,rfl,h⟩;cases this) hr),fun e he => ?_,by simpa using hlen₅,rfl⟩
    ·rw [hn₅]
     show (er.length + 1) * (B + 2) + (B + 1 - (ew ++ [nn]).length) < (er.length + 1) * (B + 2) + (B + 1 - ew.length)
     simp;exact xs26 ‹_›
    rcases List.mem_cons.mp he with rfl | he
    ·exact ⟨hrun',fun c hc => nomatch hc⟩
    exact hrun₅ e (.tail _ he)
theorem abc_item (x : Int) : ∃ c,Txt.item (Str.ofString "abc") (Int.fmod x 3) = ch c ∧ 97 ≤ c ∧ c ≤ 99:=by
 have h1:=Int.fmod_nonneg_of_pos x (b:=3) (by decide)
 have h2:=Int.fmod_lt_of_pos x (b:=3) (by decide)
 have h3 : Int.fmod x 3 = 0 ∨ Int.fmod x 3 = 1 ∨ Int.fmod x 3 = 2:=by exact xs34 ‹_› ‹_›
 rcases h3 with h | h | h <;> rw [h]
 ·exact ⟨97,by decide,by decide,by decide⟩
 ·exact ⟨98,by decide,by decide,by decide⟩
 exact ⟨99,by decide,by decide,by decide⟩
structure LwJ (i : Nat) (m : Str → Option Value) (σ : Sg) : Prop where
 made : ∃ l t,m (Str.ofString "made") = some (.str (sw l) t) ∧ l.length = i ∧ ∀ c ∈ l,97 ≤ c ∧ c ≤ 99
 num : ∃ x t,m (Str.ofString "number") = some (.int x t)
 ext : True
theorem lawWord (w : World) (σ : Sg) (n : Int) (most : Nat) (t1 t2 : Tok) (hm : most ≤ 10) :
  Spec w 351 3 [.int n t1,.int most t2] [] σ (fun v σ' => σ' = σ ∧ ∃ l t,v = .str (sw l) t ∧ l.length ≤ most ∧ ∀ c ∈ l,97 ≤ c ∧ c ≤ 99):=by
 refine' spec_of (binds:=[(Str.ofString "number",.int n t1),(Str.ofString "most",.int most t2)]) ?ho ?hcd ?hb ?hl ?c1 ?c2 ?c3 ?c4 ?_;((case ho => k_is);(case hcd => k_is);(case hb => (first | (intro _ _;exact BindsTo.of_eq rfl) | (intro _ Xh;exact binds_K Xh rfl (by k_is) rfl rfl rfl)));(case hl => exact locs rfl);(case c1 => exact rfl);(case c2 => exact rfl);(case c3 => exact rfl);(case c4 => decide))
 intro A g L ι s C F O env R;have X:=C.X;refine xe31 C.T fun mean mg mb T => ?_;have S0:=Same.refl s
 refine xH ?_;intro _ _
 iterate 2 walk1
 first | refine xN ?_ | walk1
 walk1
 first | refine xN ?_ | walk1
 iterate 3 walk1
 refine xS ?_;intros
 refine xH ?_;intro _ _
 iterate 2 walk1
 first | refine xN ?_ | walk1
 walk1
 first | refine xN ?_ | walk1
 iterate 3 walk1
 refine xS ?_;intros
 refine xH ?_;intro _ _
 iterate 2 walk1
 refine xS ?_;intros
 rename_i sB FB OB qB
 have SB:=Same.refl sB
 refine cut (ι:=ι) (g:=g) (L:=L) (fun m σ' => σ' = σ ∧ ∃ l t,m (Str.ofString "made") = some (.str (sw l) t) ∧ l.length ≤ most ∧ ∀ c ∈ l,97 ≤ c ∧ c ≤ 99) ?_ fun m₃ σ₃ s₃ q₃ F₃ O₃ J₃ => ?_
 ·refine wpAny_For ?_
  walk1
  first | refine xN ?_ | walk1
  iterate 2 walk1
  first | refine xN ?_ | walk1
  walk1
  refine srange1 ‹_› ‹_› fun s₄ r u1 u2 u3 q₄ F₄ O₄ hr => ?_
  have qq₄:=Same.trans SB q₄
  have hb0 : 0 ≤ Int.fmod n (most + 1) ∧ Int.fmod n (most + 1) ≤ most:=by
   have h1:=Int.fmod_nonneg_of_pos n (b:=(most : Int) + 1) (by lia)
   have h2:=Int.fmod_lt_of_pos n (b:=(most : Int) + 1) (by lia)
   exact xs25d ‹_› ‹_›
  generalize Int.fmod n (most + 1) = b at hr hb0 ⊢
  refine forRange (n:=b.toNat) (fun i m σ' => σ' = σ ∧ LwJ i m σ') C.hh F₄ O₄ hr (by rw [rangeSize_one];split <;> lia) (small_one (by lia) (by lia) (by lia) (by lia)) ⟨rfl,⟨[],_,rfl,rfl,fun c hc => nomatch hc⟩,⟨_,_,rfl⟩,trivial⟩ (fun i ti m₂ σ₂ s₂ ι' back q₂ hi J F₂ O₂ => ?_) fun m₂ σ₂ s₂ q₂ F₂ O₂ J => ?_
  ·clear q₂
   refine xe02 J fun zq70 zq71 => ?_
   try clear J
   subst zq70
   refine holdP ?_;intro G;rcases zq71 with ⟨⟨l,tl,m1,h1,h2⟩,⟨x,tx,m2⟩,_⟩;unfold G;clear G
   have S2:=Same.refl s₂
   refine xH ?_;intro _ _
   iterate 2 walk1
   first | refine xN ?_ | walk1
   iterate 3 walk1
   first | refine xN ?_ | walk1
   iterate 3 walk1
   refine xe13 (abc_item x) fun cc hcc hc1 hc2 => ?_
   rw [hcc]
   refine add_str (fun t' tk' => ?_) (by rw [sizeLine_eq];show (sw l).length + 1 ≤ _;simp [Str.length];lia)
   have hap : (sw l ++ ch cc : Str) = sw (l ++ [cc]):=sw_app l [cc]
   rw [hap]
   refine xS ?_;intros
   rename_i sD FD OD qD
   refine xH ?_;intro _ _
   iterate 2 walk1
   first | refine xN ?_ | walk1
   iterate 2 walk1
   refine xS ?_;intros
   rename_i sE FE OE qE
   walk1
   show Turn _ _ _ _ _ _ _
   refine Turn.mk' qE FE OE ⟨rfl,⟨l ++ [cc],t',rfl,by simp [h1],fun c hc => ?_⟩,⟨_,_,rfl⟩,trivial⟩
   rcases List.mem_append.mp hc with h | h
   ·exact h2 c h
   simp at h;subst h;exact ⟨hc1,hc2⟩
  walk1
  refine xe02 J fun zq72 zq73 => ?_
  try clear J
  subst zq72
  refine holdP ?_;intro G;rcases zq73 with ⟨⟨l,tl,m1,h1,h2⟩,_⟩;unfold G;clear G
  refine Mid.mk' (Same.trans qq₄ q₂) F₂ O₂ ⟨rfl,l,tl,m1,by lia,h2⟩
 refine xe02 J₃ fun zq74 zq75 => ?_
 try clear J₃
 subst zq74
 refine xe23 zq75 fun l t m1 h1 h2 => ?_
 try clear zq75
 have qq₃:=Same.trans qB q₃
 refine xH ?_;intro _ _
 walk1
 first | refine xN ?_ | walk1
 exact Ends.mk' qq₃ F₃ O₃ ⟨rfl,l,t,rfl,h1,h2⟩
inductive ResW (al ac : List Nat → Prop) : List (List Nat × Nat) → Option (List Nat) → Prop
 | nil : ResW al ac [] none
 | skip {w b es r} : (∀ n,b ≤ n → ¬ al (w ++ [n])) → ResW al ac es r → ResW al ac ((w,b) :: es) r
 | hit {w b es n} : b ≤ n → al (w ++ [n]) → (∀ j,b ≤ j → j < n → ¬ al (w ++ [j])) → ac (w ++ [n]) → ResW al ac ((w,b) :: es) (some (w ++ [n]))
 | push {w b es n r} : b ≤ n → al (w ++ [n]) → (∀ j,b ≤ j → j < n → ¬ al (w ++ [j])) → ¬ ac (w ++ [n]) → ResW al ac ((w ++ [n],0) :: es) r → ResW al ac ((w,b) :: es) r
theorem least_eq {P : Nat → Prop} {b n n' : Nat} (h1 : b ≤ n) (h2 : P n) (h3 : ∀ j,b ≤ j → j < n → ¬ P j) (k1 : b ≤ n') (k2 : P n') (k3 : ∀ j,b ≤ j → j < n' → ¬ P j) : n = n':=by
 rcases Nat.lt_trichotomy n n' with h | h | h
 ·exact absurd h2 (k3 _ h1 h)
 ·exact h
 exact absurd k2 (h3 _ k1 h)
theorem ResW.det {al ac : List Nat → Prop} {es : List (List Nat × Nat)} {r r' : Option (List Nat)} (h : ResW al ac es r) (h' : ResW al ac es r') : r = r':=by
 induction h generalizing r' with
 | nil => cases h';rfl
 | skip h1 _ ih =>
  cases h' with
  | skip _ h => exact ih h
  | hit h2 h3 _ _ => exact absurd h3 (h1 _ h2)
  | push h2 h3 _ _ _ => exact absurd h3 (h1 _ h2)
 | @hit w b es n h1 h2 h3 h4 =>
  cases h' with
  | skip h _ => exact absurd h2 (h _ h1)
  | hit k1 k2 k3 k4 => rw [least_eq (P:=fun n => al (w ++ [n])) h1 h2 h3 k1 k2 k3]
  | push k1 k2 k3 k4 k5 =>
   have:=least_eq (P:=fun n => al (w ++ [n])) h1 h2 h3 k1 k2 k3
   subst this;exact absurd h4 k4
 | @push w b es n r h1 h2 h3 h4 _ ih =>
  cases h' with
  | skip h _ => exact absurd h2 (h _ h1)
  | hit k1 k2 k3 k4 =>
   have:=least_eq (P:=fun n => al (w ++ [n])) h1 h2 h3 k1 k2 k3
   subst this;exact absurd k4 h4
  | push k1 k2 k3 k4 k5 =>
   have:=least_eq (P:=fun n => al (w ++ [n])) h1 h2 h3 k1 k2 k3
   subst this;exact ih k5
noncomputable def fwdW (u : List Nat) : Nat → List (List Nat × Nat)
 | 0 => []
 | j + 1 => (u.take j,u.getD j 0 + 1) :: fwdW u j
noncomputable def Wd (al ac : List Nat → Prop) (u : List Nat) (r : Option (List Nat)) : Prop:=(ac u ∧ r = some u) ∨ (¬ ac u ∧ ResW al ac ((u,0) :: fwdW u u.length) r)
theorem Wd.det {al ac : List Nat → Prop} {u : List Nat} {r r' : Option (List Nat)} (h : Wd al ac u r) (h' : Wd al ac u r') : r = r':=by
 rcases h with ⟨h1,h2⟩ | ⟨h1,h2⟩ <;> rcases h' with ⟨k1,k2⟩ | ⟨k1,k2⟩
 ·rw [h2,k2]
 ·exact absurd h1 k1
 ·exact absurd k1 h1
 exact h2.det k2
theorem ResW.acc {al ac : List Nat → Prop} {es : List (List Nat × Nat)} {r : Option (List Nat)} (h : ResW al ac es r) : ∀ l,r = some l → ac l:=by
 induction h with
 | nil => intro l e;cases e
 | skip _ _ ih => exact ih
 | hit _ _ _ h4 => intro l e;cases e;exact h4
 | push _ _ _ _ _ ih => exact ih
theorem Wd.acc {al ac : List Nat → Prop} {u l : List Nat} (h : Wd al ac u (some l)) : ac l:=by
 rcases h with ⟨h1,h2⟩ | ⟨h1,h2⟩
 ·cases h2;exact h1
 exact h2.acc l rfl
theorem Wd.iff {al ac : List Nat → Prop} {u : List Nat} {r : Option (List Nat)} (h : Wd al ac u r) : r = some u ↔ ac u:=by
 refine ⟨fun e => Wd.acc (e ▸ h),fun e => ?_⟩
 rcases h with ⟨_,h2⟩ | ⟨h1,_⟩
 ·exact h2
 exact absurd e h1
theorem ResW.tells {al ac : List Nat → Prop} (hext : ∀ w,al w → ac w ∨ ∃ n,al (w ++ [n])) {es : List (List Nat × Nat)} {r : Option (List Nat)} (h : ResW al ac es r) : ∀ w es',es = (w,0) :: es' → al w → ¬ ac w → r ≠ none:=by
 induction h with
 | nil => intro w es' e;cases e
 | skip h1 _ _ =>
  intro w es' e hal hac
  cases e
  rcases hext _ hal with h | ⟨n,h⟩
  ·exact absurd h hac
  exact absurd h (h1 n (Nat.zero_le _))
 | hit => intro w es' e hal hac z;cases z
 | push h1 h2 h3 h4 _ ih =>
  intro w es' e hal hac
  cases e
  exact ih _ _ rfl h2 h4
theorem resG_W {tm : List Nat} {k : Nat} {es : List (List Nat × List Int × Nat)} {r : Option (List Nat)} (h : ResG (rnx tm k) (rfin k) es r) (he : ∀ e ∈ es,e.2.1 = rowOf tm e.1) :
  ResW (fun w => fits k (rowOf tm w) = true) (fun w => rfin k (rowOf tm w)) (es.map fun e => (e.1,e.2.2)) r:=by
 have some_of : ∀ {q : List Int} {n : Nat} {q' : List Int},rnx tm k q n = some q' → fits k (rowStep tm q n) = true ∧ q' = rowStep tm q n:=fun {q n q'} h => by
  unfold rnx at h
  split at h
  ·rename_i h1;cases h;exact ⟨h1,rfl⟩
  cases h
 induction h with
 | nil => exact .nil
 | @skip w q b es r h1 _ ih =>
  have hq:=he _ (.head _)
  refine .skip (fun n hn => ?_) (ih fun e h => he e (.tail _ h))
  have:=rnx_none.mp (h1 n hn)
  rw [rowOf_snoc,← hq,this];simp
 | @hit w q b es n q' h1 h2 h3 h4 =>
  have hq : q = rowOf tm w:=he _ (.head _)
  subst hq
  refine xe02 (some_of h2) fun k1 k2 => ?_
  refine .hit h1 (by rw [rowOf_snoc];exact k1) (fun j a b => ?_) (by rw [rowOf_snoc,← k2];exact h4)
  rw [rowOf_snoc,rnx_none.mp (h3 j a b)];simp
 | @push w q b es n q' r h1 h2 h3 h4 _ ih =>
  have hq : q = rowOf tm w:=he _ (.head _)
  subst hq
  refine xe02 (some_of h2) fun k1 k2 => ?_
  refine .push h1 (by rw [rowOf_snoc];exact k1) (fun j a b => ?_) (by rw [rowOf_snoc,← k2];exact h4) (ih fun e h => ?_)
  ·rw [rowOf_snoc,rnx_none.mp (h3 j a b)];simp
  rcases List.mem_cons.mp h with rfl | h
  ·show q' = _;rw [rowOf_snoc];exact k2
  exact he e (.tail _ h)
noncomputable abbrev alR (tm : List Nat) (k : Nat) (w : List Nat) : Prop:=fits k (rowOf tm w) = true
noncomputable abbrev acR (tm : List Nat) (k : Nat) (w : List Nat) : Prop:=rfin k (rowOf tm w)
theorem rest_map (tm u : List Nat) : ∀ j,j ≤ u.length → (rest tm u j).map (fun e => (e.1,e.2.2)) = fwdW u j
 | 0,_ => rfl
 | j + 1,h => by
  rw [rest_succ,List.map_cons,rest_map tm u j (by exact xs88 ‹_›)]
  show (u.take j,if j < u.length then _ else _) :: _ = _
  rw [if_pos ‹_›];rfl
theorem ll_W {tm : List Nat} {k : Nat} {u : List Nat} {r : Option (List Nat)} (h : LL tm k u r) : Wd (alR tm k) (acR tm k) u r:=by
 rcases h with h | ⟨h1,h2⟩
 ·exact .inl h
 refine .inr ⟨h1,?_⟩
 have:=resG_W h2 fun e he => by
  refine xe12 (List.mem_map.mp he) fun j _ zq1 => ?_
  subst zq1
  rfl
 rw [rest_succ,List.map_cons,rest_map _ _ _ (Nat.le_refl _)] at this
 have e : ((ent tm u u.length).1,(ent tm u u.length).2.2) = (u,0):=by
  show (u.take u.length,if u.length < u.length then _ else 0) = _
  rw [if_neg (Nat.lt_irrefl _),List.take_length]
 rw [e] at this
 exact this
noncomputable def alD (M : Dfa) (w : List Nat) : Prop:=runD M w ≠ none
noncomputable def acD (M : Dfa) (w : List Nat) : Prop:=∃ q,runD M w = some q ∧ M.fin q
theorem res_W {M : Dfa} {es : List Ent} {r : Option (List Nat)} (h : Res M es r) (he : ∀ e ∈ es,runD M e.1 = some e.2.1) : ResW (alD M) (acD M) (es.map fun e => (e.1,low e.2.2)) r:=by
 have stp : ∀ {w : List Nat} {q : Qs} {n : Nat},runD M w = some q → runD M (w ++ [n]) = M.nx q (ch n):=fun {w q n} h => by rw [runD_snoc,h];rfl
 induction h with
 | nil => exact .nil
 | @skip w q b es r h1 _ ih =>
  have hq:=he _ (.head _)
  refine .skip (fun n hn => ?_) (ih fun e h => he e (.tail _ h))
  unfold alD
  rw [stp hq,h1 n hn];simp
 | @hit w q b es n q' h1 h2 h3 h4 =>
  have hq:=he _ (.head _)
  refine .hit h1 ?_ (fun j a b => ?_) ⟨q',by rw [stp hq,h2],h4⟩
  ·unfold alD;rw [stp hq,h2];simp
  unfold alD;rw [stp hq,h3 j a b];simp
 | @push w q b es n q' r h1 h2 h3 h4 _ ih =>
  have hq:=he _ (.head _)
  refine .push h1 ?_ (fun j a b => ?_) ?_ (ih fun e h => ?_)
  ·unfold alD;rw [stp hq,h2];simp
  ·unfold alD;rw [stp hq,h3 j a b];simp
  ·intro zq2
   refine xe12 zq2 fun q2 h5 h6 => ?_
   try clear zq2
   rw [stp hq,h2] at h5;cases h5;exact h4 h6
  rcases List.mem_cons.mp h with rfl | h
  ·show runD M (w ++ [n]) = some q';rw [stp hq,h2]
  exact he e (.tail _ h)
theorem fwd_map (M : Dfa) (u : List Nat) : ∀ j,(fwd M u j).map (fun e => (e.1,low e.2.2)) = fwdW u j
 | 0 => rfl
 | j + 1 => by
  show (_,_) :: _ = _
  rw [fwd_map M u j];rfl
theorem fwdW_dead {al ac : List Nat → Prop} {u : List Nat} {r : Option (List Nat)} {i : Nat} (h : ResW al ac (fwdW u i) r) (hd : ∀ j n,i ≤ j → ¬ al (u.take j ++ [n])) : ∀ d,ResW al ac (fwdW u (i + d)) r
 | 0 => h
 | d + 1 => .skip (fun n _ => hd _ n (Nat.le_add_right ..)) (fwdW_dead h hd d)
theorem runD_take {M : Dfa} {u : List Nat} {i : Nat} (h : runD M (u.take i) = none) {j : Nat} (hj : i ≤ j) : runD M (u.take j) = none:=by
 refine runD_dead (i:=i) ?_
 rw [List.take_take,Nat.min_eq_left hj];exact h
theorem nv_W {M : Dfa} {u : List Nat} {r : Option (List Nat)} (h : NV M u r) : Wd (alD M) (acD M) u r:=by
 have live : ∀ i,i ≤ u.length → (∀ j,j < i → runD M (u.take j) ≠ none) → ∀ e ∈ fwd M u i,runD M e.1 = some e.2.1:=fun i => by
  induction i with
  | zero => intro _ _ e he;cases he
  | succ i ih =>
   intro hi h e he
   rcases List.mem_cons.mp he with rfl | he
   ·show runD M (u.take i) = some ((runD M (u.take i)).getD [])
    cases q : runD M (u.take i) with
    | none => exact absurd q (h i (Nat.lt_succ_self i))
    | some _ => rfl
   exact ih (by exact xs88 ‹_›) (fun j hj => h j (by exact xs91b ‹_›)) e he
 rcases h with ⟨q,h1,h2,rfl⟩ | ⟨q,h1,h2,h3⟩ | ⟨i,h1,h2,h3,h4⟩
 ·exact .inl ⟨⟨q,h1,h2⟩,rfl⟩
 ·refine .inr ⟨?_,?_⟩
  ·intro zq3
   refine xe12 zq3 fun q' e1 e2 => ?_
   try clear zq3
   rw [h1] at e1;cases e1;exact h2 e2
  have:=res_W h3 fun e he => by
   rcases List.mem_cons.mp he with rfl | he
   ·exact h1
   exact live _ (Nat.le_refl _) (fun j hj => run_live (i:=u.length) (by rw [List.take_length,h1];simp) (Nat.le_of_lt hj)) e he
  rw [List.map_cons,fwd_map] at this
  exact this
 have hdead : ∀ j,i + 1 ≤ j → runD M (u.take j) = none:=fun j hj => runD_take h3 hj
 have hu : runD M u = none:=by
  have:=hdead u.length h1
  rwa [List.take_length] at this
 have snoc : ∀ {w : List Nat} {n : Nat},runD M w = none → ¬ alD M (w ++ [n]):=fun {w n} h z => z (by rw [runD_snoc,h];rfl)
 refine .inr ⟨?_,.skip (fun n _ => snoc hu) ?_⟩
 ·intro zq4
  refine xe12 zq4 fun q' e1 e2 => ?_
  try clear zq4
  rw [hu] at e1;cases e1
 have:=res_W h4 (live _ h1 fun j hj => run_live h2 (by exact xs15 ‹_›))
 rw [fwd_map] at this
 have:=fwdW_dead this (fun j n hj => snoc (hdead j hj)) (u.length - (i + 1))
 rw [Nat.add_sub_cancel' h1] at this
 exact this
theorem last_getD {xs : List Int} {m : Nat} (h : xs.length = m + 1) : xs.getLastD 0 = xs.getD m 0:=by
 rw [List.getLastD_eq_getLast?,List.getLast?_eq_getElem?,h,Nat.add_sub_cancel,List.getD_eq_getElem?_getD]
theorem fits_get {tm u : List Nat} {k : Nat} : fits k (rowOf tm u) = true ↔ ∃ i,i ≤ tm.length ∧ (rowOf tm u).getD i 0 ≤ (k : Int):=by
 rw [fits_iff]
 constructor
 ·intro zq8
  refine xe12 zq8 fun x hx hk => ?_
  try clear zq8
  refine xe11 (List.mem_iff_getElem?.mp hx) fun i hi => ?_
  have hil:=(List.getElem?_eq_some_iff.mp hi).1
  rw [rowOf_len] at hil
  exact ⟨i,by exact xs15 ‹_›,by rw [List.getD_eq_getElem?_getD,hi];exact hk⟩
 intro zq9
 refine xe12 zq9 fun i hi hk => ?_
 try clear zq9
 have hil : i < (rowOf tm u).length:=by rw [rowOf_len];exact xs91 ‹_›
 rw [List.getD_eq_getElem?_getD,List.getElem?_eq_getElem hil] at hk
 exact ⟨_,List.getElem_mem hil,hk⟩
theorem row0_get {n i : Nat} (h : i ≤ n) : (row0 n).getD i 0 = (i : Int):=by
 unfold row0
 rw [List.getD_eq_getElem?_getD,List.getElem?_map,List.getElem?_range (by exact xs91 ‹_›)]
 rfl
theorem rowOf_nil (tm : List Nat) : rowOf tm [] = row0 tm.length:=rfl
theorem acR_get {tm u : List Nat} {k : Nat} : acR tm k u ↔ (rowOf tm u).getD tm.length 0 ≤ (k : Int):=by
 show (rowOf tm u).getLastD 0 ≤ _ ↔ _
 rw [last_getD (rowOf_len tm u)]
theorem alR_nil (tm : List Nat) (k : Nat) : alR tm k []:=fits_get.mpr ⟨0,Nat.zero_le _,by rw [rowOf_nil,row0_get (Nat.zero_le _)];lia⟩
theorem row_ext (tm : List Nat) (k : Nat) (w : List Nat) (h : alR tm k w) : acR tm k w ∨ ∃ n,alR tm k (w ++ [n]):=by
 refine xe12 (fits_get.mp h) fun i hi hk => ?_
 by_cases hin : i = tm.length
 ·subst hin;exact .inl (acR_get.mpr hk)
 refine .inr ⟨tm.getD i 0,fits_get.mpr ⟨i + 1,by exact xs46 ‹_› ‹_›,?_⟩⟩
 rw [rowOf_snoc,step_succ _ _ _ _ (by exact xs46 ‹_› ‹_›),if_pos rfl]
 exact Int.le_trans min3_le.2.2 (by rw [Int.add_zero];exact hk)
theorem ResW.live {al ac : List Nat → Prop} {es : List (List Nat × Nat)} {r : Option (List Nat)} (h : ResW al ac es r) : ∀ l,r = some l → al l:=by
 induction h with
 | nil => intro l e;cases e
 | skip _ _ ih => exact ih
 | hit _ h2 _ _ => intro l e;cases e;exact h2
 | push _ _ _ _ _ ih => exact ih
theorem ll_len {tm : List Nat} {k : Nat} {u l : List Nat} (h : LL tm k u (some l)) (htm : tm.length ≤ 4) (hk : k ≤ 2) (hu : u.length ≤ 10) : l.length ≤ 100:=by
 rcases ll_W h with ⟨_,h2⟩ | ⟨_,h2⟩
 ·cases h2;lia
 have:=fits_len (h2.live l rfl)
 lia
theorem ll_some {tm : List Nat} {k : Nat} {r : Option (List Nat)} (h : LL tm k [] r) : r ≠ none:=by
 rcases ll_W h with ⟨_,rfl⟩ | ⟨h1,h2⟩
 ·simp
 exact h2.tells (row_ext tm k) [] _ rfl (alR_nil tm k) h1
theorem st2_inj {i e i' e' : Nat} : st2 i e = st2 i' e' ↔ i = i' ∧ e = e':=by
 simp only [st2,List.cons.injEq,and_true]
 exact xs58
theorem ch_any (c : Nat) : ch c ≠ anyS:=fun h => by
 have:=congrArg (fun s : Str => s.cps.size) h
 exact absurd this (by show (1 : Nat) ≠ _;decide)
theorem ch_eps (c : Nat) : ch c ≠ eps:=fun h => by
 have:=congrArg (fun s : Str => s.cps.size) h
 exact absurd this (by show (1 : Nat) ≠ _;decide)
theorem any_eps : anyS ≠ eps:=by decide
theorem ch_inj {a b : Nat} (h : ch a = ch b) : a = b:=by
 have:=congrArg (fun s : Str => s.cps.toList) h
 simpa using this
theorem tr_iff {tm : List Nat} {k p : Nat} {a d : St} {l : Str} (hp : p ≤ tm.length) : (levN tm k p).tr a l d ↔
  (∃ i,i < p ∧ a = st2 i 0 ∧ l = ch (tm.getD i 0) ∧ d = st2 (i + 1) 0) ∨
  (∃ i e,p ≤ i ∧ i < tm.length ∧ e ≤ k ∧ a = st2 i e ∧ ((l = ch (tm.getD i 0) ∧ d = st2 (i + 1) e) ∨ (e < k ∧ ((l = anyS ∧ d = st2 i (e + 1)) ∨ (l = eps ∧ d = st2 (i + 1) (e + 1)) ∨ (l = anyS ∧ d = st2 (i + 1) (e + 1)))))) ∨
  (∃ e,e < k ∧ a = st2 tm.length e ∧ l = anyS ∧ d = st2 tm.length (e + 1)):=by
 show (a,l,d) ∈ levP tm p ++ levM tm k p (tm.length - p) ++ levF tm.length k (k + 1) ↔ _
 rw [List.mem_append,List.mem_append,or_assoc]
 refine or_congr ?_ (or_congr ?_ ?_)
 ·unfold levP
  rw [List.mem_map]
  constructor
  ·intro zq10
   refine xe12 zq10 fun i hi e => ?_
   try clear zq10
   cases e
   exact ⟨i,List.mem_range.mp hi,rfl,rfl,rfl⟩
  intro zq11
  refine xe14 zq11 fun i hi zq106 zq107 zq108 => ?_
  try clear zq11
  subst zq106
  subst zq107
  subst zq108
  exact ⟨i,List.mem_range.mpr hi,rfl⟩
 ·unfold levM levC levE
  simp only [List.mem_flatMap,List.mem_range,List.mem_cons]
  constructor
  ·rintro ⟨i,hi,e,he,h | h⟩
   ·cases h
    exact ⟨p + i,e,by lia,by exact xs16 ‹_›,by exact xs15 ‹_›,rfl,.inl ⟨rfl,rfl⟩⟩
   split at h
   ·rename_i hek
    simp only [List.mem_cons,List.not_mem_nil,or_false] at h
    rcases h with h | h | h <;> cases h
    ·exact ⟨p + i,e,by lia,by exact xs16 ‹_›,by exact xs88 ‹_›,rfl,.inr ⟨hek,.inl ⟨rfl,rfl⟩⟩⟩
    ·exact ⟨p + i,e,by lia,by exact xs16 ‹_›,by exact xs88 ‹_›,rfl,.inr ⟨hek,.inr (.inl ⟨rfl,rfl⟩)⟩⟩
    exact ⟨p + i,e,by lia,by exact xs16 ‹_›,by exact xs88 ‹_›,rfl,.inr ⟨hek,.inr (.inr ⟨rfl,rfl⟩)⟩⟩
   cases h
  intro zq12
  refine xe25 zq12 fun i e h1 h2 h3 zq109 h => ?_
  try clear zq12
  subst zq109
  refine ⟨i - p,by exact xs31 ‹_› ‹_›,e,by exact xs91 ‹_›,?_⟩
  have hip : p + (i - p) = i:=by exact xs11 ‹_›
  rw [hip]
  rcases h with ⟨rfl,rfl⟩ | ⟨hek,h⟩
  ·exact .inl rfl
  refine .inr ?_
  rw [if_pos hek]
  rcases h with ⟨rfl,rfl⟩ | ⟨rfl,rfl⟩ | ⟨rfl,rfl⟩ <;> simp
 unfold levF
 simp only [List.mem_flatMap,List.mem_range]
 constructor
 ·intro zq13
  refine xe12 zq13 fun e he h => ?_
  try clear zq13
  split at h
  ·rename_i hek
   simp only [List.mem_singleton] at h
   cases h
   exact ⟨e,hek,rfl,rfl,rfl⟩
  cases h
 intro zq14
 refine xe14 zq14 fun e he zq110 zq111 zq112 => ?_
 try clear zq14
 subst zq110
 subst zq111
 subst zq112
 exact ⟨e,by exact xs91b ‹_›,by rw [if_pos he];simp⟩
theorem lev_one (tm : List Nat) (k p : Nat) (hp : p ≤ tm.length) : ∀ a d d',(levN tm k p).tr a eps d → (levN tm k p).tr a eps d' → d = d':=by
 have one : ∀ {a d},(levN tm k p).tr a eps d → ∃ i e,a = st2 i e ∧ d = st2 (i + 1) (e + 1):=fun {a d} h => by
  rcases (tr_iff hp).mp h with ⟨i,_,_,h,_⟩ | ⟨i,e,_,_,_,rfl,⟨h,_⟩ | ⟨_,⟨h,_⟩ | ⟨_,rfl⟩ | ⟨h,_⟩⟩⟩ | ⟨e,_,_,h,_⟩
  ·exact absurd h.symm (ch_eps _)
  ·exact absurd h.symm (ch_eps _)
  ·exact absurd h.symm any_eps
  ·exact ⟨i,e,rfl,rfl⟩
  ·exact absurd h.symm any_eps
  exact absurd h.symm any_eps
 intro a d d' h h'
 refine xe22 (one h) fun i e zq1 zq2 => ?_
 subst zq1
 subst zq2
 refine xe22 (one h') fun i' e' h2 zq3 => ?_
 subst zq3
 refine xe02 (st2_inj.mp h2) fun zq4 zq5 => ?_
 subst zq4
 subst zq5
 rfl
theorem lev_trU {tm : List Nat} {k p : Nat} (hp : p ≤ tm.length) {a d : St} {l : Str} (h : (levN tm k p).tr a l d) : d ∈ (levN tm k p).U:=by
 rcases (tr_iff hp).mp h with ⟨i,h1,_,_,rfl⟩ | ⟨i,e,_,h2,h3,rfl,⟨_,rfl⟩ | ⟨h4,⟨_,rfl⟩ | ⟨_,rfl⟩ | ⟨_,rfl⟩⟩⟩ | ⟨e,h1,_,_,rfl⟩
 all_goals exact mem_levU (by (first | assumption | exact xs80 ‹_› ‹_› | exact xs88 ‹_› | lia)) (by (first | assumption | lia))
theorem lev_srt (tm : List Nat) (k p : Nat) : Srt (levN tm k p).U:=by
 show (levU tm.length k).Pairwise _
 unfold levU
 rw [List.pairwise_flatMap]
 refine ⟨fun i _ => ?_,?_⟩
 ·rw [List.pairwise_map]
  refine List.pairwise_lt_range.imp fun {a b} h => ?_
  simp [st2,lexLt]
  lia
 refine List.pairwise_lt_range.imp fun {a b} h x hx y hy => ?_
 refine xe12 (List.mem_map.mp hx) fun e _ zq6 => ?_
 subst zq6
 refine xe12 (List.mem_map.mp hy) fun e' _ zq7 => ?_
 subst zq7
 show (if (a : Int) = b then _ else decide ((a : Int) < b)) = true
 rw [if_neg (by lia)]
 exact decide_eq_true (by lia)
theorem lev_U10 (tm : List Nat) (k p : Nat) (h4 : tm.length ≤ 4) (hk : k ≤ 2) (h2 : k = 2 → tm.length ≤ 2) : (levN tm k p).U.length ≤ 10:=by
 show (levU tm.length k).length ≤ 10
 have h1 : tm.length = 0 ∨ tm.length = 1 ∨ tm.length = 2 ∨ tm.length = 3 ∨ tm.length = 4:=by exact xs40 ‹_›
 have h2' : k = 0 ∨ k = 1 ∨ k = 2:=by lia
 rcases h2' with rfl | rfl | rfl
 ·rcases h1 with h | h | h | h | h <;> rw [h] <;> decide
 ·rcases h1 with h | h | h | h | h <;> rw [h] <;> decide
 have:=h2 rfl
 have h3 : tm.length = 0 ∨ tm.length = 1 ∨ tm.length = 2:=by lia
 rcases h3 with h | h | h <;> rw [h] <;> decide
theorem qOf_mem {U : Qs} {P : St → Prop} (hU : Srt U) (hP : ∀ s,P s → s ∈ U) : Srt (qOf P) ∧ ∀ s,s ∈ qOf P ↔ P s:=by
 classical
 have h1 : Srt (U.filter fun s => decide (P s)):=List.Pairwise.filter _ hU
 have h2 : ∀ s,s ∈ U.filter (fun s => decide (P s)) ↔ P s:=fun s => by
  rw [List.mem_filter,decide_eq_true_eq]
  exact ⟨fun h => h.2,fun h => ⟨hP s h,h⟩⟩
 rw [qOf_eq h1 h2]
 exact ⟨h1,h2⟩
theorem clo_in {tr : St → Str → St → Prop} {U : Qs} {P : St → Prop} (htr : ∀ a l d,tr a l d → d ∈ U) (hP : ∀ s,P s → s ∈ U) : ∀ s,Clo tr P s → s ∈ U:=fun s h => by
 induction h with
 | base h => exact hP _ h
 | step _ h2 _ => exact htr _ _ _ h2
section
variable {tm : List Nat} {k p : Nat} (hp : p ≤ tm.length)
noncomputable def nxt (tm : List Nat) (k p : Nat) (q : Qs) (c : Nat) (d : St) : Prop:=∃ a ∈ q,(levN tm k p).tr a (ch c) d ∨ (levN tm k p).tr a anyS d
include hp
theorem run_nil : Srt (runN (levN tm k p) []) ∧ ∀ s,s ∈ runN (levN tm k p) [] ↔ Clo (levN tm k p).tr (· = st2 0 0) s :=
 qOf_mem (lev_srt tm k p) (clo_in (fun _ _ _ => lev_trU hp) fun s h => by subst h;exact mem_levU (Nat.zero_le _) (Nat.zero_le _))
theorem nq_mem (q : Qs) (l : Str) : Srt (nq (levN tm k p) q l) ∧ ∀ s,s ∈ nq (levN tm k p) q l ↔ Clo (levN tm k p).tr (fun d => ∃ a ∈ q,(levN tm k p).tr a l d ∨ (levN tm k p).tr a anyS d) s :=
 qOf_mem (lev_srt tm k p) (clo_in (fun _ _ _ => lev_trU hp) fun s h => by
  obtain ⟨a,_,h | h⟩:=h <;> exact lev_trU hp h)
theorem run_snoc (w : List Nat) (c : Nat) : ∀ s,s ∈ runN (levN tm k p) (w ++ [c]) ↔ Clo (levN tm k p).tr (nxt tm k p (runN (levN tm k p) w) c) s:=by
 rw [runN_snoc]
 exact (nq_mem hp _ _).2
theorem run_srt (w : List Nat) : Srt (runN (levN tm k p) w) ∧ ∀ s ∈ runN (levN tm k p) w,s ∈ (levN tm k p).U:=by
 rcases List.eq_nil_or_concat w with rfl | ⟨w',c,rfl⟩
 ·refine ⟨(run_nil hp).1,fun s hs => ?_⟩
  exact clo_in (fun _ _ _ => lev_trU hp) (fun s h => by subst h;exact mem_levU (Nat.zero_le _) (Nat.zero_le _)) s (((run_nil hp).2 s).mp hs)
 rw [List.concat_eq_append,runN_snoc]
 refine ⟨(nq_mem hp _ _).1,fun s hs => ?_⟩
 exact clo_in (fun _ _ _ => lev_trU hp) (fun s h => by
  obtain ⟨a,_,h | h⟩:=h <;> exact lev_trU hp h) s (((nq_mem hp _ _).2 s).mp hs)
theorem eps_from {i e : Nat} {d : St} (h : (levN tm k p).tr (st2 i e) eps d) : p ≤ i ∧ i < tm.length ∧ e < k ∧ d = st2 (i + 1) (e + 1):=by
 rcases (tr_iff hp).mp h with ⟨i',_,_,h,_⟩ | ⟨i',e',h1,h2,h3,h4,⟨h,_⟩ | ⟨h5,⟨h,_⟩ | ⟨_,rfl⟩ | ⟨h,_⟩⟩⟩ | ⟨e',_,_,h,_⟩
 ·exact absurd h.symm (ch_eps _)
 ·exact absurd h.symm (ch_eps _)
 ·exact absurd h.symm any_eps
 ·refine xe02 (st2_inj.mp h4) fun zq1 zq2 => ?_
  subst zq1
  subst zq2
  exact ⟨h1,h2,h5,rfl⟩
 ·exact absurd h.symm any_eps
 exact absurd h.symm any_eps
theorem clo_low {P : St → Prop} {i : Nat} (hi : i < p) (hP : ∀ s,P s ↔ s = st2 i 0) : ∀ s,Clo (levN tm k p).tr P s ↔ s = st2 i 0:=fun s => by
 refine ⟨fun h => ?_,fun h => .base ((hP s).mpr h)⟩
 induction h with
 | base h => exact (hP _).mp h
 | step _ h2 ih =>
  subst ih
  have:=(eps_from hp h2).1
  lia
noncomputable def Sound (tm : List Nat) (k p : Nat) (S : St → Prop) (row : List Int) : Prop:=∀ s,S s → ∃ i e : Nat,s = st2 (p + i) e ∧ p + i ≤ tm.length ∧ e ≤ k ∧ row.getD i 0 ≤ (e : Int)
noncomputable def Compl (tm : List Nat) (k p : Nat) (S : St → Prop) (row : List Int) : Prop:=∀ i,p + i ≤ tm.length → row.getD i 0 ≤ (k : Int) → ∃ e : Nat,(e : Int) = row.getD i 0 ∧ S (st2 (p + i) e)
theorem drop_len : (tm.drop p).length = tm.length - p:=List.length_drop
theorem drop_get (i : Nat) : (tm.drop p).getD i 0 = tm.getD (p + i) 0:=by
 rw [List.getD_eq_getElem?_getD,List.getD_eq_getElem?_getD,List.getElem?_drop]
theorem clo0 {P : St → Prop} (hP : ∀ s,P s ↔ s = st2 p 0) : Sound tm k p (Clo (levN tm k p).tr P) (rowOf (tm.drop p) []) ∧ Compl tm k p (Clo (levN tm k p).tr P) (rowOf (tm.drop p) []):=by
 rw [rowOf_nil,drop_len hp]
 refine ⟨fun s h => ?_,fun i hi hk => ?_⟩
 ·have : ∃ i,s = st2 (p + i) i ∧ p + i ≤ tm.length ∧ i ≤ k:=by
   induction h with
   | base h => exact ⟨0,(hP _).mp h,hp,Nat.zero_le _⟩
   | step _ h2 ih =>
    refine xe13 ih fun i zq3 h3 h4 => ?_
    try clear ih
    subst zq3
    refine xe04 (eps_from hp h2) fun h5 h6 h7 zq4 => ?_
    subst zq4
    exact ⟨i + 1,rfl,by assumption,by assumption⟩
  refine xe13 this fun i zq5 h3 h4 => ?_
  try clear this
  subst zq5
  exact ⟨i,i,rfl,h3,h4,by rw [row0_get (by lia)];lia⟩
 rw [row0_get (by lia)] at hk ⊢
 refine ⟨i,rfl,?_⟩
 have : ∀ j,j ≤ i → Clo (levN tm k p).tr P (st2 (p + j) j):=fun j => by
  induction j with
  | zero => intro _;exact .base ((hP _).mpr rfl)
  | succ j ih =>
   intro hj
   exact .step (ih (by exact xs88 ‹_›)) ((tr_iff hp).mpr (.inr (.inl ⟨p + j,j,by lia,by lia,by lia,rfl,.inr ⟨by lia,.inr (.inl ⟨rfl,rfl⟩)⟩⟩)))
 exact this i (Nat.le_refl _)
theorem step_keep {q : Qs} {row : List Int} {c : Nat} (h1 : Sound tm k p (· ∈ q) row) (h2 : Compl tm k p (· ∈ q) row) :
  Sound tm k p (Clo (levN tm k p).tr (nxt tm k p q c)) (rowStep (tm.drop p) row c) ∧ Compl tm k p (Clo (levN tm k p).tr (nxt tm k p q c)) (rowStep (tm.drop p) row c):=by
 have hl:=drop_len hp
 have z:=step_zero (tm.drop p) row c
 have su : ∀ i,p + i < tm.length → (rowStep (tm.drop p) row c).getD (i + 1) 0 = min (min ((rowStep (tm.drop p) row c).getD i 0 + 1) (row.getD (i + 1) 0 + 1)) (row.getD i 0 + if tm.getD (p + i) 0 = c then 0 else 1):=fun i hi => by
  rw [step_succ _ _ _ _ (by exact xs16c ‹_› ‹_›),drop_get hp]
 generalize rowStep (tm.drop p) row c = row' at z su ⊢
 have stay : ∀ i,p + i ≤ tm.length → row'.getD i 0 ≤ row.getD i 0 + 1:=fun i hi => by
  cases i with
  | zero => rw [z];exact Int.le_refl _
  | succ i => rw [su i ‹_›];exact min3_le.2.1
 have su' : ∀ i,p + i < tm.length → row'.getD (i + 1) 0 ≤ row'.getD i 0 + 1 ∧ row'.getD (i + 1) 0 ≤ row.getD (i + 1) 0 + 1 ∧ row'.getD (i + 1) 0 ≤ row.getD i 0 + if tm.getD (p + i) 0 = c then 0 else 1:=fun i h => by rw [su i h];exact min3_le
 refine ⟨fun s h => ?_,fun i => ?_⟩
 ·induction h with
  | @base d h =>
   refine xe12 h fun a ha _ => ?_
   clear h
   rename_i h
   refine xe24 (h1 a ha) fun i e zq6 h3 h4 h5 => ?_
   subst zq6
   have hh : ∃ l,(l = ch c ∨ l = anyS) ∧ (levN tm k p).tr (st2 (p + i) e) l d:=by
    rcases h with h | h
    ·exact ⟨_,.inl rfl,h⟩
    exact ⟨_,.inr rfl,h⟩
   refine xe12 hh fun l hl' h => ?_
   try clear hh
   rcases (tr_iff hp).mp h with ⟨i',hi',h6,_,_⟩ | ⟨i',e',_,h7,_,h6,h8⟩ | ⟨e',h7,h6,h8,rfl⟩
   ·refine xe02 (st2_inj.mp h6) fun h6 _ => ?_
    lia
   ·refine xe02 (st2_inj.mp h6) fun zq7 zq8 => ?_
    subst zq7
    subst zq8
    have hs:=su' i h7
    have hy:=stay i h3
    rcases h8 with ⟨h8,rfl⟩ | ⟨h9,⟨h8,rfl⟩ | ⟨h8,rfl⟩ | ⟨h8,rfl⟩⟩
    ·have hcc : tm.getD (p + i) 0 = c:=by
      rcases hl' with h10 | h10
      ·exact (ch_inj (h10.symm.trans h8)).symm
      exact absurd (h8.symm.trans h10) (ch_any _)
     rw [if_pos hcc] at hs
     exact ⟨i + 1,e,rfl,by assumption,h4,by lia⟩
    ·exact ⟨i,e + 1,rfl,h3,by assumption,by lia⟩
    ·rcases hl' with h10 | h10
     ·exact absurd (h10.symm.trans h8) (ch_eps _)
     exact absurd (h10.symm.trans h8) any_eps
    refine ⟨i + 1,e + 1,rfl,by assumption,by assumption,?_⟩
    split at hs <;> lia
   refine xe02 (st2_inj.mp h6) fun h6' zq9 => ?_
   subst zq9
   have hy:=stay i h3
   exact ⟨i,e + 1,by rw [h6'],h3,by assumption,by lia⟩
  | step _ h2 ih =>
   refine xe24 ih fun i e zq10 h3 h4 h5 => ?_
   try clear ih
   subst zq10
   refine xe04 (eps_from hp h2) fun h6 h7 h8 zq11 => ?_
   subst zq11
   have hs:=su' i h7
   exact ⟨i + 1,e + 1,rfl,by assumption,by assumption,by split at hs <;> lia⟩
 induction i with
 | zero =>
  intro hi hk
  rw [z] at hk ⊢
  refine xe12 (h2 0 hi (by lia)) fun e he hS => ?_
  refine ⟨e + 1,by lia,.base ⟨_,hS,.inr ((tr_iff hp).mpr ?_)⟩⟩
  by_cases hpn : p = tm.length
  ·exact .inr (.inr ⟨e,by lia,by rw [← hpn];rfl,rfl,by rw [← hpn];rfl⟩)
  exact .inr (.inl ⟨p,e,Nat.le_refl _,by exact xs46 ‹_› ‹_›,by lia,rfl,.inr ⟨by lia,.inl ⟨rfl,rfl⟩⟩⟩)
 | succ i ih =>
  intro hi hk
  have hs:=su i ‹_›
  have h3 : row'.getD (i + 1) 0 = row'.getD i 0 + 1 ∨ row'.getD (i + 1) 0 = row.getD (i + 1) 0 + 1 ∨ row'.getD (i + 1) 0 = row.getD i 0 + if tm.getD (p + i) 0 = c then 0 else 1:=by
   rw [hs]
   exact min3_or
  clear hs
  rcases h3 with h3 | h3 | h3
  ·refine xe12 (ih (by exact xs88 ‹_›) (by lia)) fun e he hS => ?_
   exact ⟨e + 1,by lia,.step hS ((tr_iff hp).mpr (.inr (.inl ⟨p + i,e,by lia,by assumption,by lia,rfl,.inr ⟨by lia,.inr (.inl ⟨rfl,rfl⟩)⟩⟩)))⟩
  ·refine xe12 (h2 (i + 1) hi (by lia)) fun e he hS => ?_
   refine ⟨e + 1,by lia,.base ⟨_,hS,.inr ((tr_iff hp).mpr ?_)⟩⟩
   by_cases hpn : p + (i + 1) = tm.length
   ·exact .inr (.inr ⟨e,by lia,by rw [hpn],rfl,by rw [hpn]⟩)
   exact .inr (.inl ⟨p + (i + 1),e,by lia,by exact xs46 ‹_› ‹_›,by lia,rfl,.inr ⟨by lia,.inl ⟨rfl,rfl⟩⟩⟩)
  by_cases hc : tm.getD (p + i) 0 = c
  ·rw [if_pos hc] at h3
   refine xe12 (h2 i (by exact xs88 ‹_›) (by lia)) fun e he hS => ?_
   exact ⟨e,by lia,.base ⟨_,hS,.inl ((tr_iff hp).mpr (.inr (.inl ⟨p + i,e,by lia,by assumption,by lia,rfl,.inl ⟨by rw [hc],rfl⟩⟩)))⟩⟩
  rw [if_neg hc] at h3
  refine xe12 (h2 i (by exact xs88 ‹_›) (by lia)) fun e he hS => ?_
  exact ⟨e + 1,by lia,.base ⟨_,hS,.inr ((tr_iff hp).mpr (.inr (.inl ⟨p + i,e,by lia,by assumption,by lia,rfl,.inr ⟨by lia,.inr (.inr ⟨rfl,rfl⟩)⟩⟩)))⟩⟩
end
section
variable {tm : List Nat} {k p : Nat} (hp : p ≤ tm.length)
noncomputable def InvS (tm : List Nat) (k p : Nat) (w : List Nat) : Prop :=
 (∃ b,b ≠ [] ∧ tm.take p = w ++ b ∧ ∀ s,s ∈ runN (levN tm k p) w ↔ s = st2 w.length 0) ∨
 (∃ v,w = tm.take p ++ v ∧ Sound tm k p (· ∈ runN (levN tm k p) w) (rowOf (tm.drop p) v) ∧ Compl tm k p (· ∈ runN (levN tm k p) w) (rowOf (tm.drop p) v)) ∨
 ((∀ s,s ∉ runN (levN tm k p) w) ∧ (¬ ∃ b,tm.take p = w ++ b) ∧ ¬ ∃ v,w = tm.take p ++ v)
include hp
theorem take_len : (tm.take p).length = p:=by rw [List.length_take];lia
theorem inv_run : ∀ w,InvS tm k p w:=fun w => by
 have go : ∀ n (w : List Nat),w.length = n → InvS tm k p w:=fun n => by
  induction n with
  | zero =>
   intro w hw
   obtain rfl:=List.eq_nil_of_length_eq_zero hw
   have h0:=(run_nil (k:=k) hp).2
   by_cases hp0 : p = 0
   ·subst hp0
    have hc:=clo0 (tm:=tm) (k:=k) (p:=0) (Nat.zero_le _) (P:=(· = st2 0 0)) (fun s => Iff.rfl)
    refine .inr (.inl ⟨[],rfl,fun s hs => hc.1 s ((h0 s).mp hs),fun i h1 h2 => ?_⟩)
    refine xe12 (hc.2 i h1 h2) fun e he hS => ?_
    exact ⟨e,he,(h0 _).mpr hS⟩
   refine .inl ⟨tm.take p,fun z => ?_,rfl,fun s => (h0 s).trans (clo_low hp (by lia) (fun s => Iff.rfl) s)⟩
   have:=take_len hp
   rw [z] at this
   simp at this
   lia
  | succ n ih =>
   intro w hw
   refine xe21 (?_ : ∃ w' c,w = w' ++ [c]) fun w' c zq12 => ?_
   ·rcases List.eq_nil_or_concat w with rfl | zq54
    ·simp at hw
    refine xe21 zq54 fun w' c zq178 => ?_
    try clear zq54
    subst zq178
    exact ⟨w',c,List.concat_eq_append ..⟩
   subst zq12
   have hs:=run_snoc (k:=k) hp w' c
   rcases ih w' (by simpa using hw) with zq55 | zq56 | zq57
   ·refine xe13 zq55 fun b hb hpre hS => ?_
    try clear zq55
    cases b with
    | nil => exact absurd rfl hb
    | cons c' b' =>
     have hlen:=take_len hp
     rw [hpre] at hlen
     simp at hlen
     have hget : tm.getD w'.length 0 = c':=by
      have h4 : (tm.take p)[w'.length]? = some c':=by rw [hpre];simp
      rw [List.getElem?_take] at h4
      split at h4
      ·rw [List.getD_eq_getElem?_getD,h4];rfl
      cases h4
     have hP : ∀ d,nxt tm k p (runN (levN tm k p) w') c d ↔ c = c' ∧ d = st2 (w'.length + 1) 0:=fun d => by
      constructor
      ·intro zq13
       refine xe12 zq13 fun a ha h => ?_
       try clear zq13
       obtain rfl:=(hS a).mp ha
       have hh : ∃ l,(l = ch c ∨ l = anyS) ∧ (levN tm k p).tr (st2 w'.length 0) l d:=by
        rcases h with h | h
        ·exact ⟨_,.inl rfl,h⟩
        exact ⟨_,.inr rfl,h⟩
       refine xe12 hh fun l hl' h => ?_
       try clear hh
       rcases (tr_iff hp).mp h with zq58 | zq59 | zq60
       ·refine xe14 zq58 fun i' hi' h6 h7 zq179 => ?_
        try clear zq58
        subst zq179
        refine xe02 (st2_inj.mp h6) fun zq1 _ => ?_
        subst zq1
        rcases hl' with h10 | h10
        ·have:=ch_inj (h10.symm.trans h7)
         exact ⟨this.trans hget,rfl⟩
        exact absurd (h7.symm.trans h10) (ch_any _)
       ·refine xe25 zq59 fun i' e' h7 _ _ h6 _ => ?_
        try clear zq59
        refine xe02 (st2_inj.mp h6) fun zq2 _ => ?_
        subst zq2
        lia
       refine xe14 zq60 fun e' _ h6 _ _ => ?_
       try clear zq60
       refine xe02 (st2_inj.mp h6) fun h6 _ => ?_
       lia
      intro zq14
      refine xe02 zq14 fun zq51 zq52 => ?_
      try clear zq14
      subst zq51
      subst zq52
      exact ⟨_,(hS _).mpr rfl,.inl ((tr_iff hp).mpr (.inl ⟨w'.length,by lia,rfl,by rw [hget],rfl⟩))⟩
     by_cases hcc : c = c'
     ·subst hcc
      have hP' : ∀ d,nxt tm k p (runN (levN tm k p) w') c d ↔ d = st2 (w'.length + 1) 0:=fun d => (hP d).trans ⟨fun h => h.2,fun h => ⟨rfl,h⟩⟩
      by_cases hb' : b' = []
      ·subst hb'
       have hpl : w'.length + 1 = p:=by simpa using hlen
       rw [hpl] at hP'
       have hc:=clo0 (k:=k) hp hP'
       refine .inr (.inl ⟨[],by rw [hpre];simp,fun s hs' => hc.1 s ((hs s).mp hs'),fun i h1 h2 => ?_⟩)
       refine xe12 (hc.2 i h1 h2) fun e he hS' => ?_
       exact ⟨e,he,(hs _).mpr hS'⟩
      have hbl : 0 < b'.length:=List.length_pos_iff.mpr hb'
      refine .inl ⟨b',hb',by rw [hpre];simp,fun s => ?_⟩
      rw [List.length_append,List.length_singleton]
      exact (hs s).trans (clo_low hp (by lia) hP' s)
     refine .inr (.inr ⟨fun s h => ?_,?_,?_⟩)
     ·have : ∀ d,Clo (levN tm k p).tr (nxt tm k p (runN (levN tm k p) w') c) d → False:=fun d h => by
       induction h with
       | base h => exact hcc ((hP _).mp h).1
       | step _ _ ih => exact ih
      exact this s ((hs s).mp h)
     ·intro zq15
      refine xe11 zq15 fun b hb2 => ?_
      try clear zq15
      rw [hpre,List.append_assoc] at hb2
      have:=List.append_cancel_left hb2
      simp at this
      exact hcc this.1.symm
     intro zq16
     refine xe11 zq16 fun v hv => ?_
     try clear zq16
     rw [hpre,List.append_assoc] at hv
     have:=List.append_cancel_left hv
     simp at this
     exact hcc this.1
   ·refine xe13 zq56 fun v zq180 h1 h2 => ?_
    try clear zq56
    subst zq180
    have hk:=step_keep (c:=c) hp h1 h2
    refine .inr (.inl ⟨v ++ [c],by rw [List.append_assoc],?_,?_⟩)
    ·rw [rowOf_snoc]
     exact fun s hs' => hk.1 s ((hs s).mp hs')
    rw [rowOf_snoc]
    intro i h3 h4
    refine xe12 (hk.2 i h3 h4) fun e he hS' => ?_
    exact ⟨e,he,(hs _).mpr hS'⟩
   refine xe03 zq57 fun h1 h2 h3 => ?_
   try clear zq57
   refine .inr (.inr ⟨fun s h => ?_,?_,?_⟩)
   ·have : ∀ d,Clo (levN tm k p).tr (nxt tm k p (runN (levN tm k p) w') c) d → False:=fun d h => by
     induction h with
     | base h => refine xe12 h fun a ha _ => ?_;try clear h;exact h1 a ha
     | step _ _ ih => exact ih
    exact this s ((hs s).mp h)
   ·intro zq17
    refine xe11 zq17 fun b hb => ?_
    try clear zq17
    exact h2 ⟨[c] ++ b,by rw [hb,List.append_assoc]⟩
   intro zq18
   refine xe11 zq18 fun v hv => ?_
   try clear zq18
   rcases List.eq_nil_or_concat v with rfl | zq61
   ·exact h2 ⟨[c],by rw [List.append_nil] at hv;exact hv.symm⟩
   refine xe21 zq61 fun v' c' zq181 => ?_
   try clear zq61
   subst zq181
   rw [List.concat_eq_append,← List.append_assoc] at hv
   exact h3 ⟨v',(List.append_inj' hv rfl).1⟩
 exact go _ w rfl
noncomputable def alS (tm : List Nat) (k p : Nat) (w : List Nat) : Prop:=(∃ b,b ≠ [] ∧ tm.take p = w ++ b) ∨ ∃ v,w = tm.take p ++ v ∧ alR (tm.drop p) k v
noncomputable def acS (tm : List Nat) (k p : Nat) (w : List Nat) : Prop:=∃ v,w = tm.take p ++ v ∧ acR (tm.drop p) k v
theorem run_live_iff (w : List Nat) : (∃ s,s ∈ runN (levN tm k p) w) ↔ alS tm k p w:=by
 have hl:=drop_len hp
 rcases inv_run (k:=k) hp w with zq62 | zq63 | zq64
 ·refine xe13 zq62 fun b hb hpre hS => ?_
  try clear zq62
  exact ⟨fun _ => .inl ⟨b,hb,hpre⟩,fun _ => ⟨_,(hS _).mpr rfl⟩⟩
 ·refine xe13 zq63 fun v zq182 h1 h2 => ?_
  try clear zq63
  subst zq182
  constructor
  ·intro zq19
   refine xe11 zq19 fun s hs => ?_
   try clear zq19
   refine xe24 (h1 s hs) fun i e zq3 h3 h4 h5 => ?_
   subst zq3
   exact .inr ⟨v,rfl,fits_get.mpr ⟨i,by exact xs16d ‹_› ‹_›,by lia⟩⟩
  rintro (⟨b,hb,hpre⟩ | ⟨v',hv,h⟩)
  ·have:=congrArg List.length hpre
   have hbl : 0 < b.length:=List.length_pos_iff.mpr hb
   rw [List.length_append,List.length_append] at this
   lia
  obtain rfl:=List.append_cancel_left hv
  refine xe12 (fits_get.mp h) fun i hi hk => ?_
  refine xe12 (h2 i (by exact xs16e ‹_› ‹_› ‹_›) hk) fun e _ hS => ?_
  exact ⟨_,hS⟩
 refine xe03 zq64 fun h1 h2 h3 => ?_
 try clear zq64
 constructor
 ·intro zq20
  refine xe11 zq20 fun s hs => ?_
  try clear zq20
  exact absurd hs (h1 s)
 rintro (⟨b,hb,hpre⟩ | ⟨v',hv,h⟩)
 ·exact absurd ⟨b,hpre⟩ h2
 exact absurd ⟨v',hv⟩ h3
theorem run_fin_iff (w : List Nat) : (∃ s ∈ runN (levN tm k p) w,(levN tm k p).fin s) ↔ acS tm k p w:=by
 have hl:=drop_len hp
 have hfin : ∀ i e,(levN tm k p).fin (st2 i e) ↔ i = tm.length ∧ e ≤ k:=fun i e => by
  show st2 i e ∈ (List.range (k + 1)).map (st2 tm.length) ↔ _
  rw [List.mem_map]
  constructor
  ·intro zq21
   refine xe12 zq21 fun e' he h => ?_
   try clear zq21
   refine xe02 (st2_inj.mp h) fun zq4 zq5 => ?_
   subst zq4
   subst zq5
   exact ⟨rfl,by have:=List.mem_range.mp he;exact xs15 ‹_›⟩
  intro zq22
  refine xe02 zq22 fun zq53 h => ?_
  try clear zq22
  subst zq53
  exact ⟨e,List.mem_range.mpr (by exact xs91 ‹_›),rfl⟩
 rcases inv_run (k:=k) hp w with zq65 | zq66 | zq67
 ·refine xe13 zq65 fun b hb hpre hS => ?_
  try clear zq65
  have hbl : 0 < b.length:=List.length_pos_iff.mpr hb
  have hlen:=congrArg List.length hpre
  rw [take_len hp] at hlen
  simp at hlen
  constructor
  ·intro zq23
   refine xe12 zq23 fun s hs hf => ?_
   try clear zq23
   obtain rfl:=(hS s).mp hs
   have:=((hfin _ _).mp hf).1
   lia
  intro zq24
  refine xe12 zq24 fun v hv _ => ?_
  try clear zq24
  have h4:=congrArg List.length hv
  rw [List.length_append,take_len hp] at h4
  lia
 ·refine xe13 zq66 fun v zq183 h1 h2 => ?_
  try clear zq66
  subst zq183
  constructor
  ·intro zq25
   refine xe12 zq25 fun s hs hf => ?_
   try clear zq25
   refine xe24 (h1 s hs) fun i e zq6 h3 h4 h5 => ?_
   subst zq6
   refine xe02 ((hfin _ _).mp hf) fun h6 h7 => ?_
   refine ⟨v,rfl,acR_get.mpr ?_⟩
   rw [hl,show tm.length - p = i from by exact xs16f ‹_›]
   lia
  intro zq26
  refine xe12 zq26 fun v' hv h => ?_
  try clear zq26
  obtain rfl:=List.append_cancel_left hv
  have h:=acR_get.mp h
  rw [hl] at h
  refine xe12 (h2 (tm.length - p) (by lia) h) fun e he hS => ?_
  exact ⟨_,hS,(hfin _ _).mpr ⟨by exact xs11 ‹_›,by lia⟩⟩
 refine xe03 zq67 fun h1 h2 h3 => ?_
 try clear zq67
 constructor
 ·intro zq27
  refine xe12 zq27 fun s hs _ => ?_
  try clear zq27
  exact absurd hs (h1 s)
 intro zq28
 refine xe12 zq28 fun v' hv h => ?_
 try clear zq28
 exact absurd ⟨v',hv⟩ h3
end
section
variable {tm : List Nat} {k p : Nat} (hp : p ≤ tm.length) {M : Dfa} (R : Right (levN tm k p) M)
include hp R
theorem run_ne_nil : runN (levN tm k p) [] ≠ []:=fun z => by
 have:=((run_nil (k:=k) hp).2 (st2 0 0)).mpr (.base rfl)
 rw [z] at this;cases this
theorem nq_ne {q : Qs} {l : Str} (h : labs (levN tm k p) q l) : nq (levN tm k p) q l ≠ []:=fun z => by
 refine xe12 h fun a ha zq24 => ?_
 try clear h
 refine xe11 zq24 fun d hd => ?_
 try clear zq24
 have:=((nq_mem (k:=k) hp q l).2 d).mpr (.base ⟨a,ha,.inl hd⟩)
 rw [z] at this;cases this
theorem dfa_run (w : List Nat) : (runN (levN tm k p) w = [] → runD M w = none) ∧ (runN (levN tm k p) w ≠ [] → runD M w = some (runN (levN tm k p) w) ∧ Reach (levN tm k p) (runN (levN tm k p) w)):=by
 have go : ∀ n (w : List Nat),w.length = n → (runN (levN tm k p) w = [] → runD M w = none) ∧ (runN (levN tm k p) w ≠ [] → runD M w = some (runN (levN tm k p) w) ∧ Reach (levN tm k p) (runN (levN tm k p) w)):=fun n => by
  induction n with
  | zero =>
   intro w hw
   obtain rfl:=List.eq_nil_of_length_eq_zero hw
   refine ⟨fun h => absurd h (run_ne_nil hp R),fun _ => ⟨?_,.ini⟩⟩
   show some M.ini = some (q0 _)
   rw [R.ini]
  | succ n ih =>
   intro w hw
   refine xe21 (?_ : ∃ w' c,w = w' ++ [c]) fun w' c zq25 => ?_
   ·rcases List.eq_nil_or_concat w with rfl | ⟨w',c,rfl⟩
    ·simp at hw
    exact ⟨w',c,List.concat_eq_append ..⟩
   subst zq25
   refine xe02 (ih w' (by simpa using hw)) fun i1 i2 => ?_
   rw [runN_snoc,runD_snoc]
   by_cases hnil : runN (levN tm k p) w' = []
   ·rw [i1 hnil,hnil,nq_nil]
    exact ⟨fun _ => rfl,fun h => absurd rfl h⟩
   refine xe02 (i2 hnil) fun e1 rch => ?_
   rw [e1]
   generalize runN (levN tm k p) w' = q at *
   show (_ → (M.tr q (ch c)).or (M.df q) = none) ∧ (_ → (M.tr q (ch c)).or (M.df q) = some _ ∧ _)
   by_cases hl : labs (levN tm k p) q (ch c)
   ·have h1:=(R.tr q rch (ch c)).mpr ⟨hl,ch_eps c,ch_any c⟩
    cases ht : M.tr q (ch c) with
    | none => exact absurd ht h1
    | some q' =>
     refine xe04 (R.trv _ _ _ ht) fun _ _ _ zq1 => ?_
     subst zq1
     exact ⟨fun h => absurd h (nq_ne hp R hl),fun _ => ⟨rfl,.step rch hl (ch_eps c)⟩⟩
   have ht : M.tr q (ch c) = none:=by
    cases ht : M.tr q (ch c) with
    | none => rfl
    | some q' => exact absurd (R.trv _ _ _ ht).1 hl
   have hsame : nq (levN tm k p) q (ch c) = nq (levN tm k p) q anyS:=by
    have : (fun d => ∃ a ∈ q,(levN tm k p).tr a (ch c) d ∨ (levN tm k p).tr a anyS d) = fun d => ∃ a ∈ q,(levN tm k p).tr a anyS d ∨ (levN tm k p).tr a anyS d:=by
     funext d
     refine propext ⟨fun zm1 => xe12 zm1 fun a ha h => ?_,fun zm4 => xe12 zm4 fun a ha h => ⟨a,ha,.inr (h.elim id id)⟩⟩
     rcases h with h | h
     ·exact absurd ⟨a,ha,d,h⟩ hl
     exact ⟨a,ha,.inl h⟩
    show qOf (Clo _ _) = qOf (Clo _ _)
    rw [this]
   rw [ht,hsame]
   by_cases ha : labs (levN tm k p) q anyS
   ·have h1:=(R.df q rch).mpr ha
    cases hd : M.df q with
    | none => exact absurd hd h1
    | some q' =>
     refine xe02 (R.dfv _ _ hd) fun _ zq2 => ?_
     subst zq2
     exact ⟨fun h => absurd h (nq_ne hp R ha),fun _ => ⟨rfl,.step rch ha any_eps⟩⟩
   have hd : M.df q = none:=by
    cases hd : M.df q with
    | none => rfl
    | some q' => exact absurd (R.dfv _ _ hd).1 ha
   rw [hd]
   refine ⟨fun _ => rfl,fun h => absurd ?_ h⟩
   cases hz : nq (levN tm k p) q anyS with
   | nil => rfl
   | cons s r =>
    have hs:=((nq_mem (k:=k) hp q anyS).2 s).mp (by rw [hz];exact .head _)
    have : ∀ d,Clo (levN tm k p).tr (fun d => ∃ a ∈ q,(levN tm k p).tr a anyS d ∨ (levN tm k p).tr a anyS d) d → False:=fun d h => by
     induction h with
     | base h => refine xe12 h fun a ha' _ => ?_;clear h;rename_i h;exact ha ⟨a,ha',_,h.elim id id⟩
     | step _ _ ih => exact ih
    exact (this s hs).elim
 exact go _ w rfl
theorem runD_some {w : List Nat} {q : Qs} (h : runD M w = some q) : q = runN (levN tm k p) w ∧ q ≠ [] ∧ Reach (levN tm k p) q:=by
 by_cases hn : runN (levN tm k p) w = []
 ·rw [(dfa_run hp R w).1 hn] at h;cases h
 refine xe02 ((dfa_run hp R w).2 hn) fun h1 h2 => ?_
 rw [h1] at h;cases h
 exact ⟨rfl,hn,h2⟩
theorem alD_iff (w : List Nat) : alD M w ↔ alS tm k p w:=by
 rw [← run_live_iff hp]
 constructor
 ·intro h
  cases hr : runD M w with
  | none => exact absurd hr h
  | some q =>
   refine xe03 (runD_some hp R hr) fun zq3 hne _ => ?_
   subst zq3
   exact List.exists_mem_of_ne_nil _ hne
 intro zq27 hn
 refine xe11 zq27 fun s hs => ?_
 try clear zq27
 have : runN (levN tm k p) w ≠ []:=fun z => by rw [z] at hs;cases hs
 rw [((dfa_run hp R w).2 this).1] at hn;cases hn
theorem dfa_in {u : List Nat} : (∃ q,runD M u = some q ∧ M.fin q) ↔ ∃ s ∈ runN (levN tm k p) u,(levN tm k p).fin s:=by
 constructor
 ·intro zq28
  refine xe12 zq28 fun q h1 h2 => ?_
  try clear zq28
  refine xe03 (runD_some hp R h1) fun zq4 _ hr => ?_
  subst zq4
  exact (R.fin _ hr).mp h2
 intro zq29
 refine xe12 zq29 fun s hs hf => ?_
 try clear zq29
 have : runN (levN tm k p) u ≠ []:=fun z => by rw [z] at hs;cases hs
 refine xe02 ((dfa_run hp R u).2 this) fun h1 h2 => ?_
 exact ⟨_,h1,(R.fin _ h2).mpr ⟨s,hs,hf⟩⟩
theorem acD_iff (w : List Nat) : acD M w ↔ acS tm k p w:=(dfa_in hp R).trans (run_fin_iff hp w)
theorem dfa_nx (h10 : (levN tm k p).U.length ≤ 10) : ∀ q l q',M.nx q l = some q' → q' ≠ [] ∧ q'.length ≤ 60:=by
 have bound : ∀ q l,labs (levN tm k p) q l → nq (levN tm k p) q l ≠ [] ∧ (nq (levN tm k p) q l).length ≤ 60:=fun q l h => by
  refine ⟨nq_ne hp R h,?_⟩
  have hm:=nq_mem (k:=k) hp q l
  have : (nq (levN tm k p) q l).length ≤ (levN tm k p).U.length:=nodup_sub (hm.1.imp fun {a b} h e => by subst e;rw [lex_irr] at h;cases h) fun s hs =>
   clo_in (fun _ _ _ => lev_trU hp) (fun s h => by obtain ⟨a,_,h | h⟩:=h <;> exact lev_trU hp h) s ((hm.2 s).mp hs)
  lia
 intro q l q' h
 have h : (M.tr q l).or (M.df q) = some q':=h
 cases ht : M.tr q l with
 | some q2 =>
  rw [ht] at h
  cases h
  refine xe04 (R.trv _ _ _ ht) fun hl _ _ zq5 => ?_
  subst zq5
  exact bound q l hl
 | none =>
  rw [ht] at h
  have h : M.df q = some q':=h
  refine xe02 (R.dfv _ _ h) fun hl zq6 => ?_
  subst zq6
  exact bound q _ hl
theorem dfa_ch : ∀ q l,M.tr q l ≠ none → ∃ c,l = ch c:=by
 intro q l h
 cases ht : M.tr q l with
 | none => exact absurd ht h
 | some q' =>
  refine xe04 (R.trv _ _ _ ht) fun zq7 h1 h2 _ => ?_
  refine xe12 zq7 fun a _ zq26 => ?_
  try clear zq7
  refine xe11 zq26 fun d hd => ?_
  try clear zq26
  rcases (tr_iff hp).mp hd with ⟨i,_,_,h,_⟩ | ⟨i,e,_,_,_,_,⟨h,_⟩ | ⟨_,⟨h,_⟩ | ⟨h,_⟩ | ⟨h,_⟩⟩⟩ | ⟨e,_,_,h,_⟩
  ·exact ⟨_,h⟩
  ·exact ⟨_,h⟩
  ·exact absurd h h2
  ·exact absurd h h1
  ·exact absurd h h2
  exact absurd h h2
theorem dfa_uq (h : M.UQ = uq (levN tm k p).U) : ∀ u q,runD M u = some q → q ∈ M.UQ:=by
 intro u q hr
 refine xe03 (runD_some hp R hr) fun zq8 hne _ => ?_
 subst zq8
 rw [h]
 exact mem_uq (lev_srt tm k p) (run_srt hp u).1 (run_srt hp u).2 hne
theorem dfa_B (h4 : tm.length ≤ 4) (hk : k ≤ 2) : ∀ u q,runD M u = some q → u.length ≤ 10:=by
 intro u q hr
 have : alS tm k p u:=(alD_iff hp R u).mp (by unfold alD;rw [hr];simp)
 rcases this with ⟨b,_,h⟩ | ⟨v,rfl,h⟩
 ·have h:=congrArg List.length h
  rw [take_len hp,List.length_append] at h
  lia
 have h1:=fits_len h
 have h2:=take_len hp
 rw [drop_len hp] at h1
 rw [List.length_append]
 lia
end
noncomputable def Due (tm : List Nat) (p k : Nat) (u : List Nat) (r : Option (List Nat)) : Prop :=
 (u.take p = tm.take p ∧ ∃ r',LL (tm.drop p) k (u.drop p) r' ∧ r = r'.map (tm.take p ++ ·)) ∨
 (u.take p ≠ tm.take p ∧ u < tm.take p ∧ ∃ l,LL (tm.drop p) k [] (some l) ∧ r = some (tm.take p ++ l)) ∨
 (u.take p ≠ tm.take p ∧ ¬ u < tm.take p ∧ r = none)
theorem lt_split : ∀ {u v : List Nat},u < v → ∃ j,j < v.length ∧ u.take j = v.take j ∧ (u.length = j ∨ (j < u.length ∧ u.getD j 0 < v.getD j 0))
 | [],[],h => absurd h (List.lt_irrefl _)
 | [],b :: v,_ => ⟨0,by simp,rfl,.inl rfl⟩
 | a :: u,[],h => by cases h
 | a :: u,b :: v,h => by
  rcases List.cons_lt_cons_iff.mp h with hl | zq3
  ·exact ⟨0,by simp,rfl,.inr ⟨by simp,hl⟩⟩
  refine xe02 zq3 fun zq54 hl => ?_
  try clear zq3
  subst zq54
  refine xe13 (lt_split hl) fun j h1 h2 h3 => ?_
  refine ⟨j + 1,by simpa using h1,by simp [h2],?_⟩
  rcases h3 with h3 | zq4
  ·exact .inl (by simp [h3])
  refine xe02 zq4 fun h3 h4 => ?_
  try clear zq4
  exact .inr ⟨by simpa using h3,by simpa using h4⟩
theorem ge_split : ∀ {u v : List Nat},¬ u < v → u.take v.length ≠ v → ∃ j,j < v.length ∧ j < u.length ∧ u.take j = v.take j ∧ v.getD j 0 < u.getD j 0
 | u,[],_,h => absurd (by simp) h
 | [],b :: v,h,_ => absurd (List.nil_lt_cons b v) h
 | a :: u,b :: v,h,hne => by
  by_cases hab : a = b
  ·subst hab
   have h' : ¬ u < v:=fun z => h (List.cons_lt_cons_iff.mpr (.inr ⟨rfl,z⟩))
   have hne' : u.take v.length ≠ v:=fun z => hne (by simp [z])
   refine xe14 (ge_split h' hne') fun j h1 h2 h3 h4 => ?_
   exact ⟨j + 1,by simpa using h1,by simpa using h2,by simp [h3],by simpa using h4⟩
  have : ¬ a < b:=fun z => h (List.cons_lt_cons_iff.mpr (.inl z))
  exact ⟨0,by simp,by simp,rfl,by show b < a;exact xs95b ‹_› ‹_›⟩
section
variable {tm : List Nat} {k p : Nat} (hp : p ≤ tm.length)
include hp
theorem alS_pre (v : List Nat) : alS tm k p (tm.take p ++ v) ↔ alR (tm.drop p) k v:=by
 constructor
 ·rintro (⟨b,hb,h⟩ | ⟨v',h,h2⟩)
  ·have:=congrArg List.length h
   have hbl : 0 < b.length:=List.length_pos_iff.mpr hb
   rw [List.length_append,List.length_append] at this
   lia
  rw [List.append_cancel_left h];exact h2
 intro h;exact .inr ⟨v,rfl,h⟩
theorem acS_pre (v : List Nat) : acS tm k p (tm.take p ++ v) ↔ acR (tm.drop p) k v:=by
 constructor
 ·intro zq2
  refine xe12 zq2 fun v' h h2 => ?_
  try clear zq2
  rw [List.append_cancel_left h];exact h2
 intro h;exact ⟨v,rfl,h⟩
theorem acS_take {w : List Nat} (h : acS tm k p w) : w.take p = tm.take p:=by
 refine xe12 h fun v zq1 _ => ?_
 try clear h
 subst zq1
 have:=take_len hp
 rw [List.take_append_of_le_length (by lia),List.take_of_length_le (by lia)]
theorem alS_get {w : List Nat} (h : alS tm k p w) {j : Nat} (hj : j < p) (hw : j < w.length) : w.getD j 0 = (tm.take p).getD j 0:=by
 rcases h with zq5 | zq6
 ·refine xe12 zq5 fun b _ h => ?_
  try clear zq5
  rw [h,List.getD_eq_getElem?_getD,List.getD_eq_getElem?_getD,List.getElem?_append_left hw]
 refine xe12 zq6 fun v zq55 _ => ?_
 try clear zq6
 subst zq55
 rw [List.getD_eq_getElem?_getD,List.getD_eq_getElem?_getD,List.getElem?_append_left (by rw [take_len hp];exact hj)]
theorem notAl {j n : Nat} (hj : j < p) (hn : n ≠ (tm.take p).getD j 0) : ¬ alS tm k p ((tm.take p).take j ++ [n]):=fun h => by
 have hl : ((tm.take p).take j).length = j:=by rw [List.length_take,take_len hp];lia
 have:=alS_get hp h hj (by rw [List.length_append,hl];simp)
 rw [List.getD_eq_getElem?_getD,List.getElem?_append_right (by lia),hl] at this
 simp at this
 exact hn (by rw [this,List.getD_eq_getElem?_getD])
theorem deadS {u : List Nat} {j : Nat} (hj : j < p) (hu : j < u.length) (hne : u.getD j 0 ≠ (tm.take p).getD j 0) : ∀ i n,j + 1 ≤ i → ¬ alS tm k p (u.take i ++ [n]):=fun i n hi h => by
 have hl : j < (u.take i).length:=by rw [List.length_take];exact xs42 ‹_› ‹_›
 have:=alS_get hp h hj (by rw [List.length_append];exact xs91b ‹_›)
 rw [List.getD_eq_getElem?_getD,List.getElem?_append_left hl,List.getElem?_take,if_pos ‹_›,← List.getD_eq_getElem?_getD] at this
 exact hne this
theorem skipPre : ∀ j,j ≤ p → ResW (alS tm k p) (acS tm k p) (fwdW (tm.take p) j) none
 | 0,_ => .nil
 | j + 1,h => .skip (fun n hn => notAl hp ‹_› (by exact xs89b ‹_›)) (skipPre j (by exact xs88 ‹_›))
theorem fwdW_congr {u v : List Nat} : ∀ j,(∀ i,i < j → u.take i = v.take i ∧ u.getD i 0 = v.getD i 0) → fwdW u j = fwdW v j
 | 0,_ => rfl
 | j + 1,h => by
  refine xe02 (h j (Nat.lt_succ_self j)) fun h1 h2 => ?_
  show (u.take j,u.getD j 0 + 1) :: fwdW u j = (v.take j,v.getD j 0 + 1) :: fwdW v j
  rw [h1,h2,fwdW_congr j fun i hi => h i (by exact xs91b ‹_›)]
theorem fwdW_pre (v : List Nat) : ∀ j,fwdW (tm.take p ++ v) (p + j) = (fwdW v j).map (fun e => (tm.take p ++ e.1,e.2)) ++ fwdW (tm.take p) p
 | 0 => by
  refine fwdW_congr hp _ fun i hi => ?_
  have hl:=take_len hp
  exact ⟨List.take_append_of_le_length (by lia),by rw [List.getD_eq_getElem?_getD,List.getD_eq_getElem?_getD,List.getElem?_append_left (by exact xs94e ‹_› ‹_›)]⟩
 | j + 1 => by
  have hl:=take_len hp
  show (((tm.take p ++ v).take (p + j)),(tm.take p ++ v).getD (p + j) 0 + 1) :: fwdW (tm.take p ++ v) (p + j) = (tm.take p ++ v.take j,v.getD j 0 + 1) :: _
  rw [fwdW_pre v j]
  have h1 : (tm.take p ++ v).take (p + j) = tm.take p ++ v.take j:=by
   rw [List.take_append,List.take_of_length_le (by lia),hl]
   congr 2;exact xs29
  have h2 : (tm.take p ++ v).getD (p + j) 0 = v.getD j 0:=by
   rw [List.getD_eq_getElem?_getD,List.getD_eq_getElem?_getD,List.getElem?_append_right (by lia),hl]
   congr 2;exact xs29
  rw [h1,h2];rfl
theorem lift_W {es : List (List Nat × Nat)} {r' : Option (List Nat)} (h : ResW (alR (tm.drop p) k) (acR (tm.drop p) k) es r') : ∀ rest,(r' = none → ResW (alS tm k p) (acS tm k p) rest none) →
  ResW (alS tm k p) (acS tm k p) (es.map (fun e => (tm.take p ++ e.1,e.2)) ++ rest) (r'.map (tm.take p ++ ·)):=by
 have al : ∀ w n,alS tm k p (tm.take p ++ w ++ [n]) ↔ alR (tm.drop p) k (w ++ [n]):=fun w n => by rw [List.append_assoc];exact alS_pre hp _
 have ac : ∀ w n,acS tm k p (tm.take p ++ w ++ [n]) ↔ acR (tm.drop p) k (w ++ [n]):=fun w n => by rw [List.append_assoc];exact acS_pre hp _
 induction h with
 | nil => intro rest hr;exact hr rfl
 | skip h1 _ ih => intro rest hr;exact .skip (fun n hn h => h1 n hn ((al _ _).mp h)) (ih rest hr)
 | @hit w b es n h1 h2 h3 h4 =>
  intro rest hr
  have:=ResW.hit (al:=alS tm k p) (ac:=acS tm k p) (es:=es.map (fun e => (tm.take p ++ e.1,e.2)) ++ rest) h1 ((al w n).mpr h2) (fun j a c h => h3 j a c ((al _ _).mp h)) ((ac w n).mpr h4)
  rw [List.append_assoc] at this
  exact this
 | @push w b es n r h1 h2 h3 h4 _ ih =>
  intro rest hr
  have h5:=ih rest hr
  rw [List.map_cons] at h5
  refine .push h1 ((al w n).mpr h2) (fun j a c h => h3 j a c ((al _ _).mp h)) (fun h => h4 ((ac _ _).mp h)) ?_
  rw [List.append_assoc]
  exact h5
theorem due_a {v : List Nat} {r' : Option (List Nat)} (h : Wd (alR (tm.drop p) k) (acR (tm.drop p) k) v r') : Wd (alS tm k p) (acS tm k p) (tm.take p ++ v) (r'.map (tm.take p ++ ·)):=by
 rcases h with zq7 | zq8
 ·refine xe02 zq7 fun h1 zq56 => ?_
  try clear zq7
  subst zq56
  exact .inl ⟨(acS_pre hp v).mpr h1,rfl⟩
 refine xe02 zq8 fun h1 h2 => ?_
 try clear zq8
 refine .inr ⟨fun h => h1 ((acS_pre hp v).mp h),?_⟩
 have:=lift_W hp h2 (fwdW (tm.take p) p) fun _ => skipPre hp p (Nat.le_refl _)
 rw [List.map_cons,List.cons_append,← fwdW_pre hp] at this
 rw [List.length_append,take_len hp]
 exact this
theorem climb {l : List Nat} (h : Wd (alR (tm.drop p) k) (acR (tm.drop p) k) [] (some l)) : ∀ d i,i + d + 1 = p → ∀ b,b ≤ (tm.take p).getD i 0 → ∀ rest,ResW (alS tm k p) (acS tm k p) (((tm.take p).take i,b) :: rest) (some (tm.take p ++ l)):=by
 have hl:=take_len hp
 have snoc : ∀ i,i < p → (tm.take p).take i ++ [(tm.take p).getD i 0] = (tm.take p).take (i + 1):=fun i hi => by
  rw [List.take_add_one,List.getD_eq_getElem?_getD,List.getElem?_eq_getElem (by exact xs94e ‹_› ‹_›)];rfl
 have halive : ∀ i,i < p → alS tm k p ((tm.take p).take (i + 1)):=fun i hi => by
  by_cases h1 : i + 1 = p
  ·have : (tm.take p).take (i + 1) = tm.take p ++ []:=by rw [List.take_of_length_le (by lia),List.append_nil]
   rw [this]
   exact (alS_pre hp []).mpr (alR_nil _ _)
  refine .inl ⟨(tm.take p).drop (i + 1),?_,(List.take_append_drop ..).symm⟩
  intro z
  have:=congrArg List.length z
  rw [List.length_drop] at this
  simp at this
  lia
 intro d
 induction d with
 | zero =>
  intro i hi b hb rest
  have hi' : i < p:=by lia
  have hfull : (tm.take p).take (i + 1) = tm.take p:=List.take_of_length_le (by lia)
  have hdead : ∀ j,b ≤ j → j < (tm.take p).getD i 0 → ¬ alS tm k p ((tm.take p).take i ++ [j]):=fun j _ hj => notAl hp hi' (by exact xs89 ‹_›)
  by_cases hac : acR (tm.drop p) k []
  ·have hl0 : l = []:=by
    have:=(Wd.iff h).mpr hac
    cases this;rfl
   subst hl0
   have:=ResW.hit (al:=alS tm k p) (ac:=acS tm k p) (es:=rest) hb (by rw [snoc i hi'];exact halive i hi') hdead (by rw [snoc i hi',hfull];exact (by have:=(acS_pre (k:=k) hp []).mpr hac;rwa [List.append_nil] at this))
   rw [snoc i hi',hfull] at this
   rw [List.append_nil]
   exact this
  rcases h with zq9 | zq10
  ·refine xe02 zq9 fun h1 _ => ?_
   try clear zq9
   exact absurd h1 hac
  refine xe02 zq10 fun _ h2 => ?_
  try clear zq10
  have h3:=lift_W hp h2 rest fun z => by cases z
  rw [List.map_cons,List.append_nil] at h3
  refine .push hb (by rw [snoc i hi'];exact halive i hi') hdead (by rw [snoc i hi',hfull];exact fun z => hac ((acS_pre (k:=k) hp []).mp (by rw [List.append_nil];exact z))) ?_
  rw [snoc i hi',hfull]
  exact h3
 | succ d ih =>
  intro i hi b hb rest
  have hi' : i < p:=by lia
  refine .push hb (by rw [snoc i hi'];exact halive i hi') (fun j _ hj => notAl hp hi' (by exact xs89 ‹_›)) ?_ ?_
  ·rw [snoc i hi']
   intro z
   have:=acS_take hp z
   have:=congrArg List.length this
   rw [List.length_take,List.length_take,hl] at this
   lia
  rw [snoc i hi']
  exact ih (i + 1) (by lia) 0 (Nat.zero_le _) rest
theorem due_W {u : List Nat} {r : Option (List Nat)} (h : Due tm p k u r) : Wd (alS tm k p) (acS tm k p) u r:=by
 have hl:=take_len hp
 rcases h with zq11 | zq12 | zq13
 ·refine xe02 zq11 fun h1 zq57 => ?_
  try clear zq11
  refine xe12 zq57 fun r' h2 zq70 => ?_
  try clear zq57
  subst zq70
  have:=due_a hp (ll_W h2)
  rw [← h1,List.take_append_drop,h1] at this
  exact this
 ·refine xe03 zq12 fun h1 h2 zq58 => ?_
  try clear zq12
  refine xe12 zq58 fun l h3 zq71 => ?_
  try clear zq58
  subst zq71
  refine .inr ⟨fun z => h1 (acS_take hp z),?_⟩
  refine xe13 (lt_split h2) fun j hj hpre hc => ?_
  rw [hl] at hj
  have E:=climb hp (ll_W h3) (p - j - 1) j (by exact xs9 ‹_›)
  rcases hc with hc | zq14
  ·have hu : u = (tm.take p).take j:=by rw [← hpre,List.take_of_length_le (by lia)]
   have:=E 0 (Nat.zero_le _) (fwdW u u.length)
   rw [← hu] at this
   exact this
  refine xe02 zq14 fun hju hlt => ?_
  try clear zq14
  have hd:=deadS (k:=k) hp hj hju (by exact xs89 ‹_›)
  have h4 : ResW (alS tm k p) (acS tm k p) (fwdW u (j + 1)) (some (tm.take p ++ l)):=by
   show ResW _ _ ((u.take j,u.getD j 0 + 1) :: fwdW u j) _
   rw [hpre]
   exact E _ ‹_› _
  have h5:=fwdW_dead h4 hd (u.length - (j + 1))
  rw [show j + 1 + (u.length - (j + 1)) = u.length from by exact xs10 ‹_›] at h5
  refine .skip (fun n _ => ?_) h5
  have:=hd u.length n ‹_›
  rwa [List.take_length] at this
 refine xe03 zq13 fun h1 h2 zq59 => ?_
 try clear zq13
 subst zq59
 refine .inr ⟨fun z => h1 (acS_take hp z),?_⟩
 refine xe14 (ge_split h2 (by rw [hl];exact h1)) fun j hj hju hpre hlt => ?_
 rw [hl] at hj
 have hd:=deadS (k:=k) hp hj hju (by exact xs89b ‹_›)
 have h4 : ResW (alS tm k p) (acS tm k p) (fwdW u (j + 1)) none:=by
  refine .skip (fun n hn => ?_) ?_
  ·rw [hpre]
   exact notAl hp hj (by lia)
  have : fwdW u j = fwdW (tm.take p) j:=fwdW_congr hp j fun i hi => by
   have e1 : u.take i = (tm.take p).take i:=by
    have:=congrArg (List.take i) hpre
    rwa [List.take_take,List.take_take,Nat.min_eq_left (by exact xs88 ‹_›)] at this
   refine ⟨e1,?_⟩
   have:=congrArg (fun l : List Nat => l[i]?) hpre
   simp only [List.getElem?_take,if_pos hi] at this
   rw [List.getD_eq_getElem?_getD,List.getD_eq_getElem?_getD,this,List.getElem?_take]
  rw [this]
  exact skipPre hp j (by exact xs88 ‹_›)
 have h5:=fwdW_dead h4 hd (u.length - (j + 1))
 rw [show j + 1 + (u.length - (j + 1)) = u.length from by exact xs10 ‹_›] at h5
 refine .skip (fun n _ => ?_) h5
 have:=hd u.length n ‹_›
 rwa [List.take_length] at this
theorem due_in {u : List Nat} {r : Option (List Nat)} (h : Due tm p k u r) : r = some u ↔ ∃ s ∈ runN (levN tm k p) u,(levN tm k p).fin s :=
 (Wd.iff (due_W hp h)).trans (run_fin_iff hp u).symm
theorem due_nv {u : List Nat} {M : Dfa} {r r' : Option (List Nat)} (R : Right (levN tm k p) M) (h : Due tm p k u r) (h' : NV M u r') : r' = r:=by
 have h1:=nv_W h'
 have e1 : alD M = alS tm k p:=funext fun w => propext (alD_iff hp R w)
 have e2 : acD M = acS tm k p:=funext fun w => propext (acD_iff hp R w)
 rw [e1,e2] at h1
 exact h1.det (due_W hp h)
end
theorem frBack {g g' h : Heap} {L : Addr} {m : Str → Option Value} (F : Fr g' L h m) (T : KtsTurn [] g g') : Fr g L h m :=
 ⟨F.ns,fun b o e => F.keep b o (T.other b o e (by simp)),by rw [← T.size];exact F.above⟩
theorem enter {w : World} {body : List Stmt} {cn : Str} {cs : Scope} {a : Addr} {ccd : Value} {g : Heap} {L : Addr} {m : Str → Option Value} {s : Shared} {Q : Flow → Shared → Prop} {E : Value → Shared → Prop} {mean : ExcName → Option Value} {mg mb : Str → Option Value}
  (F : Fr g L s.heap m) (KX : (pre.heap_1 w.params).In g) (T : Top vw lse mean mg mb g) (hk : cs.kind = .function)
  (h : ∀ A s,CxT w A g L 8 → outs A = [] → Fr g L s.heap m → Own [] g L s.heap (fun _ => none) →
   let env:=envOf cn cs L a ccd
   let R : Flow → Shared → Prop:=fun fl s' => EndsT A [] g L s (fun v _ => v = .bool true) (retOf fl) s'
   wpAny (model pg w) A (execs body env) R (fun _ _ => False) s)
  (hq : ∀ fl s' m',retOf fl = .bool true → Fr g L s'.heap m' → s'.gens = s.gens → s'.os = s.os → Q fl s') :
  wpAny (model pg w) (callerA.deeper (envOf cn cs L a ccd)) (execs body (envOf cn cs L a ccd)) Q E s:=by
 refine wpAny_mono (h _ _ ⟨⟨cn,cs,a,ccd,[],callerA,g,below_caller _,rfl,hk,KX,⟨_,_,_,T⟩,ktsDicts_nil⟩,rfl,?_,?_⟩ rfl F ⟨fun _ _ e => (nomatch e),fun _ hp => (nomatch hp)⟩) (fun fl s' hl => ?_) fun _ _ e => e.elim
 ·show 1 + claimMargin + 1 + 8 ≤ 900
  decide
 ·show 4 + 3 + 20 * 8 ≤ 9000
  decide
 refine holdP ?_;intro G;rcases hl with ⟨g',m',σ',Tn,S',F',O',hP⟩;unfold G;clear G
 exact hq fl s' m' hP (frBack F' Tn) S'.1 S'.2
theorem of_ints {ns : List Int} {vs : List Value} (h : IntsAre vs ns) : All2 isI ns vs:=by
 induction h with
 | nil => exact .nil
 | cons n t _ ih => exact .cons ⟨t,rfl⟩ ih
structure LpJ (zs : List Value) (D sg : Addr) (kk p : Nat) (tm : List Nat) (t2 t3 t4 : Tok) (i : Nat) (m : Str → Option Value) (σ : Sg) : Prop where
 m3 : m (Str.ofString "k") = some (.int kk t2)
 m4 : m (Str.ofString "term") = some (.str (sw tm) t3)
 m5 : m (Str.ofString "kept") = some (.int p t4)
 m6 : m (Str.ofString "signs") = some (.ref sg)
 hs : ∃ (SG : List Value) (n : Nat),σ sg = some (listOf SG.toArray n) ∧ SG.length ≤ 10 ∧ ∀ j,j < 7 → ∃ c t,SG[j]? = some (Value.str (ch c) t) ∧ c < 1000000
 hD : σ D = some (listOf zs.toArray 0)
 tx : ∃ u t,m (Str.ofString "text") = some (.str (sw u) t) ∧ u.length = i ∧ ∀ c ∈ u,c < 1000000
theorem sw_beq (a b : List Nat) : (sw a == sw b) = decide (a = b):=by
 by_cases h : a = b
 ·subst h;simp
 rw [decide_eq_false h]
 cases hb : (sw a == sw b) with
 | false => rfl
 | true =>
  have:=congrArg (fun s : Str => s.cps.toList) (eq_of_beq hb)
  exact absurd this h
noncomputable def DueIs (r : Option (List Nat)) (v : Value) : Prop:=(r = none ∧ v = .none) ∨ ∃ l t,r = some l ∧ v = .str (sw l) t
namespace fin0
theorem tw2066218740287760612:True:=⟨⟩
theorem tw14123714442993402874:True:=⟨⟩
theorem tw16778558909970865201:True:=⟨⟩
theorem tw11156110030222965327:True:=⟨⟩
theorem tw15941174834537275518:True:=⟨⟩
theorem tw6563591634304382450:True:=⟨⟩
theorem tw6080010595956720719:True:=⟨⟩
theorem tw1684458082990232443:True:=⟨⟩
theorem tw16106265512099198455:True:=⟨⟩
theorem tw15083741555829299213:True:=⟨⟩
theorem tw7716940583952529519:True:=⟨⟩
theorem tw366722822826844638:True:=⟨⟩
theorem tw16722180745989184965:True:=⟨⟩
theorem tw8932824570208531483:True:=⟨⟩
theorem tw2176094926800494576:True:=⟨⟩
theorem tw17981558760071941555:True:=⟨⟩
theorem tw15044737221113967321:True:=⟨⟩
theorem tw16882972796773370077:True:=⟨⟩
theorem tw3732167509210168092:True:=⟨⟩
theorem tw2576787833472569510:True:=⟨⟩
theorem tw1955155871195406303:True:=⟨⟩
theorem tw2512374364683317655:True:=⟨⟩
theorem tw17601189110448126315:True:=⟨⟩
theorem tw15867572739915761342:True:=⟨⟩
theorem tw15393229524598600557:True:=⟨⟩
theorem tw9079965035288286334:True:=⟨⟩
theorem tw18066973335045326795:True:=⟨⟩
theorem tw15243169095233138136:True:=⟨⟩
theorem tw12906396195491452372:True:=⟨⟩
theorem tw14198448802132242373:True:=⟨⟩
theorem tw883118868031498864:True:=⟨⟩
theorem tw11003437412577474218:True:=⟨⟩
theorem tw17062484770954316263:True:=⟨⟩
theorem tw15387377741910834310:True:=⟨⟩
theorem tw9433945819292489016:True:=⟨⟩
theorem tw5958670441552468980:True:=⟨⟩
theorem tw14184091605983411866:True:=⟨⟩
theorem tw5833776737349006830:True:=⟨⟩
theorem tw263289933627990560:True:=⟨⟩
theorem tw16276231889782169059:True:=⟨⟩
theorem tw5131716896835623901:True:=⟨⟩
theorem tw7100065816254616941:True:=⟨⟩
theorem tw18373073792115843741:True:=⟨⟩
theorem tw1525971112136286441:True:=⟨⟩
theorem tw13652035953707216163:True:=⟨⟩
theorem tw11523319489410464271:True:=⟨⟩
theorem tw16167906071668959703:True:=⟨⟩
theorem tw10801782302616015807:True:=⟨⟩
theorem tw1020732844457939928:True:=⟨⟩
theorem tw15919156159878964246:True:=⟨⟩
theorem tw9929614494519103325:True:=⟨⟩
theorem tw13574271583182128247:True:=⟨⟩
theorem tw495128459081179679:True:=⟨⟩
theorem tw9391853156875453712:True:=⟨⟩
theorem tw10721374075511243963:True:=⟨⟩
theorem tw7878033138772502039:True:=⟨⟩
theorem tw16443033303295345867:True:=⟨⟩
theorem tw17147100792893218133:True:=⟨⟩
theorem tw7338023798677133842:True:=⟨⟩
theorem tw16869788424166881166:True:=⟨⟩
theorem tw13212484864201001264:True:=⟨⟩
theorem tw10703100181107440340:True:=⟨⟩
theorem tw4798495693462030847:True:=⟨⟩
theorem tw3824198435457678302:True:=⟨⟩
theorem tw9995487328026292587:True:=⟨⟩
theorem tw12012885633558255775:True:=⟨⟩
theorem tw11678002472851275121:True:=⟨⟩
theorem tw436239040924825418:True:=⟨⟩
theorem tw14622455948156490178:True:=⟨⟩
theorem tw12457404524120416536:True:=⟨⟩
theorem tw8702433032709119884:True:=⟨⟩
theorem tw16849065090814721657:True:=⟨⟩
theorem tw6109892713157184234:True:=⟨⟩
theorem tw13440616945223444687:True:=⟨⟩
theorem tw5403631299640628831:True:=⟨⟩
theorem tw13096175788023228451:True:=⟨⟩
theorem tw16731645388422200541:True:=⟨⟩
theorem tw11042091492466369129:True:=⟨⟩
theorem tw6150186401607814826:True:=⟨⟩
theorem tw12445225312917837718:True:=⟨⟩
theorem tw7994797637083098196:True:=⟨⟩
theorem tw3741018558954807939:True:=⟨⟩
theorem tw12634365440293791355:True:=⟨⟩
theorem tw4850505593637134073:True:=⟨⟩
theorem tw12157568004689020864:True:=⟨⟩
theorem tw1538669624781519542:True:=⟨⟩
theorem tw18308831281445402680:True:=⟨⟩
theorem tw455226871261296585:True:=⟨⟩
theorem tw28494487383914827:True:=⟨⟩
theorem tw1807467741514441049:True:=⟨⟩
theorem tw15139305840266156368:True:=⟨⟩
theorem tw17481346855598148655:True:=⟨⟩
theorem tw12739371449619984134:True:=⟨⟩
theorem tw14539770665415437779:True:=⟨⟩
theorem tw14768032080971381948:True:=⟨⟩
theorem tw3374617949513176842:True:=⟨⟩
theorem tw7779358234832003848:True:=⟨⟩
theorem tw13151919573606928343:True:=⟨⟩
theorem tw5669459292522429409:True:=⟨⟩
theorem tw3723907682191922478:True:=⟨⟩
theorem tw10488517813134506325:True:=⟨⟩
theorem tw4198117270206065324:True:=⟨⟩
theorem tw9409891617203431856:True:=⟨⟩
theorem tw15492323407724335753:True:=⟨⟩
theorem tw6035988197027828148:True:=⟨⟩
theorem tw1793680489414716721:True:=⟨⟩
theorem tw7355911924254630962:True:=⟨⟩
theorem tw18321554998412769681:True:=⟨⟩
theorem tw671025725485971749:True:=⟨⟩
theorem tw12417224451031024243:True:=⟨⟩
theorem tw14843686090213428247:True:=⟨⟩
theorem tw8244936437637232530:True:=⟨⟩
theorem tw13483282091311548849:True:=⟨⟩
theorem tw17707166920541356356:True:=⟨⟩
theorem tw3008003178381533324:True:=⟨⟩
theorem tw18254182257101154620:True:=⟨⟩
theorem tw17817784119796082099:True:=⟨⟩
theorem tw16656711353224635877:True:=⟨⟩
theorem tw14635378613712575111:True:=⟨⟩
theorem tw4629215598541404829:True:=⟨⟩
theorem tw1170521588766115954:True:=⟨⟩
theorem tw3039573449309901282:True:=⟨⟩
theorem tw678899988223414644:True:=⟨⟩
theorem tw13614904915722868902:True:=⟨⟩
theorem tw8488376709201632658:True:=⟨⟩
theorem tw1606522781979214879:True:=⟨⟩
theorem tw11579680645842987771:True:=⟨⟩
theorem tw1378387391313307208:True:=⟨⟩
theorem tw16272811664079887230:True:=⟨⟩
theorem tw9373156094520592099:True:=⟨⟩
theorem tw6996584316665414704:True:=⟨⟩
theorem tw6567351127287974844:True:=⟨⟩
theorem tw2473472067350729773:True:=⟨⟩
theorem tw7652190701560437932:True:=⟨⟩
theorem tw16115741205520468626:True:=⟨⟩
theorem tw8567668598671978758:True:=⟨⟩
theorem tw9792515409307542109:True:=⟨⟩
theorem tw2691447131764034568:True:=⟨⟩
theorem tw6924222983375910762:True:=⟨⟩
theorem tw5715246327684338128:True:=⟨⟩
theorem tw9928178222119250237:True:=⟨⟩
theorem tw879331741549907865:True:=⟨⟩
theorem tw2365598951017070614:True:=⟨⟩
theorem tw17818387768043340142:True:=⟨⟩
theorem tw3518431907019063600:True:=⟨⟩
theorem tw11230880312099246714:True:=⟨⟩
theorem tw13205680914928178637:True:=⟨⟩
theorem tw15589428086863330904:True:=⟨⟩
theorem tw14111097432062686370:True:=⟨⟩
theorem tw6214188540488966333:True:=⟨⟩
theorem tw3651849931361635892:True:=⟨⟩
theorem tw4601598183391198353:True:=⟨⟩
theorem tw15202388556175750299:True:=⟨⟩
theorem tw9490730077522194144:True:=⟨⟩
theorem tw154315569736682197:True:=⟨⟩
theorem tw12257624437273330086:True:=⟨⟩
theorem tw4413353723100058684:True:=⟨⟩
theorem tw5323188754124861763:True:=⟨⟩
theorem tw734787958221842752:True:=⟨⟩
theorem tw13250091654368158078:True:=⟨⟩
theorem tw3553905303380326932:True:=⟨⟩
theorem tw3585818806002788521:True:=⟨⟩
theorem tw3416286579343265572:True:=⟨⟩
theorem tw16337955952520308774:True:=⟨⟩
theorem tw7538485151195171130:True:=⟨⟩
theorem tw3718857149463873768:True:=⟨⟩
theorem tw14417148838240118341:True:=⟨⟩
theorem tw9360206155403234339:True:=⟨⟩
theorem tw17627493139188911309:True:=⟨⟩
theorem tw9941271556818407134:True:=⟨⟩
theorem tw3908225870834379431:True:=⟨⟩
theorem tw15862376404431751570:True:=⟨⟩
theorem tw1498904001340856895:True:=⟨⟩
theorem tw6873583933182992610:True:=⟨⟩
theorem tw12436319882516799629:True:=⟨⟩
theorem tw13927255344943891570:True:=⟨⟩
theorem tw13278966966618579186:True:=⟨⟩
theorem tw15666556980101696111:True:=⟨⟩
theorem tw7201533913184286658:True:=⟨⟩
theorem tw17947849409904723231:True:=⟨⟩
theorem tw8338916948533015454:True:=⟨⟩
theorem tw15400386629497831086:True:=⟨⟩
theorem tw8884590602440820071:True:=⟨⟩
theorem tw16325402397645385523:True:=⟨⟩
theorem tw15672057197418507788:True:=⟨⟩
theorem tw13558210098809578752:True:=⟨⟩
theorem tw17073442414120915339:True:=⟨⟩
theorem tw10293250378804917830:True:=⟨⟩
theorem tw11992400169104739860:True:=⟨⟩
theorem tw16624215229766345286:True:=⟨⟩
theorem tw15643617000092566005:True:=⟨⟩
theorem tw16406571703364476665:True:=⟨⟩
theorem tw10447494569711153728:True:=⟨⟩
theorem tw3516820218940937382:True:=⟨⟩
theorem tw11050991297714141075:True:=⟨⟩
theorem tw7846762230639242974:True:=⟨⟩
theorem tw8608046166890646057:True:=⟨⟩
theorem tw3162988352852043876:True:=⟨⟩
theorem tw18411230518011538447:True:=⟨⟩
theorem tw632840965300150218:True:=⟨⟩
theorem tw15044324718123615773:True:=⟨⟩
theorem tw10644633653884718407:True:=⟨⟩
theorem tw2477904596222973074:True:=⟨⟩
theorem tw13060639381198476074:True:=⟨⟩
theorem tw4543575232158506449:True:=⟨⟩
theorem tw3959919445101943714:True:=⟨⟩
theorem tw465053734509709063:True:=⟨⟩
theorem tw15959652647919926196:True:=⟨⟩
theorem tw2754729405561717065:True:=⟨⟩
theorem tw1986206867558056127:True:=⟨⟩
theorem tw6912889734785712464:True:=⟨⟩
theorem tw9829095348275079281:True:=⟨⟩
theorem tw4763269371269560071:True:=⟨⟩
theorem tw13635373862063122277:True:=⟨⟩
theorem tw7155975145970720633:True:=⟨⟩
theorem tw9770264975573687469:True:=⟨⟩
theorem tw4691855687526147308:True:=⟨⟩
theorem tw8681563067724037125:True:=⟨⟩
theorem tw12604460546908559629:True:=⟨⟩
theorem tw10602324115004383975:True:=⟨⟩
theorem tw18414463054721624813:True:=⟨⟩
theorem tw9355547682003399170:True:=⟨⟩
theorem tw15569336753611646598:True:=⟨⟩
theorem tw11527567801120364827:True:=⟨⟩
theorem tw3060411220161446130:True:=⟨⟩
theorem tw17145940123404756739:True:=⟨⟩
theorem tw2020058349328835956:True:=⟨⟩
theorem tw14632511526876519933:True:=⟨⟩
theorem tw15949629735686682237:True:=⟨⟩
theorem tw2715743751889927323:True:=⟨⟩
theorem tw3599840599690631482:True:=⟨⟩
theorem tw6434245986286233471:True:=⟨⟩
theorem tw14610552313070066380:True:=⟨⟩
theorem tw15347090377752923193:True:=⟨⟩
theorem tw9118997147861610458:True:=⟨⟩
theorem tw14834388237984625782:True:=⟨⟩
theorem tw5787363077701712882:True:=⟨⟩
theorem tw12149550743476515854:True:=⟨⟩
theorem tw8152875187190830645:True:=⟨⟩
theorem tw3815802477331548579:True:=⟨⟩
theorem tw14403583953127318773:True:=⟨⟩
theorem tw17888233615626785633:True:=⟨⟩
theorem tw10731064137696000226:True:=⟨⟩
theorem tw488513250898516850:True:=⟨⟩
theorem tw16397600742980456287:True:=⟨⟩
theorem tw7280321164186503361:True:=⟨⟩
theorem tw15290473183258774105:True:=⟨⟩
theorem tw12192868276118031591:True:=⟨⟩
theorem tw13751902988793725677:True:=⟨⟩
theorem tw17267124531261721334:True:=⟨⟩
theorem tw5501893628730166400:True:=⟨⟩
theorem tw7682140274039224878:True:=⟨⟩
theorem tw10950806334736096025:True:=⟨⟩
theorem tw14859998318728952049:True:=⟨⟩
theorem tw13659317175855388907:True:=⟨⟩
theorem tw1184883183971771353:True:=⟨⟩
theorem tw3366945345360527483:True:=⟨⟩
theorem tw4021866365300460119:True:=⟨⟩
theorem tw8602264150632403920:True:=⟨⟩
theorem tw18154138808348462138:True:=⟨⟩
theorem tw14689962459322763143:True:=⟨⟩
theorem tw4324305541831335197:True:=⟨⟩
theorem tw10591819175960179971:True:=⟨⟩
theorem tw15468891766581136319:True:=⟨⟩
theorem tw7943558708067978445:True:=⟨⟩
theorem tw5184210010277179194:True:=⟨⟩
theorem tw7915154977043521276:True:=⟨⟩
theorem tw9513912350945943664:True:=⟨⟩
theorem tw4374835585219773227:True:=⟨⟩
theorem tw2003108837085733535:True:=⟨⟩
theorem tw11108541144360216934:True:=⟨⟩
theorem tw6189765042506286653:True:=⟨⟩
theorem tw7766086017694776522:True:=⟨⟩
theorem tw6327703153718492871:True:=⟨⟩
theorem tw8345275608337588832:True:=⟨⟩
theorem tw14116166892048723703:True:=⟨⟩
theorem tw10721083565636592448:True:=⟨⟩
theorem tw6337627093613825852:True:=⟨⟩
theorem tw12931001339626642624:True:=⟨⟩
theorem tw12513024514309951133:True:=⟨⟩
theorem tw14621641464133817886:True:=⟨⟩
theorem tw6427248145555327326:True:=⟨⟩
theorem tw15617241008474802324:True:=⟨⟩
theorem tw1761470061159540854:True:=⟨⟩
theorem tw12234747510244227511:True:=⟨⟩
theorem tw16594342597212891052:True:=⟨⟩
theorem tw6043215808874322062:True:=⟨⟩
theorem tw3426407870152028728:True:=⟨⟩
theorem tw15226686594143366996:True:=⟨⟩
theorem tw3619524929709101672:True:=⟨⟩
theorem tw1379647693624443064:True:=⟨⟩
theorem tw5861803763078898607:True:=⟨⟩
theorem tw6470078606771314383:True:=⟨⟩
theorem tw11994575986484705769:True:=⟨⟩
theorem tw11384909844162345364:True:=⟨⟩
theorem tw1782982982168870244:True:=⟨⟩
theorem tw15842190768098354805:True:=⟨⟩
theorem tw1637764767407414686:True:=⟨⟩
theorem tw4027804936395056901:True:=⟨⟩
theorem tw6350420478773268873:True:=⟨⟩
theorem tw5129542253466960231:True:=⟨⟩
theorem tw1221150653621781483:True:=⟨⟩
theorem tw3737006768337655560:True:=⟨⟩
theorem tw7461226128529397166:True:=⟨⟩
theorem tw10075907547374887284:True:=⟨⟩
theorem tw10913040095050782711:True:=⟨⟩
theorem tw9531205350313926271:True:=⟨⟩
theorem tw11316948998536544271:True:=⟨⟩
theorem tw1228579827060143638:True:=⟨⟩
theorem tw5551364472244222447:True:=⟨⟩
theorem tw16180447628552648461:True:=⟨⟩
theorem tw12629004911928795544:True:=⟨⟩
theorem tw11739663969554428608:True:=⟨⟩
theorem tw16956924950141564874:True:=⟨⟩
theorem tw9562342166947275404:True:=⟨⟩
theorem tw7782853791240081864:True:=⟨⟩
theorem tw11761783363533454726:True:=⟨⟩
theorem tw5048856489562250464:True:=⟨⟩
theorem tw12781313204199110460:True:=⟨⟩
theorem tw10618074914856527326:True:=⟨⟩
theorem tw4932206669529671655:True:=⟨⟩
theorem tw6481790235674527604:True:=⟨⟩
theorem tw9042836830059360321:True:=⟨⟩
theorem tw6736718584261344691:True:=⟨⟩
theorem tw8111048892580906322:True:=⟨⟩
theorem tw11371779068240914634:True:=⟨⟩
theorem tw11953789313455069782:True:=⟨⟩
theorem tw10444688779113415825:True:=⟨⟩
theorem tw1559253145245704975:True:=⟨⟩
theorem tw13851534153660637004:True:=⟨⟩
theorem tw3820812874288717432:True:=⟨⟩
theorem tw8717858307332271353:True:=⟨⟩
theorem tw16960276959775096947:True:=⟨⟩
theorem tw12163938194074546280:True:=⟨⟩
theorem tw2141585279389381560:True:=⟨⟩
theorem tw3176823270566489979:True:=⟨⟩
theorem tw11012133031883839125:True:=⟨⟩
theorem tw2365882591182811124:True:=⟨⟩
theorem tw2302390121510579953:True:=⟨⟩
theorem tw13133741867116811492:True:=⟨⟩
theorem tw2632999059643194345:True:=⟨⟩
theorem tw10128901787671631795:True:=⟨⟩
theorem tw9070725877268129172:True:=⟨⟩
theorem tw17802065838868030979:True:=⟨⟩
theorem tw14146290174317464261:True:=⟨⟩
theorem tw1824186868024154408:True:=⟨⟩
theorem tw4927592320038939186:True:=⟨⟩
theorem tw11055000415274004888:True:=⟨⟩
theorem tw16172917577187031124:True:=⟨⟩
theorem tw15248693866857963400:True:=⟨⟩
theorem tw4239801698164698727:True:=⟨⟩
theorem tw4600053049455845579:True:=⟨⟩
theorem tw13147537959811698225:True:=⟨⟩
theorem tw17638846812024763172:True:=⟨⟩
theorem tw12954190415987143388:True:=⟨⟩
theorem tw11372464615732834665:True:=⟨⟩
theorem tw16561387868684437042:True:=⟨⟩
theorem tw4068574049313156778:True:=⟨⟩
theorem tw6350459708825596694:True:=⟨⟩
theorem tw16431421315131912879:True:=⟨⟩
theorem tw14952560413770442240:True:=⟨⟩
theorem tw16812000890017170564:True:=⟨⟩
theorem tw7144361534888875730:True:=⟨⟩
theorem tw1607359778028912606:True:=⟨⟩
theorem tw4286442621627311918:True:=⟨⟩
theorem tw18151181607639856655:True:=⟨⟩
theorem tw4204053952690414810:True:=⟨⟩
theorem tw8770295426257303531:True:=⟨⟩
theorem tw7799224022576691580:True:=⟨⟩
theorem tw8602063508695124744:True:=⟨⟩
theorem tw15546502199583259009:True:=⟨⟩
theorem tw13210000012512082162:True:=⟨⟩
theorem tw14694688367385368838:True:=⟨⟩
theorem tw4751548433848981488:True:=⟨⟩
theorem tw3624604660143973072:True:=⟨⟩
theorem tw15276903018107045063:True:=⟨⟩
theorem tw13546361088021459067:True:=⟨⟩
theorem tw4963137050434358267:True:=⟨⟩
theorem tw8064098437163832319:True:=⟨⟩
theorem tw2864063593793082149:True:=⟨⟩
theorem tw18400088834428278346:True:=⟨⟩
theorem tw6600253871031309994:True:=⟨⟩
theorem tw11577479334058310310:True:=⟨⟩
theorem tw10037720933117378140:True:=⟨⟩
theorem tw17760993225400693553:True:=⟨⟩
theorem tw6436725055793283146:True:=⟨⟩
theorem tw2363350376040455893:True:=⟨⟩
theorem tw7968551205423833495:True:=⟨⟩
theorem tw17496546766890260434:True:=⟨⟩
theorem tw14204140454265870205:True:=⟨⟩
theorem tw16331554596083815013:True:=⟨⟩
theorem tw5806904728121802022:True:=⟨⟩
theorem tw15377989224762724923:True:=⟨⟩
theorem tw1382625753628208910:True:=⟨⟩
theorem tw2114860189397586144:True:=⟨⟩
theorem tw3770764029452721799:True:=⟨⟩
theorem tw1981142057609775664:True:=⟨⟩
theorem tw2306564796461117462:True:=⟨⟩
theorem tw17281879600866117378:True:=⟨⟩
theorem tw11701744394855879140:True:=⟨⟩
theorem tw3265346925332311075:True:=⟨⟩
theorem tw5728698702959214375:True:=⟨⟩
theorem tw7068093067380802205:True:=⟨⟩
theorem tw11133414224523935184:True:=⟨⟩
theorem tw831036070870038732:True:=⟨⟩
theorem tw4401382075244213475:True:=⟨⟩
theorem tw12183277599493791227:True:=⟨⟩
theorem tw3643906265717732846:True:=⟨⟩
theorem tw12862986623866168748:True:=⟨⟩
theorem tw11507172954068067335:True:=⟨⟩
theorem tw17159775638472827658:True:=⟨⟩
theorem tw12339949732086949087:True:=⟨⟩
theorem tw13577212024481763333:True:=⟨⟩
theorem tw13906209037894383116:True:=⟨⟩
theorem tw7962800198453762518:True:=⟨⟩
theorem tw13245189117087790637:True:=⟨⟩
theorem tw4119218157255179802:True:=⟨⟩
theorem tw4849837345345873991:True:=⟨⟩
theorem tw4999074939351099739:True:=⟨⟩
theorem tw3802939414444043193:True:=⟨⟩
theorem tw5733962648293557208:True:=⟨⟩
theorem tw1590952377619339422:True:=⟨⟩
theorem tw11569419401438659093:True:=⟨⟩
theorem tw10066114333043385185:True:=⟨⟩
theorem tw8243197725427162660:True:=⟨⟩
theorem tw704094290386127427:True:=⟨⟩
theorem tw17222664045780316027:True:=⟨⟩
theorem tw5760309572425607237:True:=⟨⟩
theorem tw14547437427839808660:True:=⟨⟩
theorem tw13108447403313680598:True:=⟨⟩
theorem tw15968175392794480330:True:=⟨⟩
theorem tw13737884489161096914:True:=⟨⟩
theorem tw6128012118525340935:True:=⟨⟩
theorem tw16822612339392221130:True:=⟨⟩
theorem tw6214380474474902753:True:=⟨⟩
theorem tw14974097653545058736:True:=⟨⟩
theorem tw7021149611694721980:True:=⟨⟩
theorem tw10767604201866457026:True:=⟨⟩
theorem tw7915419460485410719:True:=⟨⟩
theorem tw6900102129268198347:True:=⟨⟩
theorem tw2094759583737248971:True:=⟨⟩
theorem tw14960886798274596752:True:=⟨⟩
theorem tw6820780868853814717:True:=⟨⟩
theorem tw10715318373933823536:True:=⟨⟩
theorem tw5122570350836030927:True:=⟨⟩
theorem tw17855384440576655681:True:=⟨⟩
theorem tw6794675014373893318:True:=⟨⟩
theorem tw15347306734754940101:True:=⟨⟩
theorem tw4408495112773585486:True:=⟨⟩
theorem tw16390675909895890737:True:=⟨⟩
theorem tw16605016588282615384:True:=⟨⟩
theorem tw5685796116856793224:True:=⟨⟩
theorem tw12909342340256747803:True:=⟨⟩
theorem tw10499715667789683743:True:=⟨⟩
theorem tw943716715956239945:True:=⟨⟩
theorem tw5510414504796400488:True:=⟨⟩
theorem tw5004105663482390416:True:=⟨⟩
theorem tw15958450768906619938:True:=⟨⟩
theorem tw16902340890907823331:True:=⟨⟩
theorem tw11282430254471860436:True:=⟨⟩
theorem tw18070917177879699313:True:=⟨⟩
theorem tw9869512896089096556:True:=⟨⟩
theorem tw2514861476960466537:True:=⟨⟩
theorem tw15190797937224467050:True:=⟨⟩
theorem tw18391155935228115036:True:=⟨⟩
theorem tw17452355681580642429:True:=⟨⟩
theorem tw7040657554587132378:True:=⟨⟩
theorem tw15061379609708409920:True:=⟨⟩
theorem tw11250206590638371777:True:=⟨⟩
theorem tw11374019656007623269:True:=⟨⟩
theorem tw331311922094808091:True:=⟨⟩
theorem tw6802725466080223606:True:=⟨⟩
theorem tw9305998527888157533:True:=⟨⟩
theorem tw15902284891858485046:True:=⟨⟩
theorem tw13590567465689965163:True:=⟨⟩
theorem tw1389641716500457422:True:=⟨⟩
theorem tw4596927159669386851:True:=⟨⟩
theorem tw15048058756693507586:True:=⟨⟩
theorem tw11539556534233449701:True:=⟨⟩
theorem tw4797623924254395695:True:=⟨⟩
theorem tw13170648910478242193:True:=⟨⟩
theorem tw5001160737161284680:True:=⟨⟩
theorem tw2170235944180050815:True:=⟨⟩
end fin0
set_option maxHeartbeats 100000000 in
set_option Elab.async true in
theorem fin0 : PySem.Challenge.rw_iu0052_01.Holds:=by
 w_on;o_law;o_head (kHook pre.heap_1 adrs (fun _ => by kernel_rfl));(case hw => w_witness2)
 show WalkO vw _ _ _ _ _ _ _
 k_go0
 rename_i w s₀ s₁ mg mb G Y fa o pm doc kV ho hg KX X V GL T B TE TW a1 a2 M a3 a4 hcd ns hs hlay0 hL0 hr hl2 b1 b2 la vs b3 hL ra w1 r0 hI hrr hcond hcond2 K0 hD h₁ F N0
 refine enter F KX T rfl (fun A s C hout F O => ?_) (fun fl s' m' hfl F' hgens hos => ?_)
 ·clear hD hcd TE TW B GL V G Y ho M ra w1 r0 hrr hcond2 hs hlay0 hL0 hr hl2 N0 K0
  clear X
  intro env R
  have X:=KX
  have S0:=Same.refl s
  dsimp only
  have hvl : vs.length = ns.length:=IntsAre.length hI
  have hn63 : vs.length ≤ 63:=by lia
  have gi : ∀ i,i < vs.length → ∃ x t,vs[i]? = some (Value.int x t):=fun i h => by
   refine holdP ?_;intro G;rcases (of_ints hI).get2 (List.getElem?_eq_getElem h) with ⟨x,h1,t,h2⟩;unfold G;clear G
   exact ⟨x,t,by rw [List.getElem?_eq_getElem h,h2]⟩
  refine cut (ι:=[]) (g:=s₁.heap) (L:=s₁.heap.objs.size) (fun m σ' => σ' = (fun _ => none) ∧ m (Str.ofString "script") = some (.ref la) ∧ ∃ x t,m (Str.ofString "head") = some (.int x t)) ?_ fun m₂ σ₂ s₂ q₂ F₂ O₂ J₂ => ?_
  ·iterate 3 walk1
   first | refine xN ?_ | walk1
   refine btruthy ‹_› ‹_› hL (by lia) fun s₂ q₂ F₂ O₂ => ?_
   have qq₂:=Same.trans S0 q₂
   cases hv0 : vs with
   | nil =>
    simp only [List.isEmpty_nil,Bool.not_true,Bool.false_eq_true,if_false]
    walk1
    refine xS ?_;intros
    show Mid _ _ _ _ _ _ _
    exact Mid.mk' ‹_› ‹_› ‹_› ⟨rfl,rfl,_,_,rfl⟩
   | cons v0 vr =>
    simp only [List.isEmpty_cons,Bool.not_false,if_true]
    refine xe21 (gi 0 (by rw [hv0];simp)) fun x0 t0 hx0 => ?_
    walk1
    first | refine xN ?_ | walk1
    walk1
    refine bsub ‹_› ‹_› hL hx0 rfl (by lia) fun s₃ q₃ F₃ O₃ => ?_
    have qq₃:=Same.trans qq₂ q₃
    refine xS ?_;intros
    show Mid _ _ _ _ _ _ _
    exact Mid.mk' ‹_› ‹_› ‹_› ⟨rfl,rfl,_,_,rfl⟩
  refine holdP ?_;intro G;rcases J₂ with ⟨rfl,m1,x0,t0,m2⟩;unfold G;clear G
  have qq₂:=q₂
  have S2:=Same.refl s₂
  refine cut (ι:=[]) (g:=s₁.heap) (L:=s₁.heap.objs.size) (fun m σ' => σ' = (fun _ => none) ∧ m (Str.ofString "script") = some (.ref la) ∧ (∃ x t,m (Str.ofString "head") = some (.int x t)) ∧ ∃ (kk : Nat) (t : Tok),m (Str.ofString "k") = some (.int kk t) ∧ kk ≤ 2) ?_ fun m₃ σ₃ s₃ q₃ F₃ O₃ J₃ => ?_
  ·iterate 2 walk1
   first | refine xN ?_ | walk1
   iterate 2 walk1
   refine xS ?_;intros
   show Mid _ _ _ _ _ _ _
   have h1:=Int.fmod_nonneg_of_pos x0 (b:=3) (by decide)
   have h2:=Int.fmod_lt_of_pos x0 (b:=3) (by decide)
   refine Mid.mk' ‹_› ‹_› ‹_› ⟨rfl,(by exact m1),⟨x0,t0,(by exact m2)⟩,(Int.fmod x0 3).toNat,_,(by rw [show (((Int.fmod x0 3).toNat : Nat) : Int) = Int.fmod x0 3 from by exact xs25 ‹_›];rfl),by exact xs25c ‹_›⟩
  refine holdP ?_;intro G;rcases J₃ with ⟨rfl,m1,⟨x0,t0,m2⟩,kk,t2,m3,hkk⟩;unfold G;clear G
  have qq₃:=Same.trans qq₂ q₃
  have S3:=Same.refl s₃
  refine cut (ι:=[]) (g:=s₁.heap) (L:=s₁.heap.objs.size) (fun m σ' => σ' = (fun _ => none) ∧ m (Str.ofString "script") = some (.ref la) ∧ (∃ x t,m (Str.ofString "head") = some (.int x t)) ∧ m (Str.ofString "k") = some (.int kk t2) ∧ ∃ tm t,m (Str.ofString "term") = some (.str (sw tm) t) ∧ tm.length ≤ 4 ∧ (kk = 2 → tm.length ≤ 2) ∧ ∀ c ∈ tm,97 ≤ c ∧ c ≤ 99) ?_ fun m₄ σ₄ s₄ q₄ F₄ O₄ J₄ => ?_
  ·iterate 2 walk1
   first | refine xN ?_ | walk1
   iterate 2 walk1
   refine evCut (ι:=[]) (g:=s₁.heap) (L:=s₁.heap.objs.size) (m:=m₃) (σ:=fun _ => none) (fun v => ∃ x t,v = Value.int x t) ?_ (fun v s₅ q₅ F₅ O₅ hP => ?_)
   ·iterate 3 walk1
    first | refine xN ?_ | walk1
    iterate 2 walk1
    first | refine xN ?_ | walk1
    walk1
    refine blen ‹_› ‹_› hL (by lia) fun s₅ t5 q₅ F₅ O₅ => ?_
    have qq₅:=Same.trans ‹_› q₅
    iterate 3 walk1
    by_cases h1 : 1 < vs.length
    ·rw [show decide ((1 : Int) < (vs.length : Int)) = true from decide_eq_true (by lia)]
     simp only [if_true]
     refine xe21 (gi 1 h1) fun xa ta hxa => ?_
     walk1
     first | refine xN ?_ | walk1
     walk1
     refine bsub ‹_› ‹_› hL hxa rfl (by lia) fun s₆ q₆ F₆ O₆ => ?_
     exact ⟨Same.trans ‹_› q₆,F₆,O₆,_,_,rfl⟩
    rw [show decide ((1 : Int) < (vs.length : Int)) = false from decide_eq_false (by lia)]
    simp only [Bool.false_eq_true,if_false]
    walk1
    exact ⟨by assumption,by assumption,by assumption,_,_,rfl⟩
   refine xe21 hP fun xn tn zq1 => ?_
   try clear hP
   subst zq1
   have S5:=Same.refl s₅
   have qqL:=Same.trans S3 q₅
   walk1
   refine evCut (ι:=[]) (g:=s₁.heap) (L:=s₁.heap.objs.size) (m:=m₃) (σ:=fun _ => none) (fun v => ∃ (mo : Nat) (t : Tok),v = Value.int mo t ∧ mo ≤ 4 ∧ (kk = 2 → mo ≤ 2)) ?_ (fun v s₆ q₆ F₆ O₆ hP => ?_)
   ·iterate 2 walk1
    first | refine xN ?_ | walk1
    iterate 3 walk1
    by_cases hk2 : kk = 2
    ·rw [show (((kk : Nat) : Int) == 2) = true from by simp [hk2]]
     simp only [if_true]
     walk1
     exact ⟨by assumption,by assumption,by assumption,2,_,rfl,by lia,fun _ => by exact xs43⟩
    rw [show (((kk : Nat) : Int) == 2) = false from by simp;lia]
    simp only [Bool.false_eq_true,if_false]
    walk1
    exact ⟨by assumption,by assumption,by assumption,4,_,rfl,by exact xs43,fun h => absurd h hk2⟩
   refine xe23 hP fun mo tmo zq2 hmo4 hmo2 => ?_
   try clear hP
   subst zq2
   have S6:=Same.refl s₆
   have qqM:=Same.trans qqL q₆
   walk1
   refine ⟨X.keeps F₆.keep,?_⟩
   refine (lawWord w _ xn mo tn tmo (by lia)).call (C.toCx.le (by decide)) ‹_› ‹_› fun v σ₇ s₇ q₇ F₇ O₇ hP => ?_
   have qq₇:=Same.trans qqM q₇
   refine holdP ?_;intro G;rcases hP with ⟨rfl,tm,t3,rfl,htm,htmc⟩;unfold G;clear G
   refine xS ?_;intros
   refine Mid.mk' ‹_› ‹_› ‹_› ⟨rfl,(by exact m1),⟨x0,t0,(by exact m2)⟩,(by exact m3),tm,t3,(by exact rfl),by lia,fun h => by have:=hmo2 h;lia,htmc⟩
  refine holdP ?_;intro G;rcases J₄ with ⟨rfl,m1,⟨x0,t0,m2⟩,m3,tm,t3,m4,htm4,htm2,htmc⟩;unfold G;clear G
  have qq₄:=Same.trans qq₃ q₄
  have S4:=Same.refl s₄
  refine cut (ι:=[]) (g:=s₁.heap) (L:=s₁.heap.objs.size) (fun m σ' => σ' = (fun _ => none) ∧ m (Str.ofString "script") = some (.ref la) ∧ m (Str.ofString "k") = some (.int kk t2) ∧ m (Str.ofString "term") = some (.str (sw tm) t3) ∧ ∃ (p : Nat) (t : Tok),m (Str.ofString "kept") = some (.int p t) ∧ p ≤ tm.length) ?_ fun m₅ σ₅ s₅ q₅ F₅ O₅ J₅ => ?_
  ·iterate 3 walk1
   first | refine xN ?_ | walk1
   iterate 4 walk1
   first | refine xN ?_ | walk1
   iterate 2 walk1
   first | refine xN ?_ | walk1
   walk1
   refine slen ‹_› ‹_› (by lia) fun s₆ t6 q₆ F₆ O₆ => ?_
   have qq₆:=Same.trans ‹_› q₆
   iterate 3 walk1
   refine xS ?_;intros
   show Mid _ _ _ _ _ _ _
   have h1:=Int.fmod_nonneg_of_pos (Int.fdiv x0 3) (b:=(tm.length : Int) + 1) (by lia)
   have h2:=Int.fmod_lt_of_pos (Int.fdiv x0 3) (b:=(tm.length : Int) + 1) (by lia)
   refine Mid.mk' ‹_› ‹_› ‹_› ⟨rfl,(by exact m1),(by exact m3),(by exact m4),(Int.fmod (Int.fdiv x0 3) ((tm.length : Int) + 1)).toNat,_,(by rw [show (((Int.fmod (Int.fdiv x0 3) ((tm.length : Int) + 1)).toNat : Nat) : Int) = Int.fmod (Int.fdiv x0 3) ((tm.length : Int) + 1) from by exact xs25 ‹_›];rfl),by exact xs25c ‹_›⟩
  refine holdP ?_;intro G;rcases J₅ with ⟨rfl,m1,m3,m4,p,t4,m5,hp⟩;unfold G;clear G
  have qq₅:=Same.trans qq₄ q₅
  have S5:=Same.refl s₅
  refine xH ?_;intro _ _
  iterate 4 walk1
  first | refine xN ?_ | walk1
  iterate 18 walk1
  refine znewListG ‹_› ‹_› (by simp) fun s₆ sg σ₆ _ hsg q₆ F₆ O₆ => ?_
  have qq₆:=Same.trans ‹_› q₆
  refine xS ?_;intros
  refine xH ?_;intro _ _
  iterate 2 walk1
  refine xS ?_;intros
  rename_i s₇ F₇ O₇ q₇
  have S7:=Same.refl s₇
  show wpAny _ _ _ _ _ _
  refine cut (ι:=[]) (g:=s₁.heap) (L:=s₁.heap.objs.size) (fun m σ' => m (Str.ofString "k") = some (.int kk t2) ∧ m (Str.ofString "term") = some (.str (sw tm) t3) ∧ m (Str.ofString "kept") = some (.int p t4) ∧ ∃ u t,m (Str.ofString "text") = some (.str (sw u) t) ∧ u.length ≤ 6 ∧ ∀ c ∈ u,c < 1000000) ?_ fun m₈ σ₈ s₈ q₈ F₈ O₈ J₈ => ?_
  ·refine wpAny_For ?_
   walk1
   first | refine xN ?_ | walk1
   iterate 4 walk1
   iterate 2 walk1
   refine bslice (s:=⟨_,_,_,_,_⟩) ‹_› ‹_› hL (by lia) fun s₉ D zs hD q₉ F₉ O₉ hz6 hzin => ?_
   have qq₉ : Same s₇ s₉:=Same.trans ‹_› q₉
   have hsgD:=(Ext.upd (o:=listOf zs.toArray 0) hD) _ _ hsg
   have hDD:=upd_self σ₆ D (listOf zs.toArray 0)
   refine forLst (cn:=0) (vs:=zs) (fun i m σ' => LpJ zs D sg kk p tm t2 t3 t4 i m σ') C.hh ‹_› ‹_› (fun i m σ h => h.hD) ⟨(by exact m3),(by exact m4),(by exact m5),(by exact rfl),⟨_,_,hsgD,by simp,?_⟩,hDD,[],_,(by exact rfl),rfl,by simp⟩ (fun i v mA σA sA ι' back qA hv JA FA OA => ?_) fun mA σA sA qA FA OA JA => ?_
   ·intro j hj
    rcases j with _ | _ | _ | _ | _ | _ | _ | j
    ·exact ⟨0,_,rfl,by decide⟩
    ·exact ⟨96,_,rfl,by decide⟩
    ·exact ⟨97,_,rfl,by decide⟩
    ·exact ⟨98,_,rfl,by decide⟩
    ·exact ⟨99,_,rfl,by decide⟩
    ·exact ⟨100,_,rfl,by decide⟩
    ·exact ⟨126,_,rfl,by decide⟩
    exact absurd hj (Nat.not_lt.mpr (Nat.le_add_left 7 j))
   ·clear qA
    refine holdP ?_;intro G;rcases JA with ⟨n3,n4,n5,n6,⟨SG,cn,hsgA,hSGl,hSG⟩,hDA,u,tu,n7,hul,huc⟩;unfold G;clear G
    have hiz : i < zs.length:=(List.getElem?_eq_some_iff.mp hv).1
    have hvm:=hzin v (List.mem_of_getElem? hv)
    refine xe11 (List.mem_iff_getElem?.mp hvm) fun iv hiv => ?_
    refine xe21 (gi iv (List.getElem?_eq_some_iff.mp hiv).1) fun xv tv hxv => ?_
    rw [hiv] at hxv
    cases hxv
    have SA:=Same.refl sA
    refine xH ?_;intro _ _
    iterate 2 walk1
    first | refine xN ?_ | walk1
    iterate 2 walk1
    refine xS ?_;intros
    refine xH ?_;intro _ _
    iterate 2 walk1
    first | refine xN ?_ | walk1
    iterate 3 walk1
    have hb1:=Int.fmod_nonneg_of_pos xv (b:=10) (by decide)
    have hb2:=Int.fmod_lt_of_pos xv (b:=10) (by decide)
    by_cases h7 : (Int.fmod xv 10) < 7
    ·rw [show decide ((Int.fmod xv 10) < 7) = true from decide_eq_true h7]
     simp only [if_true]
     refine xe22 (hSG (Int.fmod xv 10).toNat (by exact xs25e ‹_› ‹_›)) fun cS tS hS hcS => ?_
     refine xH ?_;intro _ _
     iterate 2 walk1
     first | refine xN ?_ | walk1
     walk1
     first | refine xN ?_ | walk1
     first | refine xN ?_ | walk1
     refine lsub ‹_› ‹_› hsgA hS (by exact xs25b ‹_›) (by have:=(List.getElem?_eq_some_iff.mp hS).1;lia) fun s₁₀ q₁₀ F₁₀ O₁₀ => ?_
     have qq₁₀:=Same.trans ‹_› q₁₀
     refine add_str (fun t' tk' => ?_) (by rw [sizeLine_eq];show (sw u).length + 1 ≤ _;simp [Str.length];lia)
     rw [show ((sw u : Str) ++ ch cS : Str) = sw (u ++ [cS]) from sw_app u [cS]]
     refine xS ?_;intros
     iterate 2 walk1
     show Turn _ _ _ _ _ _ _
     refine Turn.mk' ‹_› ‹_› ‹_› ⟨(by exact n3),(by exact n4),(by exact n5),(by exact n6),⟨SG,cn,hsgA,hSGl,hSG⟩,hDA,u ++ [cS],t',(by exact rfl),by simp;lia,fun c hc => ?_⟩
     rcases List.mem_append.mp hc with h | h
     ·exact huc c h
     simp only [List.mem_singleton] at h;rw [h];exact hcS
    rw [show decide ((Int.fmod xv 10) < 7) = false from decide_eq_false h7]
    simp only [Bool.false_eq_true,if_false]
    refine xH ?_;intro _ _
    iterate 3 walk1
    first | refine xN ?_ | walk1
    iterate 2 walk1
    first | refine xN ?_ | walk1
    walk1
    refine slen ‹_› ‹_› (by lia) fun s₁₀ t10 q₁₀ F₁₀ O₁₀ => ?_
    have qq₁₀:=Same.trans ‹_› q₁₀
    walk1
    first | refine xN ?_ | walk1
    iterate 2 walk1
    first | refine xN ?_ | walk1
    walk1
    refine slen ‹_› ‹_› (by lia) fun s₁₁ t11 q₁₁ F₁₁ O₁₁ => ?_
    have qq₁₁:=Same.trans ‹_› q₁₁
    iterate 2 walk1
    by_cases hlt : u.length < tm.length
    ·rw [show decide ((u.length : Int) < (tm.length : Int)) = true from decide_eq_true (by lia)]
     simp only [if_true]
     refine xH ?_;intro _ _
     iterate 2 walk1
     first | refine xN ?_ | walk1
     walk1
     first | refine xN ?_ | walk1
     walk1
     first | refine xN ?_ | walk1
     iterate 2 walk1
     first | refine xN ?_ | walk1
     walk1
     refine slen ‹_› ‹_› (by lia) fun s₁₂ t12 q₁₂ F₁₂ O₁₂ => ?_
     have qq₁₂:=Same.trans ‹_› q₁₂
     refine ssub (c:=tm.getD u.length 0) (i:=u.length) ‹_› ‹_› (by rw [List.getD_eq_getElem?_getD,List.getElem?_eq_getElem hlt];rfl) rfl (by lia) fun s₁₃ t13 q₁₃ F₁₃ O₁₃ => ?_
     have qq₁₃:=Same.trans ‹_› q₁₃
     have hct : tm.getD u.length 0 < 1000000:=by
      rw [List.getD_eq_getElem?_getD,List.getElem?_eq_getElem hlt]
      have:=htmc _ (List.getElem_mem hlt)
      simp only [Option.getD_some]
      lia
     generalize tm.getD u.length 0 = cS at *
     refine add_str (fun t' tk' => ?_) (by rw [sizeLine_eq];show (sw u).length + 1 ≤ _;simp [Str.length];lia)
     rw [show ((sw u : Str) ++ ch cS : Str) = sw (u ++ [cS]) from sw_app u [cS]]
     refine xS ?_;intros
     iterate 3 walk1
     show Turn _ _ _ _ _ _ _
     refine Turn.mk' ‹_› ‹_› ‹_› ⟨(by exact n3),(by exact n4),(by exact n5),(by exact n6),⟨SG,cn,hsgA,hSGl,hSG⟩,hDA,u ++ [cS],t',(by exact rfl),by simp;lia,fun c hc => ?_⟩
     rcases List.mem_append.mp hc with h | h
     ·exact huc c h
     simp only [List.mem_singleton] at h;rw [h];first | exact hct | decide
    rw [show decide ((u.length : Int) < (tm.length : Int)) = false from decide_eq_false (by lia)]
    simp only [Bool.false_eq_true,if_false]
    refine xH ?_;intro _ _
    iterate 2 walk1
    first | refine xN ?_ | walk1
    walk1
    have ea : Str.ofString "a" = ch 97:=by decide
    rw [ea]
    refine add_str (fun t' tk' => ?_) (by rw [sizeLine_eq];show (sw u).length + 1 ≤ _;simp [Str.length];lia)
    rw [show ((sw u : Str) ++ ch 97 : Str) = sw (u ++ [97]) from sw_app u [97]]
    refine xS ?_;intros
    iterate 3 walk1
    show Turn _ _ _ _ _ _ _
    refine Turn.mk' ‹_› ‹_› ‹_› ⟨(by exact n3),(by exact n4),(by exact n5),(by exact n6),⟨SG,cn,hsgA,hSGl,hSG⟩,hDA,u ++ [97],t',(by exact rfl),by simp;lia,fun c hc => ?_⟩
    rcases List.mem_append.mp hc with h | h
    ·exact huc c h
    simp only [List.mem_singleton] at h;rw [h];first | exact hct | decide
   walk1
   have hi6 : zs.length ≤ 6:=hz6
   refine holdP ?_;intro G;rcases JA with ⟨n3,n4,n5,n6,_,_,u,tu,n7,hul,huc⟩;unfold G;clear G
   exact Mid.mk' (Same.trans qq₉ qA) FA OA ⟨n3,n4,n5,u,tu,n7,by lia,huc⟩
  refine holdP ?_;intro G;rcases J₈ with ⟨m3,m4,m5,u,tu,m6,hu,huc⟩;unfold G;clear G
  have qq₈ : Same s s₈:=Same.trans (Same.trans qq₅ q₇) q₈
  have S8:=Same.refl s₈
  have X:=KX
  refine cut (ι:=[]) (g:=s₁.heap) (L:=s₁.heap.objs.size) (fun m σ' => m (Str.ofString "k") = some (.int kk t2) ∧ m (Str.ofString "term") = some (.str (sw tm) t3) ∧ m (Str.ofString "kept") = some (.int p t4) ∧ m (Str.ofString "text") = some (.str (sw u) tu) ∧ ∃ r dv,m (Str.ofString "due") = some dv ∧ DueIs r dv ∧ Due tm p kk u r) ?_ fun m₉ σ₉ s₉ q₉ F₉ O₉ J₉ => ?_
  ·iterate 3 walk1
   first | refine xN ?_ | walk1
   iterate 3 walk1
   first | refine xN ?_ | walk1
   iterate 1 walk1
   ((first | refine' sslice_to (s:=⟨_,_,_,_,_⟩) ?zF ?zO ?z0 ?zl ?_ | refine' sslice_from (s:=⟨_,_,_,_,_⟩) ?zF ?zO ?z0 ?zl ?_);(case zF => assumption);(case zO => assumption);(case z0 => lia);(case zl => lia);(intro _ _ hq _ _;have _:=Same.trans ‹_› hq;clear hq))
   walk1
   first | refine xN ?_ | walk1
   iterate 3 walk1
   first | refine xN ?_ | walk1
   walk1
   ((first | refine' sslice_to (s:=⟨_,_,_,_,_⟩) ?zF ?zO ?z0 ?zl ?_ | refine' sslice_from (s:=⟨_,_,_,_,_⟩) ?zF ?zO ?z0 ?zl ?_);(case zF => assumption);(case zO => assumption);(case z0 => lia);(case zl => lia);(intro _ _ hq _ _;have _:=Same.trans ‹_› hq;clear hq))
   iterate 2 walk1
   have hpn : ((p : Int)).toNat = p:=by lia
   simp only [hpn]
   by_cases heq : u.take p = tm.take p
   ·rw [sw_beq,decide_eq_true heq]
    simp only [if_true]
    refine xH ?_;intro _ _
    iterate 2 walk1
    first | refine xN ?_ | walk1
    iterate 3 walk1
    first | refine xN ?_ | walk1
    iterate 2 walk1
    first | refine xN ?_ | walk1
    iterate 2 walk1
    ((first | refine' sslice_to (s:=⟨_,_,_,_,_⟩) ?zF ?zO ?z0 ?zl ?_ | refine' sslice_from (s:=⟨_,_,_,_,_⟩) ?zF ?zO ?z0 ?zl ?_);(case zF => assumption);(case zO => assumption);(case z0 => lia);(case zl => lia);(intro _ _ hq _ _;have _:=Same.trans ‹_› hq;clear hq))
    walk1
    first | refine xN ?_ | walk1
    iterate 2 walk1
    first | refine xN ?_ | walk1
    iterate 2 walk1
    first | refine xN ?_ | walk1
    iterate 2 walk1
    ((first | refine' sslice_to (s:=⟨_,_,_,_,_⟩) ?zF ?zO ?z0 ?zl ?_ | refine' sslice_from (s:=⟨_,_,_,_,_⟩) ?zF ?zO ?z0 ?zl ?_);(case zF => assumption);(case zO => assumption);(case z0 => lia);(case zl => lia);(intro _ _ hq _ _;have _:=Same.trans ‹_› hq;clear hq))
    iterate 1 walk1
    refine ⟨X.keeps (Fr.keep ‹_›),?_⟩
    simp only [hpn]
    refine (lawLeast w _ (tm.drop p) kk (u.drop p) _ t2 _ (by simp;lia) hkk (by simp;lia) (fun c hc => huc c (List.mem_of_mem_drop hc)) (fun c hc => by have:=htmc c (List.mem_of_mem_drop hc);lia)).call (C.toCx.le (by decide)) ‹_› ‹_› fun v σ₁₀ s₁₀ q₁₀ F₁₀ O₁₀ hP => ?_
    have qq₁₀:=Same.trans ‹_› q₁₀
    refine xe12 hP fun r' hv hLL => ?_
    try clear hP
    rcases hv with ⟨rfl,rfl⟩ | ⟨l,tl,rfl,rfl⟩
    ·refine xS ?_;intros
     refine xH ?_;intro _ _
     iterate 3 walk1
     first | refine xN ?_ | walk1
     iterate 5 walk1
     refine xS ?_;intros
     walk1
     show Mid _ _ _ _ _ _ _
     exact Mid.mk' ‹_› ‹_› ‹_› ⟨(by exact m3),(by exact m4),(by exact m5),(by exact m6),none,_,(by exact rfl),.inl ⟨rfl,rfl⟩,.inl ⟨heq,none,hLL,rfl⟩⟩
    refine xS ?_;intros
    refine xH ?_;intro _ _
    iterate 3 walk1
    first | refine xN ?_ | walk1
    iterate 6 walk1
    first | refine xN ?_ | walk1
    iterate 3 walk1
    first | refine xN ?_ | walk1
    walk1
    ((first | refine' sslice_to (s:=⟨_,_,_,_,_⟩) ?zF ?zO ?z0 ?zl ?_ | refine' sslice_from (s:=⟨_,_,_,_,_⟩) ?zF ?zO ?z0 ?zl ?_);(case zF => assumption);(case zO => assumption);(case z0 => lia);(case zl => lia);(intro _ _ hq _ _;have _:=Same.trans ‹_› hq;clear hq))
    first | refine xN ?_ | walk1
    simp only [hpn]
    refine add_str (fun t' tk' => ?_) (by rw [sizeLine_eq];show (sw (tm.take p)).length + (sw l).length ≤ _;have hlen : l.length ≤ 100:=ll_len hLL (by simp;lia) hkk (by simp;lia);simp [Str.length];lia)
    rw [show ((sw (tm.take p) : Str) ++ sw l : Str) = sw (tm.take p ++ l) from sw_app _ l]
    refine xS ?_;intros
    walk1
    show Mid _ _ _ _ _ _ _
    exact Mid.mk' ‹_› ‹_› ‹_› ⟨(by exact m3),(by exact m4),(by exact m5),(by exact m6),_,_,(by exact rfl),.inr ⟨_,_,rfl,rfl⟩,.inl ⟨heq,_,hLL,rfl⟩⟩
   rw [sw_beq,decide_eq_false heq]
   simp only [Bool.false_eq_true,if_false]
   refine xH ?_;intro _ _
   iterate 2 walk1
   first | refine xN ?_ | walk1
   walk1
   first | refine xN ?_ | walk1
   iterate 3 walk1
   first | refine xN ?_ | walk1
   walk1
   ((first | refine' sslice_to (s:=⟨_,_,_,_,_⟩) ?zF ?zO ?z0 ?zl ?_ | refine' sslice_from (s:=⟨_,_,_,_,_⟩) ?zF ?zO ?z0 ?zl ?_);(case zF => assumption);(case zO => assumption);(case z0 => lia);(case zl => lia);(intro _ _ hq _ _;have _:=Same.trans ‹_› hq;clear hq))
   iterate 2 walk1
   simp only [hpn]
   by_cases hlt : u < tm.take p
   ·rw [decide_eq_true hlt]
    simp only [if_true]
    refine xH ?_;intro _ _
    iterate 3 walk1
    first | refine xN ?_ | walk1
    iterate 3 walk1
    first | refine xN ?_ | walk1
    walk1
    ((first | refine' sslice_to (s:=⟨_,_,_,_,_⟩) ?zF ?zO ?z0 ?zl ?_ | refine' sslice_from (s:=⟨_,_,_,_,_⟩) ?zF ?zO ?z0 ?zl ?_);(case zF => assumption);(case zO => assumption);(case z0 => lia);(case zl => lia);(intro _ _ hq _ _;have _:=Same.trans ‹_› hq;clear hq))
    walk1
    first | refine xN ?_ | walk1
    iterate 3 walk1
    first | refine xN ?_ | walk1
    iterate 2 walk1
    first | refine xN ?_ | walk1
    iterate 2 walk1
    ((first | refine' sslice_to (s:=⟨_,_,_,_,_⟩) ?zF ?zO ?z0 ?zl ?_ | refine' sslice_from (s:=⟨_,_,_,_,_⟩) ?zF ?zO ?z0 ?zl ?_);(case zF => assumption);(case zO => assumption);(case z0 => lia);(case zl => lia);(intro _ _ hq _ _;have _:=Same.trans ‹_› hq;clear hq))
    walk1
    first | refine xN ?_ | walk1
    iterate 4 walk1
    simp only [hpn]
    rw [show Str.ofString "" = sw [] from by decide]
    refine (lawLeast w _ (tm.drop p) kk [] _ t2 _ (by simp;lia) hkk (by simp) (fun c hc => (nomatch hc)) (fun c hc => by have:=htmc c (List.mem_of_mem_drop hc);lia)).call (C.toCx.le (by decide)) ‹_› ‹_› fun v σ₁₀ s₁₀ q₁₀ F₁₀ O₁₀ hP => ?_
    have qq₁₀:=Same.trans ‹_› q₁₀
    refine xe12 hP fun r' hv hLL => ?_
    try clear hP
    rcases hv with ⟨rfl,rfl⟩ | ⟨l,tl,rfl,rfl⟩
    ·exact absurd rfl (ll_some hLL)
    refine add_str (fun t' tk' => ?_) (by rw [sizeLine_eq];show (sw (tm.take p)).length + (sw l).length ≤ _;have hlen : l.length ≤ 100:=ll_len hLL (by simp;lia) hkk (by simp);simp [Str.length];lia)
    rw [show ((sw (tm.take p) : Str) ++ sw l : Str) = sw (tm.take p ++ l) from sw_app _ l]
    refine xS ?_;intros
    iterate 2 walk1
    show Mid _ _ _ _ _ _ _
    exact Mid.mk' ‹_› ‹_› ‹_› ⟨(by exact m3),(by exact m4),(by exact m5),(by exact m6),_,_,(by exact rfl),.inr ⟨_,_,rfl,rfl⟩,.inr (.inl ⟨heq,hlt,_,hLL,rfl⟩)⟩
   rw [decide_eq_false hlt]
   simp only [Bool.false_eq_true,if_false]
   refine xH ?_;intro _ _
   iterate 2 walk1
   refine xS ?_;intros
   iterate 2 walk1
   show Mid _ _ _ _ _ _ _
   exact Mid.mk' ‹_› ‹_› ‹_› ⟨(by exact m3),(by exact m4),(by exact m5),(by exact m6),none,_,(by exact rfl),.inl ⟨rfl,rfl⟩,.inr (.inr ⟨heq,hlt,rfl⟩)⟩
  refine holdP ?_;intro G;rcases J₉ with ⟨m3,m4,m5,m6,r,dv,m7,hdv,hdue⟩;unfold G;clear G
  have qq₉ : Same s s₉:=Same.trans qq₈ q₉
  have S9:=Same.refl s₉
  refine cut (ι:=[]) (g:=s₁.heap) (L:=s₁.heap.objs.size) (fun m σ' => m (Str.ofString "k") = some (.int kk t2) ∧ m (Str.ofString "term") = some (.str (sw tm) t3) ∧ m (Str.ofString "kept") = some (.int p t4) ∧ m (Str.ofString "text") = some (.str (sw u) tu) ∧ m (Str.ofString "due") = some dv ∧ ∃ b,m (Str.ofString "inside") = some (.bool b) ∧ (b = true ↔ r = some u)) ?_ fun m₁₀ σ₁₀ s₁₀ q₁₀ F₁₀ O₁₀ J₁₀ => ?_
  ·rcases id hdv with ⟨rfl,rfl⟩ | ⟨l,tl,rfl,rfl⟩
   ·iterate 3 walk1
    first | refine xN ?_ | walk1
    iterate 3 walk1
    walk1
    refine xS ?_;intros
    show Mid _ _ _ _ _ _ _
    exact Mid.mk' ‹_› ‹_› ‹_› ⟨(by exact m3),(by exact m4),(by exact m5),(by exact m6),(by exact m7),_,(by exact rfl),by simp⟩
   iterate 3 walk1
   first | refine xN ?_ | walk1
   iterate 6 walk1
   first | refine xN ?_ | walk1
   first | refine xN ?_ | walk1
   walk1
   refine xS ?_;intros
   show Mid _ _ _ _ _ _ _
   exact Mid.mk' ‹_› ‹_› ‹_› ⟨(by exact m3),(by exact m4),(by exact m5),(by exact m6),(by exact m7),_,(by exact rfl),by rw [sw_beq];simp⟩
  refine holdP ?_;intro G;rcases J₁₀ with ⟨m3,m4,m5,m6,m7,b,m8,hb⟩;unfold G;clear G
  have qq₁₀ : Same s s₁₀:=Same.trans qq₉ q₁₀
  have S10:=Same.refl s₁₀
  refine xH ?_;intro _ _
  iterate 2 walk1
  first | refine xN ?_ | walk1
  iterate 2 walk1
  first | refine xN ?_ | walk1
  walk1
  first | refine xN ?_ | walk1
  walk1
  first | refine xN ?_ | walk1
  walk1
  refine ⟨X.keeps (Fr.keep ‹_›),?_⟩
  refine (levA w _ tm t3 t2 t4 kk p htm4 hkk hp).call (C.toCx.le (by decide)) ‹_› ‹_› fun v σ₁₁ s₁₁ q₁₁ F₁₁ O₁₁ hP => ?_
  have qq₁₁:=Same.trans ‹_› q₁₁
  refine holdP ?_;intro G;rcases hP with ⟨x,rfl,cN,hN⟩;unfold G;clear G
  refine xS ?_;intros
  refine xH ?_;intro _ _
  iterate 2 walk1
  first | refine xN ?_ | walk1
  have I:=hN.inst
  refine imeth ‹_› ‹_› ‹_› ‹_› (by k_is) (by k_is) (by k_is) (by first | assumption | rfl) ?_
  walk1
  try refine ⟨X.keeps (Fr.keep ‹_›),?_⟩
  refine (toDfa w _ x _ cN hN (lev_one tm kk p hp) (lev_srt tm kk p) (lev_U10 tm kk p htm4 hkk htm2)).call (C.toCx.le (by decide)) ‹_› ‹_› fun v σ₁₂ s₁₂ q₁₂ F₁₂ O₁₂ hP => ?_
  have qq₁₂:=Same.trans ‹_› q₁₂
  refine holdP ?_;intro G;rcases hP with ⟨e₁₂,y,M,cM,rfl,hM,hR,hUQ,hLU⟩;unfold G;clear G
  have hN2:=hN.move e₁₂
  clear I
  have I:=hN2.inst
  refine xS ?_;intros
  refine xH ?_;intro _ _
  iterate 4 walk1
  first | refine xN ?_ | walk1
  refine imeth ‹_› ‹_› ‹_› ‹_› (by k_is) (by k_is) (by k_is) (by first | assumption | rfl) ?_
  iterate 2 walk1
  first | refine xN ?_ | walk1
  walk1
  try refine ⟨X.keeps (Fr.keep ‹_›),?_⟩
  refine (acceptN w _ x _ cN hN2 (lev_one tm kk p hp) u tu).call (C.toCx.le (by decide)) ‹_› ‹_› fun v σ₁₃ s₁₃ q₁₃ F₁₃ O₁₃ hP => ?_
  have qq₁₃:=Same.trans ‹_› q₁₃
  refine holdP ?_;intro G;rcases hP with ⟨e₁₃,b2,rfl,hb2⟩;unfold G;clear G
  have hbb : b2 = b:=by
   rw [Bool.eq_iff_iff,hb2,hb]
   exact (due_in hp hdue).symm
  subst hbb
  clear I
  have hM2:=hM.move e₁₃
  have I:=hM2.inst
  first | refine xN ?_ | walk1
  iterate 2 walk1
  rw [show (b2 != b2) = false from by simp]
  simp only [Bool.false_eq_true,if_false]
  iterate 3 walk1
  first | refine xN ?_ | walk1
  refine imeth ‹_› ‹_› ‹_› ‹_› (by k_is) (by k_is) (by k_is) (by first | assumption | rfl) ?_
  iterate 2 walk1
  first | refine xN ?_ | walk1
  walk1
  try refine ⟨X.keeps (Fr.keep ‹_›),?_⟩
  refine (acceptD w _ y M cM hM2 (dfa_nx hp hR (lev_U10 tm kk p htm4 hkk htm2)) u tu).call (C.toCx.le (by decide)) ‹_› ‹_› fun v σ₁₄ s₁₄ q₁₄ F₁₄ O₁₄ hP => ?_
  have qq₁₄:=Same.trans ‹_› q₁₄
  refine holdP ?_;intro G;rcases hP with ⟨e₁₄,b3,rfl,hb3⟩;unfold G;clear G
  have hbb : b3 = b2:=by
   rw [Bool.eq_iff_iff,hb3,hb2]
   exact dfa_in hp hR
  subst hbb
  clear I
  have hM3:=hM2.move e₁₄
  have I:=hM3.inst
  first | refine xN ?_ | walk1
  iterate 2 walk1
  rw [show (b3 != b3) = false from by simp]
  simp only [Bool.false_eq_true,if_false]
  iterate 3 walk1
  refine xH ?_;intro _ _
  iterate 2 walk1
  walk1
  first | refine xN ?_ | walk1
  refine imeth ‹_› ‹_› ‹_› ‹_› (by k_is) (by k_is) (by k_is) (by first | assumption | rfl) ?_
  iterate 2 walk1
  first | refine xN ?_ | walk1
  walk1
  try refine ⟨X.keeps (Fr.keep ‹_›),?_⟩
  refine (nextV w _ y M cM hM3 (dfa_nx hp hR (lev_U10 tm kk p htm4 hkk htm2)) (dfa_ch hp hR) (dfa_uq hp hR hUQ) 10 (dfa_B hp hR htm4 hkk) (by decide) u tu (by lia) huc).call (C.le (by decide)) ‹_› ‹_› fun v σ₁₅ s₁₅ g₁₅ T₁₅ C₁₅ q₁₅ F₁₅ O₁₅ hP => ?_
  have qq₁₅:=Same.trans ‹_› q₁₅
  refine xe12 hP fun rv hrv hNV => ?_
  try clear hP
  have hrr : rv = r:=due_nv hp hR hdue hNV
  subst hrr
  clear C
  have X:=C₁₅.toCx.X
  refine xe31 C₁₅.toCx.T fun _ _ _ TT => ?_
  rcases hdv with ⟨rfl,rfl⟩ | ⟨l,tl,rfl,rfl⟩
  ·rcases hrv with ⟨_,rfl⟩ | ⟨l',t',h,_⟩
   ·first | refine xN ?_ | walk1
    walk1
    exact EndsT.mk' T₁₅ (Same.trans qq₁₀ qq₁₅) ‹_› ‹_› rfl
   cases h
  rcases hrv with ⟨h,_⟩ | ⟨l',t',h,rfl⟩
  ·cases h
  cases h
  first | refine xN ?_ | walk1
  walk1
  refine EndsT.mk' T₁₅ (Same.trans qq₁₀ qq₁₅) ‹_› ‹_› ?_
  show Value.bool (sw l == sw l) = _
  rw [beq_self_eq_true]
 cases fl with
 | ret v =>
  have hv : v = .bool true:=hfl
  subst hv
  have hge : s'.gens = #[]:=hgens.trans hg
  have hoe : s'.os = s₁.os:=hos
  refine goodW_bool F' hge (raisesW_false ?_) ?_ hoe
  ·wrow_none_raised
  wrow_post
 | next => cases hfl
 | brk => cases hfl
 | cont => cases hfl
end Mine
theorem PySem.Challenge.cw_iu0052_01_holds : PySem.Challenge.rw_iu0052_01.Holds := by
 exact Mine.fin0

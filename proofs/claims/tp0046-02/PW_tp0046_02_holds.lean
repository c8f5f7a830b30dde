import PyProof.Rows.All
import Wide.All
import OpenK.AllK
import Wide.FinOn
import Open.Tops
import PySem.Challenge.RW_tp0046_02
open PySem PySem.W PySem.Spec PySem.Calls PyProof.Rows
set_option Elab.async false
set_option maxRecDepth 100000
set_option genSizeOf false
set_option genInjectivity false
set_option bootstrap.genMatcherCode false
set_option compiler.extract_closed false
set_option maxHeartbeats 100000000
namespace Mine
def s0 : Stmt := by
  refine' (?f : ∀ x : Stmt, PySem.Challenge.pw_tp0046_02.main.body[0]? = some x → Stmt) _ (by with_unfolding_all rfl)
  intro x _
  exact x
def s1 : Stmt := by
  refine' (?f : ∀ x : Stmt, PySem.Challenge.pw_tp0046_02.main.body[1]? = some x → Stmt) _ (by with_unfolding_all rfl)
  intro x _
  exact x
def s2 : Stmt := by
  refine' (?f : ∀ x : Stmt, PySem.Challenge.pw_tp0046_02.main.body[2]? = some x → Stmt) _ (by with_unfolding_all rfl)
  intro x _
  exact x
def s3 : Stmt := by
  refine' (?f : ∀ x : Stmt, PySem.Challenge.pw_tp0046_02.main.body[3]? = some x → Stmt) _ (by with_unfolding_all rfl)
  intro x _
  exact x
def s4 : Stmt := by
  refine' (?f : ∀ x : Stmt, PySem.Challenge.pw_tp0046_02.main.body[4]? = some x → Stmt) _ (by with_unfolding_all rfl)
  intro x _
  exact x
def s5 : Stmt := by
  refine' (?f : ∀ x : Stmt, PySem.Challenge.pw_tp0046_02.main.body[5]? = some x → Stmt) _ (by with_unfolding_all rfl)
  intro x _
  exact x
def s6 : Stmt := by
  refine' (?f : ∀ x : Stmt, PySem.Challenge.pw_tp0046_02.main.body[6]? = some x → Stmt) _ (by with_unfolding_all rfl)
  intro x _
  exact x
def s7 : Stmt := by
  refine' (?f : ∀ x : Stmt, PySem.Challenge.pw_tp0046_02.main.body[7]? = some x → Stmt) _ (by with_unfolding_all rfl)
  intro x _
  exact x
def s8 : Stmt := by
  refine' (?f : ∀ x : Stmt, PySem.Challenge.pw_tp0046_02.main.body[8]? = some x → Stmt) _ (by with_unfolding_all rfl)
  intro x _
  exact x
def s9 : Stmt := by
  refine' (?f : ∀ x : Stmt, PySem.Challenge.pw_tp0046_02.main.body[9]? = some x → Stmt) _ (by with_unfolding_all rfl)
  intro x _
  exact x
def s10 : Stmt := by
  refine' (?f : ∀ x : Stmt, PySem.Challenge.pw_tp0046_02.main.body[10]? = some x → Stmt) _ (by with_unfolding_all rfl)
  intro x _
  exact x
def s11 : Stmt := by
  refine' (?f : ∀ x : Stmt, PySem.Challenge.pw_tp0046_02.main.body[11]? = some x → Stmt) _ (by with_unfolding_all rfl)
  intro x _
  exact x
def s12 : Stmt := by
  refine' (?f : ∀ x : Stmt, PySem.Challenge.pw_tp0046_02.main.body[12]? = some x → Stmt) _ (by with_unfolding_all rfl)
  intro x _
  exact x
def s13 : Stmt := by
  refine' (?f : ∀ x : Stmt, PySem.Challenge.pw_tp0046_02.main.body[13]? = some x → Stmt) _ (by with_unfolding_all rfl)
  intro x _
  exact x
def s14 : Stmt := by
  refine' (?f : ∀ x : Stmt, PySem.Challenge.pw_tp0046_02.main.body[14]? = some x → Stmt) _ (by with_unfolding_all rfl)
  intro x _
  exact x
def s15 : Stmt := by
  refine' (?f : ∀ x : Stmt, PySem.Challenge.pw_tp0046_02.main.body[15]? = some x → Stmt) _ (by with_unfolding_all rfl)
  intro x _
  exact x
def s16 : Stmt := by
  refine' (?f : ∀ x : Stmt, PySem.Challenge.pw_tp0046_02.main.body[16]? = some x → Stmt) _ (by with_unfolding_all rfl)
  intro x _
  exact x
def s17 : Stmt := by
  refine' (?f : ∀ x : Stmt, PySem.Challenge.pw_tp0046_02.main.body[17]? = some x → Stmt) _ (by with_unfolding_all rfl)
  intro x _
  exact x
def s18 : Stmt := by
  refine' (?f : ∀ x : Stmt, PySem.Challenge.pw_tp0046_02.main.body[18]? = some x → Stmt) _ (by with_unfolding_all rfl)
  intro x _
  exact x
def s19 : Stmt := by
  refine' (?f : ∀ x : Stmt, PySem.Challenge.pw_tp0046_02.main.body[19]? = some x → Stmt) _ (by with_unfolding_all rfl)
  intro x _
  exact x
def s20 : Stmt := by
  refine' (?f : ∀ x : Stmt, PySem.Challenge.pw_tp0046_02.main.body[20]? = some x → Stmt) _ (by with_unfolding_all rfl)
  intro x _
  exact x
def s21 : Stmt := by
  refine' (?f : ∀ x : Stmt, PySem.Challenge.pw_tp0046_02.main.body[21]? = some x → Stmt) _ (by with_unfolding_all rfl)
  intro x _
  exact x
def s22 : Stmt := by
  refine' (?f : ∀ x : Stmt, PySem.Challenge.pw_tp0046_02.main.body[22]? = some x → Stmt) _ (by with_unfolding_all rfl)
  intro x _
  exact x
def s23 : Stmt := by
  refine' (?f : ∀ x : Stmt, PySem.Challenge.pw_tp0046_02.main.body[23]? = some x → Stmt) _ (by with_unfolding_all rfl)
  intro x _
  exact x
def s24 : Stmt := by
  refine' (?f : ∀ x : Stmt, PySem.Challenge.pw_tp0046_02.main.body[24]? = some x → Stmt) _ (by with_unfolding_all rfl)
  intro x _
  exact x
def s25 : Stmt := by
  refine' (?f : ∀ x : Stmt, PySem.Challenge.pw_tp0046_02.main.body[25]? = some x → Stmt) _ (by with_unfolding_all rfl)
  intro x _
  exact x
def s26 : Stmt := by
  refine' (?f : ∀ x : Stmt, PySem.Challenge.pw_tp0046_02.main.body[26]? = some x → Stmt) _ (by with_unfolding_all rfl)
  intro x _
  exact x
def s27 : Stmt := by
  refine' (?f : ∀ x : Stmt, PySem.Challenge.pw_tp0046_02.main.body[27]? = some x → Stmt) _ (by with_unfolding_all rfl)
  intro x _
  exact x
def s28 : Stmt := by
  refine' (?f : ∀ x : Stmt, PySem.Challenge.pw_tp0046_02.main.body[28]? = some x → Stmt) _ (by with_unfolding_all rfl)
  intro x _
  exact x
def s29 : Stmt := by
  refine' (?f : ∀ x : Stmt, PySem.Challenge.pw_tp0046_02.main.body[29]? = some x → Stmt) _ (by with_unfolding_all rfl)
  intro x _
  exact x
def s30 : Stmt := by
  refine' (?f : ∀ x : Stmt, PySem.Challenge.pw_tp0046_02.main.body[30]? = some x → Stmt) _ (by with_unfolding_all rfl)
  intro x _
  exact x
def s31 : Stmt := by
  refine' (?f : ∀ x : Stmt, PySem.Challenge.pw_tp0046_02.main.body[31]? = some x → Stmt) _ (by with_unfolding_all rfl)
  intro x _
  exact x
def s32 : Stmt := by
  refine' (?f : ∀ x : Stmt, PySem.Challenge.pw_tp0046_02.main.body[32]? = some x → Stmt) _ (by with_unfolding_all rfl)
  intro x _
  exact x
def s33 : Stmt := by
  refine' (?f : ∀ x : Stmt, PySem.Challenge.pw_tp0046_02.main.body[33]? = some x → Stmt) _ (by with_unfolding_all rfl)
  intro x _
  exact x
def s34 : Stmt := by
  refine' (?f : ∀ x : Stmt, PySem.Challenge.pw_tp0046_02.main.body[34]? = some x → Stmt) _ (by with_unfolding_all rfl)
  intro x _
  exact x
def s35 : Stmt := by
  refine' (?f : ∀ x : Stmt, PySem.Challenge.pw_tp0046_02.main.body[35]? = some x → Stmt) _ (by with_unfolding_all rfl)
  intro x _
  exact x
def s36 : Stmt := by
  refine' (?f : ∀ x : Stmt, PySem.Challenge.pw_tp0046_02.main.body[36]? = some x → Stmt) _ (by with_unfolding_all rfl)
  intro x _
  exact x
def s37 : Stmt := by
  refine' (?f : ∀ x : Stmt, PySem.Challenge.pw_tp0046_02.main.body[37]? = some x → Stmt) _ (by with_unfolding_all rfl)
  intro x _
  exact x
def s38 : Stmt := by
  refine' (?f : ∀ x : Stmt, PySem.Challenge.pw_tp0046_02.main.body[38]? = some x → Stmt) _ (by with_unfolding_all rfl)
  intro x _
  exact x
def s39 : Stmt := by
  refine' (?f : ∀ x : Stmt, PySem.Challenge.pw_tp0046_02.main.body[39]? = some x → Stmt) _ (by with_unfolding_all rfl)
  intro x _
  exact x
def s40 : Stmt := by
  refine' (?f : ∀ x : Stmt, PySem.Challenge.pw_tp0046_02.main.body[40]? = some x → Stmt) _ (by with_unfolding_all rfl)
  intro x _
  exact x
def s41 : Stmt := by
  refine' (?f : ∀ x : Stmt, PySem.Challenge.pw_tp0046_02.main.body[41]? = some x → Stmt) _ (by with_unfolding_all rfl)
  intro x _
  exact x
def s42 : Stmt := by
  refine' (?f : ∀ x : Stmt, PySem.Challenge.pw_tp0046_02.main.body[42]? = some x → Stmt) _ (by with_unfolding_all rfl)
  intro x _
  exact x
def s43 : Stmt := by
  refine' (?f : ∀ x : Stmt, PySem.Challenge.pw_tp0046_02.main.body[43]? = some x → Stmt) _ (by with_unfolding_all rfl)
  intro x _
  exact x
def s44 : Stmt := by
  refine' (?f : ∀ x : Stmt, PySem.Challenge.pw_tp0046_02.main.body[44]? = some x → Stmt) _ (by with_unfolding_all rfl)
  intro x _
  exact x
def s45 : Stmt := by
  refine' (?f : ∀ x : Stmt, PySem.Challenge.pw_tp0046_02.main.body[45]? = some x → Stmt) _ (by with_unfolding_all rfl)
  intro x _
  exact x
def s46 : Stmt := by
  refine' (?f : ∀ x : Stmt, PySem.Challenge.pw_tp0046_02.main.body[46]? = some x → Stmt) _ (by with_unfolding_all rfl)
  intro x _
  exact x
def s47 : Stmt := by
  refine' (?f : ∀ x : Stmt, PySem.Challenge.pw_tp0046_02.main.body[47]? = some x → Stmt) _ (by with_unfolding_all rfl)
  intro x _
  exact x
def s48 : Stmt := by
  refine' (?f : ∀ x : Stmt, PySem.Challenge.pw_tp0046_02.main.body[48]? = some x → Stmt) _ (by with_unfolding_all rfl)
  intro x _
  exact x
def s49 : Stmt := by
  refine' (?f : ∀ x : Stmt, PySem.Challenge.pw_tp0046_02.main.body[49]? = some x → Stmt) _ (by with_unfolding_all rfl)
  intro x _
  exact x
def s50 : Stmt := by
  refine' (?f : ∀ x : Stmt, PySem.Challenge.pw_tp0046_02.main.body[50]? = some x → Stmt) _ (by with_unfolding_all rfl)
  intro x _
  exact x
def s51 : Stmt := by
  refine' (?f : ∀ x : Stmt, PySem.Challenge.pw_tp0046_02.main.body[51]? = some x → Stmt) _ (by with_unfolding_all rfl)
  intro x _
  exact x
def s52 : Stmt := by
  refine' (?f : ∀ x : Stmt, PySem.Challenge.pw_tp0046_02.main.body[52]? = some x → Stmt) _ (by with_unfolding_all rfl)
  intro x _
  exact x
def s53 : Stmt := by
  refine' (?f : ∀ x : Stmt, PySem.Challenge.pw_tp0046_02.main.body[53]? = some x → Stmt) _ (by with_unfolding_all rfl)
  intro x _
  exact x
def s54 : Stmt := by
  refine' (?f : ∀ x : Stmt, PySem.Challenge.pw_tp0046_02.main.body[54]? = some x → Stmt) _ (by with_unfolding_all rfl)
  intro x _
  exact x
def s55 : Stmt := by
  refine' (?f : ∀ x : Stmt, PySem.Challenge.pw_tp0046_02.main.body[55]? = some x → Stmt) _ (by with_unfolding_all rfl)
  intro x _
  exact x
def s56 : Stmt := by
  refine' (?f : ∀ x : Stmt, PySem.Challenge.pw_tp0046_02.main.body[56]? = some x → Stmt) _ (by with_unfolding_all rfl)
  intro x _
  exact x
def s57 : Stmt := by
  refine' (?f : ∀ x : Stmt, PySem.Challenge.pw_tp0046_02.main.body[57]? = some x → Stmt) _ (by with_unfolding_all rfl)
  intro x _
  exact x
def s58 : Stmt := by
  refine' (?f : ∀ x : Stmt, PySem.Challenge.pw_tp0046_02.main.body[58]? = some x → Stmt) _ (by with_unfolding_all rfl)
  intro x _
  exact x
def s59 : Stmt := by
  refine' (?f : ∀ x : Stmt, PySem.Challenge.pw_tp0046_02.main.body[59]? = some x → Stmt) _ (by with_unfolding_all rfl)
  intro x _
  exact x
def s60 : Stmt := by
  refine' (?f : ∀ x : Stmt, PySem.Challenge.pw_tp0046_02.main.body[60]? = some x → Stmt) _ (by with_unfolding_all rfl)
  intro x _
  exact x
def s61 : Stmt := by
  refine' (?f : ∀ x : Stmt, PySem.Challenge.pw_tp0046_02.main.body[61]? = some x → Stmt) _ (by with_unfolding_all rfl)
  intro x _
  exact x
def s62 : Stmt := by
  refine' (?f : ∀ x : Stmt, PySem.Challenge.pw_tp0046_02.main.body[62]? = some x → Stmt) _ (by with_unfolding_all rfl)
  intro x _
  exact x
def s63 : Stmt := by
  refine' (?f : ∀ x : Stmt, PySem.Challenge.pw_tp0046_02.main.body[63]? = some x → Stmt) _ (by with_unfolding_all rfl)
  intro x _
  exact x
def sc : Scope := by
  refine' (?f : ∀ (a : ScopeKind) (b : List (Str × NameKind)) (c d : Bool) (e : List (Str × Const)), PySem.Challenge.pw_tp0046_02.main.scope = Scope.mk a b c d e → Scope) _ _ _ _ _ (by with_unfolding_all rfl)
  intro a b c d e _
  exact Scope.mk a b c d e
def gv : Given := by
  refine' (?f : ∀ a b c d e f g, PySem.Challenge.pw_tp0046_02.given = Given.mk a b c d e f g → Given) _ _ _ _ _ _ _ (by with_unfolding_all rfl)
  intro a b c d e f g _
  exact Given.mk a b c d e f g
def fi : Str := by
  refine' (?f : ∀ x : String, PySem.Challenge.pw_tp0046_02.main.file = Str.ofString x → Str) _ (by with_unfolding_all rfl)
  intro x _
  exact Str.ofString x
def pg : Program := { main := { body := [s0, s1, s2, s3, s4, s5, s6, s7, s8, s9, s10, s11, s12, s13, s14, s15, s16, s17, s18, s19, s20, s21, s22, s23, s24, s25, s26, s27, s28, s29, s30, s31, s32, s33, s34, s35, s36, s37, s38, s39, s40, s41, s42, s43, s44, s45, s46, s47, s48, s49, s50, s51, s52, s53, s54, s55, s56, s57, s58, s59, s60, s61, s62, s63], scope := sc, futureAnnotations := false, file := fi, more := [] }, modules := [], parses := [], absent := [], harvested := [], given := gv }
def rg : OpenLaw := by
  refine' (?f : ∀ p a b c d e f, PySem.Challenge.rw_tp0046_02 = OpenLaw.mk p a b c d e f → OpenLaw) _ _ _ _ _ _ _ (by with_unfolding_all rfl)
  intro _ a b c d e f _
  exact OpenLaw.mk pg a b c d e f
theorem rg_eq : PySem.Challenge.rw_tp0046_02 = rg := by kernel_rfl

open_shared sh for Mine.pg leaving 0
noncomputable def K2o (P : Params) : Frag := [(2, sh.o_86 P), (3, sh.o_136 P), (6, PySem.W.boot_o_6 P), (15, sh.o_7 P), (17, sh.o_9 P), (18, sh.o_10 P), (20, sh.o_12 P), (21, sh.o_13 P), (32, sh.o_27 P), (34, sh.o_29 P), (35, sh.o_30 P), (37, sh.o_32 P), (38, sh.o_33 P), (39, sh.o_34 P), (41, sh.o_36 P), (42, sh.o_37 P), (44, sh.o_39 P), (45, sh.o_40 P), (46, sh.o_41 P), (48, sh.o_43 P), (49, sh.o_44 P), (51, sh.o_46 P), (52, sh.o_47 P), (53, sh.o_48 P), (55, sh.o_50 P), (56, sh.o_51 P), (58, sh.o_53 P), (59, sh.o_54 P), (60, sh.o_55 P), (62, sh.o_57 P), (63, sh.o_58 P), (65, sh.o_60 P), (66, sh.o_61 P), (67, sh.o_62 P), (69, sh.o_64 P), (70, sh.o_65 P), (72, sh.o_67 P), (73, sh.o_68 P), (74, sh.o_69 P), (76, sh.o_71 P), (77, sh.o_72 P), (79, sh.o_74 P), (80, sh.o_75 P), (81, sh.o_76 P), (82, sh.o_77 P), (83, sh.o_78 P), (84, sh.o_79 P), (85, sh.o_80 P), (88, sh.o_89 P), (95, sh.o_96 P), (96, sh.o_97 P), (97, sh.o_105 P), (98, sh.o_99 P), (101, sh.o_106 P), (108, sh.o_113 P), (109, sh.o_114 P), (110, sh.o_115 P), (113, sh.o_118 P), (115, sh.o_120 P), (116, sh.o_121 P), (118, sh.o_123 P), (119, sh.o_124 P), (120, sh.o_130 P), (123, sh.o_138 P), (125, sh.o_140 P), (126, sh.o_141 P), (128, sh.o_143 P), (129, sh.o_144 P), (130, sh.o_145 P), (132, sh.o_147 P), (133, sh.o_148 P), (135, sh.o_150 P), (136, sh.o_151 P), (137, sh.o_152 P), (139, sh.o_154 P), (140, sh.o_155 P), (142, sh.o_157 P), (143, sh.o_158 P), (144, sh.o_159 P), (146, sh.o_161 P), (147, sh.o_162 P), (149, sh.o_164 P), (150, sh.o_165 P), (151, sh.o_166 P), (154, sh.o_169 P), (155, sh.o_170 P)]
local macro_rules | `(tactic| k_head) => `(tactic| o_head (kHook Mine.K2o [2, 3, 6, 15, 17, 18, 20, 21, 32, 34, 35, 37, 38, 39, 41, 42, 44, 45, 46, 48, 49, 51, 52, 53, 55, 56, 58, 59, 60, 62, 63, 65, 66, 67, 69, 70, 72, 73, 74, 76, 77, 79, 80, 81, 82, 83, 84, 85, 88, 95, 96, 97, 98, 101, 108, 109, 110, 113, 115, 116, 118, 119, 120, 123, 125, 126, 128, 129, 130, 132, 133, 135, 136, 137, 139, 140, 142, 143, 144, 146, 147, 149, 150, 151, 154, 155] (fun _ => by kernel_rfl)))
open_top hd2 for Mine.rg
end Mine
namespace Mine
noncomputable def ob1 {α γ : Type} (x : Option α) (F : α → Option γ) : Option γ := Option.rec (motive := fun _ => Option γ) none F x
noncomputable def ob2 {α β γ : Type} (x : Option (α × β)) (F : α → β → Option γ) : Option γ := Option.rec (motive := fun _ => Option γ) none (fun p => Prod.rec (motive := fun _ => Option γ) F p) x
noncomputable def ob3 {α β δ γ : Type} (x : Option (α × β × δ)) (F : α → β → δ → Option γ) : Option γ := Option.rec (motive := fun _ => Option γ) none (fun p => Prod.rec (motive := fun _ => Option γ) (fun a q => Prod.rec (motive := fun _ => Option γ) (F a) q) p) x
noncomputable def obB {γ : Type} (b : Bool) (F : Option γ) : Option γ := Bool.rec (motive := fun _ => Option γ) none F b
theorem ob1_elim {α γ : Type} {P : Prop} {x : Option α} {F : α → Option γ} {r : γ} (h : ob1 x F = some r) (k : ∀ y, x = some y → F y = some r → P) : P := by
  cases x with
  | none => cases h
  | some y => exact k y rfl h
theorem ob2_elim {α β γ : Type} {P : Prop} {x : Option (α × β)} {F : α → β → Option γ} {r : γ} (h : ob2 x F = some r) (k : ∀ a b, x = some (a, b) → F a b = some r → P) : P := by
  cases x with
  | none => cases h
  | some y => exact k y.1 y.2 rfl h
theorem ob3_elim {α β δ γ : Type} {P : Prop} {x : Option (α × β × δ)} {F : α → β → δ → Option γ} {r : γ} (h : ob3 x F = some r) (k : ∀ a b c, x = some (a, b, c) → F a b c = some r → P) : P := by
  cases x with
  | none => cases h
  | some y => exact k y.1 y.2.1 y.2.2 rfl h
theorem obB_elim {γ : Type} {P : Prop} {b : Bool} {F : Option γ} {r : γ} (h : obB b F = some r) (k : b = true → F = some r → P) : P := by
  cases b with
  | false => cases h
  | true => exact k rfl h
theorem si2 {α β : Type} {a c : α} {b d : β} (h : some (a, b) = some (c, d)) : a = c ∧ b = d := by
  cases h
  exact ⟨rfl, rfl⟩
theorem nn {α : Type} {P : Prop} {x : α} (h : none = some x) : P := by cases h
theorem ite_t {P Q : Prop} (h : P) : if true = true then P else Q := h
theorem dec_lt {n i : Nat} (h : i < n) : n + 1 - (i + 1) < n + 1 - i := by omega
theorem at_end {n i : Nat} (h : i ≤ n) (h2 : ¬ i < n) : i = n := Nat.le_antisymm h (Nat.not_lt.mp h2)
theorem room_dn {a d e r : Nat} (h : a + 3 * (d + 1) + 2 < r) (he : e ≤ a + 1) : e + 3 * d + 2 < r := by omega
theorem units_dn {a d e c : Nat} (h : a + 12 * (d + 1) + 100 < c) (he : e ≤ a + 5) : e + 12 * d + 100 < c := by omega
theorem mul_up {a k d e r m : Nat} (h : a + k * e + m < r) (hd : d ≤ e) : a + k * d + m < r := Nat.lt_of_le_of_lt (Nat.add_le_add_right (Nat.add_le_add_left (Nat.mul_le_mul_left k hd) a) m) h
theorem ite_f {P Q : Prop} (h : Q) : if false = true then P else Q := h

inductive V where
  | none | bool (b : Bool) | int (i : Int) | str (s : List Nat) | cst (v : Value) | own (j : Nat)
inductive O where
  | list (vs : List V) | frz (vs : List V) | tup (vs : List V) | inst (C : Addr) (d : Nat) | attrs (vs : List V) | rng (a b c : Int) | arg (vs : List V)
noncomputable def O.mut : O → Bool
  | .list _ => true
  | .attrs .. => true
  | _ => false

noncomputable def fldNames : List Str := [Str.ofString "raw", Str.ofString "n", Str.ofString "nt", Str.ofString "norm", Str.ofString "is_simple"]
noncomputable abbrev Sl := List (Option V)
noncomputable abbrev Hp := List O
noncomputable abbrev EvF := Sl → Hp → Option (V × Hp)

noncomputable def VR (ρ : List Addr) (v : V) (u : Value) : Prop := match v with
  | .none => u = .none
  | .bool b => u = .bool b
  | .int i => ∃ t, u = .int i t
  | .str s => ∃ t, u = .str ⟨s.toArray⟩ t
  | .cst c => u = c
  | .own j => ∃ a, ρ[j]? = some a ∧ u = .ref a
noncomputable def VRs (ρ : List Addr) (vs : List V) (us : List Value) : Prop := vs.length = us.length ∧ ∀ (i : Nat) (v : V), vs[i]? = some v → ∃ u : Value, us[i]? = some u ∧ VR ρ v u

theorem pre_get {ρ ρ' : List Addr} (h : ρ <+: ρ') {j : Nat} {a : Addr} (e : ρ[j]? = some a) : ρ'[j]? = some a := by
  obtain ⟨t, rfl⟩ := h
  rw [List.getElem?_append_left (by exact (List.getElem?_eq_some_iff.mp e).1)]
  exact e
theorem VR.mono {ρ ρ' : List Addr} (h : ρ <+: ρ') {v : V} {u : Value} (r : VR ρ v u) : VR ρ' v u := by
  cases v with
  | own j => obtain ⟨a, e, q⟩ := r; exact ⟨a, pre_get h e, q⟩
  | _ => exact r
theorem VRs.mono {ρ ρ' : List Addr} (h : ρ <+: ρ') {vs : List V} {us : List Value} (r : VRs ρ vs us) : VRs ρ' vs us :=
  ⟨r.1, fun i v e => let ⟨u, a, b⟩ := r.2 i v e; ⟨u, a, b.mono h⟩⟩
theorem VRs.nil {ρ : List Addr} : VRs ρ [] [] := ⟨rfl, fun i v e => by simp at e⟩
theorem VRs.cons {ρ : List Addr} {v : V} {u : Value} {vs : List V} {us : List Value} (h : VR ρ v u) (r : VRs ρ vs us) : VRs ρ (v :: vs) (u :: us) := by
  refine ⟨by simp [r.1], fun i x e => ?_⟩
  cases i with
  | zero => simp at e; subst e; exact ⟨u, by simp, h⟩
  | succ i => simpa using r.2 i x (by simpa using e)
theorem VRs.uncons {ρ : List Addr} {v : V} {vs : List V} {us : List Value} (r : VRs ρ (v :: vs) us) : ∃ u us', us = u :: us' ∧ VR ρ v u ∧ VRs ρ vs us' := by
  cases us with
  | nil => have := r.1; simp at this
  | cons u us' =>
    refine ⟨u, us', rfl, ?_, by have := r.1; simpa using this, fun i x e => ?_⟩
    · obtain ⟨u', a, b⟩ := r.2 0 v (by simp)
      simp at a; subst a; exact b
    · simpa using r.2 (i + 1) x (by simpa using e)
theorem VRs.unnil {ρ : List Addr} {us : List Value} (r : VRs ρ [] us) : us = [] := by
  have := r.1; cases us with | nil => rfl | cons _ _ => simp at this
theorem VRs.append {ρ : List Addr} {vs vs' : List V} {us us' : List Value} (r : VRs ρ vs us) (r' : VRs ρ vs' us') : VRs ρ (vs ++ vs') (us ++ us') := by
  refine ⟨by simp [r.1, r'.1], fun i x e => ?_⟩
  by_cases h : i < vs.length
  · rw [List.getElem?_append_left h] at e
    rw [List.getElem?_append_left (by rw [← r.1]; exact h)]
    exact r.2 i x e
  · rw [List.getElem?_append_right (by omega)] at e
    rw [List.getElem?_append_right (by rw [← r.1]; omega), ← r.1]
    exact r'.2 _ x e
theorem VRs.one {ρ : List Addr} {v : V} {u : Value} (h : VR ρ v u) : VRs ρ [v] [u] := .cons h .nil
theorem VRs.set {ρ : List Addr} {vs : List V} {us : List Value} (r : VRs ρ vs us) (i : Nat) {v : V} {u : Value} (h : VR ρ v u) : VRs ρ (vs.set i v) (us.set i u) := by
  refine ⟨by simp [r.1], fun k x e => ?_⟩
  by_cases q : i = k
  · subst q
    by_cases hi : i < vs.length
    · rw [List.getElem?_set_self hi] at e
      cases e
      exact ⟨u, List.getElem?_set_self (by rw [← r.1]; exact hi), h⟩
    · rw [List.set_eq_of_length_le (by omega)] at e
      exact absurd (List.getElem?_eq_some_iff.mp e).1 hi
  · rw [List.getElem?_set_ne q] at e
    rw [List.getElem?_set_ne q]
    exact r.2 k x e
theorem VRs.take {ρ : List Addr} {vs : List V} {us : List Value} (r : VRs ρ vs us) (n : Nat) : VRs ρ (vs.take n) (us.take n) := by
  refine ⟨by simp [r.1], fun i x e => ?_⟩
  rw [List.getElem?_take] at e ⊢
  split at e
  · rename_i h; rw [if_pos h]; exact r.2 _ x e
  · exact nn e

noncomputable def OR (ρ : List Addr) (h : Heap) (a : Addr) : O → Prop
  | .list vs => ∃ us n, h.get? a = some { cls := .type "list", data := .seq us n } ∧ VRs ρ vs us.toList
  | .frz vs => ∃ us n, h.get? a = some { cls := .type "list", data := .seq us n } ∧ VRs ρ vs us.toList
  | .tup vs => ∃ us, h.get? a = some { cls := .type "tuple", data := .seq us } ∧ VRs ρ vs us.toList
  | .inst C d => ∃ dx, ρ[d]? = some dx ∧ h.get? a = some (instObj C dx)
  | .attrs vs => ∃ (es : List DictEntry) (n : Nat), h.get? a = some (dictOf es n) ∧ es.length = vs.length ∧ ∀ (i : Nat) (v : V), vs[i]? = some v → ∃ (e : DictEntry) (x : Str) (t : Tok), es[i]? = some e ∧ fldNames[i]? = some x ∧ e.key = Value.str x t ∧ VR ρ v e.val
  | .rng x y z => ∃ t u v, h.get? a = some { cls := .type "range", data := .fields #[.int x t, .int y u, .int z v] }
  | .arg vs => ∃ us : Array Value, h.IsList a us ∧ VRs ρ vs us.toList ∧ us.size ≤ 4096
theorem OR.keep {ρ ρ' : List Addr} {h h' : Heap} {a : Addr} {o : O} (r : OR ρ h a o) (k : ∀ x, h.get? a = some x → h'.get? a = some x) (p : ρ <+: ρ') : OR ρ' h' a o := by
  cases o with
  | list vs => obtain ⟨us, n, e, q⟩ := r; exact ⟨us, n, k _ e, q.mono p⟩
  | frz vs => obtain ⟨us, n, e, q⟩ := r; exact ⟨us, n, k _ e, q.mono p⟩
  | tup vs => obtain ⟨us, e, q⟩ := r; exact ⟨us, k _ e, q.mono p⟩
  | inst C d => obtain ⟨dx, e, q⟩ := r; exact ⟨dx, pre_get p e, k _ q⟩
  | attrs vs =>
    obtain ⟨es, n, e, l, q⟩ := r
    refine ⟨es, n, k _ e, l, fun i v hv => ?_⟩
    obtain ⟨en, x, t, a1, a2, a3, a4⟩ := q i v hv
    exact ⟨en, x, t, a1, a2, a3, a4.mono p⟩
  | rng x y z => obtain ⟨t, u, v, q⟩ := r; exact ⟨t, u, v, k _ q⟩
  | arg vs => obtain ⟨us, q, z, y⟩ := r; exact ⟨us, q.at k, z.mono p, y⟩
theorem OR.there {ρ : List Addr} {h : Heap} {a : Addr} {o : O} (r : OR ρ h a o) : ∃ x, h.get? a = some x := by
  cases o with
  | list vs => obtain ⟨us, n, e, q⟩ := r; exact ⟨_, e⟩
  | frz vs => obtain ⟨us, n, e, q⟩ := r; exact ⟨_, e⟩
  | tup vs => obtain ⟨us, e, q⟩ := r; exact ⟨_, e⟩
  | inst C d => obtain ⟨dx, e, q⟩ := r; exact ⟨_, q⟩
  | attrs vs => obtain ⟨es, n, e, l, q⟩ := r; exact ⟨_, e⟩
  | rng x y z => obtain ⟨t, u, v, q⟩ := r; exact ⟨_, q⟩
  | arg vs => obtain ⟨us, ⟨o, q, _⟩, _, _⟩ := r; exact ⟨o, q⟩

structure RH (ρ : List Addr) (hp : Hp) (h : Heap) : Prop where
  len : ρ.length = hp.length
  nd : ρ.Nodup
  ob : ∀ (j : Nat) (o : O) (a : Addr), hp[j]? = some o → ρ[j]? = some a → OR ρ h a o

theorem RH.addr {ρ : List Addr} {hp : Hp} {h : Heap} (R : RH ρ hp h) {j : Nat} {o : O} (e : hp[j]? = some o) : ∃ a, ρ[j]? = some a ∧ OR ρ h a o := by
  have hl : j < ρ.length := by rw [R.len]; exact (List.getElem?_eq_some_iff.mp e).1
  exact ⟨ρ[j], by simp [hl], R.ob j o _ e (by simp [hl])⟩
theorem RH.obj {ρ : List Addr} {hp : Hp} {h : Heap} (R : RH ρ hp h) {j : Nat} {a : Addr} (e : ρ[j]? = some a) : ∃ o, hp[j]? = some o := by
  have hl : j < hp.length := by rw [← R.len]; exact (List.getElem?_eq_some_iff.mp e).1
  exact ⟨hp[j], by simp [hl]⟩
theorem RH.lt {ρ : List Addr} {hp : Hp} {h : Heap} (R : RH ρ hp h) {a : Addr} (m : a ∈ ρ) : a < h.objs.size := by
  obtain ⟨j, e⟩ := List.getElem?_of_mem m
  obtain ⟨o, eo⟩ := R.obj e
  obtain ⟨x, ex⟩ := (R.ob j o a eo e).there
  exact Heap.lt_size ex
theorem nodup_idx {ρ : List Addr} (n : ρ.Nodup) {i j : Nat} {a : Addr} (ei : ρ[i]? = some a) (ej : ρ[j]? = some a) : i = j := by
  obtain ⟨hi, qi⟩ := List.getElem?_eq_some_iff.mp ei
  obtain ⟨hj, qj⟩ := List.getElem?_eq_some_iff.mp ej
  rcases Nat.lt_trichotomy i j with q | q | q
  · exact absurd (qi.trans qj.symm) (List.pairwise_iff_getElem.mp n i j hi hj q)
  · exact q
  · exact absurd (qj.trans qi.symm) (List.pairwise_iff_getElem.mp n j i hj hi q)
theorem RH.keeps {ρ : List Addr} {hp : Hp} {h h' : Heap} (R : RH ρ hp h) (k : ∀ a ∈ ρ, ∀ x, h.get? a = some x → h'.get? a = some x) : RH ρ hp h' :=
  ⟨R.len, R.nd, fun j o a e q => (R.ob j o a e q).keep (k a (List.mem_of_getElem? q)) (List.prefix_refl _)⟩
theorem RH.alloc {ρ : List Addr} {hp : Hp} {h h' : Heap} {a : Addr} {o : O} (R : RH ρ hp h) (k : ∀ b ∈ ρ, ∀ x, h.get? b = some x → h'.get? b = some x) (na : a ∉ ρ) (ho : OR (ρ ++ [a]) h' a o) : RH (ρ ++ [a]) (hp ++ [o]) h' := by
  refine ⟨by simp [R.len], List.nodup_append.mpr ⟨R.nd, by simp, fun x hx y hy => by simp at hy; subst hy; exact fun q => na (q ▸ hx)⟩, fun j o' b e q => ?_⟩
  by_cases hj : j < ρ.length
  · rw [List.getElem?_append_left hj] at q
    rw [List.getElem?_append_left (by rw [← R.len]; exact hj)] at e
    exact (R.ob j o' b e q).keep (k b (List.mem_of_getElem? q)) (List.prefix_append _ _)
  · have hj' : ρ.length ≤ j := by omega
    rw [List.getElem?_append_right hj'] at q
    rw [List.getElem?_append_right (by rw [← R.len]; exact hj'), ← R.len] at e
    have hz : j - ρ.length = 0 := by
      have := (List.getElem?_eq_some_iff.mp q).1
      simp at this; omega
    rw [hz] at q e
    simp at q e
    subst q; subst e
    exact ho
theorem RH.set {ρ : List Addr} {hp : Hp} {h h' : Heap} {a : Addr} {o : O} {j : Nat} (R : RH ρ hp h) (e : ρ[j]? = some a) (k : ∀ b ∈ ρ, b ≠ a → ∀ x, h.get? b = some x → h'.get? b = some x) (ho : OR ρ h' a o) : RH ρ (hp.set j o) h' := by
  refine ⟨by simp [R.len], R.nd, fun i o' b ei q => ?_⟩
  by_cases hi : j = i
  · subst hi
    have hl : j < hp.length := by rw [← R.len]; exact (List.getElem?_eq_some_iff.mp e).1
    rw [List.getElem?_set_self hl] at ei
    cases ei
    rw [e] at q; cases q
    exact ho
  · rw [List.getElem?_set_ne hi] at ei
    refine (R.ob i o' b ei q).keep (k b (List.mem_of_getElem? q) fun z => hi ?_) (List.prefix_refl _)
    subst z
    exact nodup_idx R.nd e q

structure Step (ρ : List Addr) (hp : Hp) (ρ' : List Addr) (hp' : Hp) (wr : List Addr) (s s' : Shared) : Prop where
  sh : ∃ h t, s' = { s with heap := h, toks := t }
  keep : ∀ b o, s.heap.get? b = some o → b ∉ wr → (∀ (j : Nat) (x : O), ρ[j]? = some b → hp[j]? = some x → x.mut = false) → s'.heap.get? b = some o
  there : ∀ b o, s.heap.get? b = some o → ∃ o', s'.heap.get? b = some o'
  ext : ρ <+: ρ'
  new : ∀ a ∈ ρ', a ∈ ρ ∨ s.heap.get? a = none
  imm : ∀ (j : Nat) (x : O), hp[j]? = some x → x.mut = false → hp'[j]? = some x
theorem Step.refl {ρ : List Addr} {hp : Hp} {wr : List Addr} {s : Shared} : Step ρ hp ρ hp wr s s :=
  ⟨⟨_, _, rfl⟩, fun _ _ e _ _ => e, fun _ _ e => ⟨_, e⟩, List.prefix_refl _, fun _ h => .inl h, fun _ _ e _ => e⟩
theorem Step.tok {ρ : List Addr} {hp : Hp} {wr : List Addr} {s : Shared} {t : Nat} : Step ρ hp ρ hp wr s { s with toks := t } :=
  ⟨⟨_, _, rfl⟩, fun _ _ e _ _ => e, fun _ _ e => ⟨_, e⟩, List.prefix_refl _, fun _ h => .inl h, fun _ _ e _ => e⟩
theorem Step.kept {ρ : List Addr} {hp : Hp} {wr : List Addr} {s : Shared} {h : Heap} {t : Nat} (k : ∀ b o, s.heap.get? b = some o → h.get? b = some o) : Step ρ hp ρ hp wr s { s with heap := h, toks := t } :=
  ⟨⟨_, _, rfl⟩, fun _ _ e _ _ => k _ _ e, fun _ _ e => ⟨_, k _ _ e⟩, List.prefix_refl _, fun _ h => .inl h, fun _ _ e _ => e⟩
theorem Step.alloc {ρ : List Addr} {hp : Hp} {wr : List Addr} {s : Shared} {h : Heap} {t : Nat} {a : Addr} {o : O} (k : ∀ b o, s.heap.get? b = some o → h.get? b = some o) (n : s.heap.get? a = none) :
    Step ρ hp (ρ ++ [a]) (hp ++ [o]) wr s { s with heap := h, toks := t } :=
  ⟨⟨_, _, rfl⟩, fun _ _ e _ _ => k _ _ e, fun _ _ e => ⟨_, k _ _ e⟩, List.prefix_append _ _, fun b hb => by
    rcases List.mem_append.mp hb with hb | hb
    · exact .inl hb
    · rw [List.mem_singleton.mp hb]; exact .inr n, fun j x e _ => by rw [List.getElem?_append_left (List.getElem?_eq_some_iff.mp e).1]; exact e⟩
theorem Step.weaken {ρ : List Addr} {hp : Hp} {ρ' : List Addr} {hp' : Hp} {wr wr' : List Addr} {s s' : Shared} (S : Step ρ hp ρ' hp' wr s s') (h : ∀ a ∈ wr, a ∈ wr') : Step ρ hp ρ' hp' wr' s s' :=
  ⟨S.sh, fun b o e n m => S.keep b o e (fun q => n (h b q)) m, S.there, S.ext, S.new, S.imm⟩
theorem Step.up {ρ : List Addr} {hp : Hp} {ρ' : List Addr} {hp' : Hp} {wr : List Addr} {s s' : Shared} (S : Step ρ hp ρ' hp' [] s s') : Step ρ hp ρ' hp' wr s s' := S.weaken (fun _ h => nomatch h)
theorem Step.unwr {ρ : List Addr} {hp : Hp} {ρ' : List Addr} {hp' : Hp} {wr : List Addr} {s s' : Shared} (S : Step ρ hp ρ' hp' wr s s') (h : ∀ a ∈ wr, s.heap.get? a = none) : Step ρ hp ρ' hp' [] s s' :=
  ⟨S.sh, fun b o e _ m => S.keep b o e (fun q => by rw [h b q] at e; cases e) m, S.there, S.ext, S.new, S.imm⟩
theorem Step.trans {ρ : List Addr} {hp : Hp} {ρ₁ : List Addr} {hp₁ : Hp} {ρ₂ : List Addr} {hp₂ : Hp} {wr : List Addr} {s s₁ s₂ : Shared} (R : RH ρ hp s.heap) (R₁ : RH ρ₁ hp₁ s₁.heap)
    (S : Step ρ hp ρ₁ hp₁ wr s s₁) (S' : Step ρ₁ hp₁ ρ₂ hp₂ wr s₁ s₂) : Step ρ hp ρ₂ hp₂ wr s s₂ := by
  refine ⟨?_, fun b o e n m => ?_, fun b o e => ?_, S.ext.trans S'.ext, fun a h => ?_, fun j x e q => S'.imm j x (S.imm j x e q) q⟩
  · obtain ⟨h, t, rfl⟩ := S.sh
    obtain ⟨h', t', rfl⟩ := S'.sh
    exact ⟨h', t', rfl⟩
  · refine S'.keep b o (S.keep b o e n m) n fun j x ej ex => ?_
    by_cases hj : j < ρ.length
    · have e0 : ρ[j]? = some b := by
        have q1 : ρ[j]? = some ρ[j] := by simp [hj]
        have := pre_get S.ext q1
        rw [ej] at this
        rw [q1, ← this]
      obtain ⟨x0, h0⟩ := R.obj e0
      have q := m j x0 e0 h0
      have := S.imm j x0 h0 q
      rw [ex] at this; cases this
      exact q
    · exfalso
      rcases S.new b (List.mem_of_getElem? ej) with h | h
      · obtain ⟨i, ei⟩ := List.getElem?_of_mem h
        have := nodup_idx R₁.nd (pre_get S.ext ei) ej
        subst this
        exact hj (List.getElem?_eq_some_iff.mp ei).1
      · rw [e] at h; cases h
  · obtain ⟨o', e'⟩ := S.there b o e
    exact S'.there b o' e'
  · rcases S'.new a h with h1 | h1
    · exact S.new a h1
    · cases e : s.heap.get? a with
      | none => exact .inr rfl
      | some o =>
        obtain ⟨o', e'⟩ := S.there a o e
        rw [e'] at h1; cases h1

structure Wd where
  prog : Program
  w : World
  K : Frag
  mg : Str → Option Value
  mb : Str → Option Value
  g : Heap
  X : K.In g
  ns : g.Ns mainGlobals mg
  bs : g.Ns builtinsNs mb
  bb : ∀ x : Str, x ≠ "__name__" → mb x = bootBuiltins x
  lim : g.NoLimit

structure Fm where
  A : Around
  env : Env
  nm : List (Str × Option Addr)
noncomputable def Fm.cs (Γ : Fm) : List Addr := Γ.nm.filterMap (·.2)
noncomputable def Fm.wr (Γ : Fm) : List Addr := Γ.env.locals :: Γ.cs
noncomputable abbrev noDebug (x : Str) : Prop := (x == ("__debug__" : Str)) = false

structure Fm.Ok (W : Wd) (d : Nat) (Γ : Fm) : Prop where
  kind : Γ.env.scope.kind = .function
  glob : Γ.env.globals = mainGlobals
  blt : Γ.env.builtins = builtinsNs
  hand : Γ.A.handled = none
  room : Γ.A.depth + 3 * d + 2 < recursionLimit
  units : Γ.A.units + 12 * d + 100 < cLine
  loc : ∀ (i : Nat) (x : Str), Γ.nm[i]? = some (x, none) → Γ.env.kindOf x = some .local ∧ noDebug x
  cel : ∀ (i : Nat) (x : Str) (c : Addr), Γ.nm[i]? = some (x, some c) → (Γ.env.kindOf x = some .cell ∨ (Γ.env.kindOf x = some .free ∧ (x == ("__classdict__" : Str)) = false)) ∧ Γ.env.cells.lookup x = some c ∧ noDebug x
  ndn : ∀ (i j : Nat) (x y : Str) (c d : Option Addr), Γ.nm[i]? = some (x, c) → Γ.nm[j]? = some (y, d) → i ≠ j → x ≠ y ∧ (c.isSome = true → c ≠ d)
  sepc : ∀ c ∈ Γ.cs, c ≠ Γ.env.locals
  own : ∀ a ∈ Γ.wr, W.g.get? a = none

structure FR (Γ : Fm) (ρ : List Addr) (fr : Sl) (h : Heap) : Prop where
  ns : ∃ m, h.Ns Γ.env.locals m ∧ ∀ (i : Nat) (x : Str) (v : V), Γ.nm[i]? = some (x, none) → fr[i]? = some (some v) → ∃ u, m x = some u ∧ VR ρ v u
  cells : ∀ (i : Nat) (x : Str) (c : Addr), Γ.nm[i]? = some (x, some c) → ∃ uo, h.IsCell c uo ∧ ∀ v, fr[i]? = some (some v) → ∃ u, uo = some u ∧ VR ρ v u

structure Inv (W : Wd) (d : Nat) (Γ : Fm) (ρ : List Addr) (fr : Sl) (hp : Hp) (s : Shared) : Prop where
  ok : Γ.Ok W d
  rh : RH ρ hp s.heap
  fr : FR Γ ρ fr s.heap
  base : ∀ b o, W.g.get? b = some o → s.heap.get? b = some o
  sep : ∀ a ∈ ρ, a ∉ Γ.wr ∧ W.g.get? a = none

theorem cs_mem {Γ : Fm} {c : Addr} (h : c ∈ Γ.cs) : ∃ (i : Nat) (x : Str), Γ.nm[i]? = some (x, some c) := by
  obtain ⟨⟨x, oc⟩, hp, hc⟩ := List.mem_filterMap.mp h
  dsimp only at hc
  subst hc
  obtain ⟨i, e⟩ := List.getElem?_of_mem hp
  exact ⟨i, x, e⟩
theorem mem_cs {Γ : Fm} {i : Nat} {x : Str} {c : Addr} (e : Γ.nm[i]? = some (x, some c)) : c ∈ Γ.cs := List.mem_filterMap.mpr ⟨_, List.mem_of_getElem? e, rfl⟩
theorem FR.wr_there {Γ : Fm} {ρ : List Addr} {fr : Sl} {h : Heap} (F : FR Γ ρ fr h) {a : Addr} (m : a ∈ Γ.wr) : ∃ o, h.get? a = some o := by
  rcases List.mem_cons.mp m with rfl | m
  · obtain ⟨_, ⟨o, _, _, e, _⟩, _⟩ := F.ns; exact ⟨o, e⟩
  · obtain ⟨i, x, e⟩ := cs_mem m
    obtain ⟨_, ⟨o, e, _⟩, _⟩ := F.cells i x a e
    exact ⟨o, e⟩
theorem FR.keeps {Γ : Fm} {ρ ρ' : List Addr} {fr : Sl} {h h' : Heap} (F : FR Γ ρ fr h) (p : ρ <+: ρ') (k : ∀ a ∈ Γ.wr, ∀ o, h.get? a = some o → h'.get? a = some o) : FR Γ ρ' fr h' := by
  refine ⟨?_, fun i x c e => ?_⟩
  · obtain ⟨m, hn, hm⟩ := F.ns
    refine ⟨m, hn.at' fun o e => k _ (List.mem_cons_self) o e, fun i x v e q => ?_⟩
    obtain ⟨u, a, b⟩ := hm i x v e q
    exact ⟨u, a, b.mono p⟩
  · obtain ⟨uo, ⟨o, ho, hd⟩, hv⟩ := F.cells i x c e
    refine ⟨uo, ⟨o, k c (List.mem_cons_of_mem _ (mem_cs e)) o ho, hd⟩, fun v q => ?_⟩
    obtain ⟨u, a, b⟩ := hv v q
    exact ⟨u, a, b.mono p⟩
theorem Inv.keepW {W : Wd} {d : Nat} {Γ : Fm} {ρ ρ' : List Addr} {fr : Sl} {hp hp' : Hp} {s s' : Shared} (I : Inv W d Γ ρ fr hp s) (S : Step ρ hp ρ' hp' [] s s') :
    ∀ a ∈ Γ.wr, ∀ o, s.heap.get? a = some o → s'.heap.get? a = some o := fun a m o e =>
  S.keep a o e (fun h => nomatch h) fun _ _ ej _ => absurd m (I.sep a (List.mem_of_getElem? ej)).1
theorem Inv.step {W : Wd} {d : Nat} {Γ : Fm} {ρ ρ' : List Addr} {fr : Sl} {hp hp' : Hp} {s s' : Shared} (I : Inv W d Γ ρ fr hp s) (S : Step ρ hp ρ' hp' [] s s') (R : RH ρ' hp' s'.heap) : Inv W d Γ ρ' fr hp' s' where
  ok := I.ok
  rh := R
  fr := I.fr.keeps S.ext (I.keepW S)
  base := fun b o e => S.keep b o (I.base b o e) (fun h => nomatch h) fun _ _ ej _ => absurd e (by rw [(I.sep b (List.mem_of_getElem? ej)).2]; exact fun q => nomatch q)
  sep := fun a h => by
    rcases S.new a h with h | h
    · exact I.sep a h
    · refine ⟨fun m => ?_, ?_⟩
      · obtain ⟨o, e⟩ := I.fr.wr_there m
        rw [h] at e; cases e
      · cases e : W.g.get? a with
        | none => rfl
        | some o => have := I.base a o e; rw [h] at this; cases this

noncomputable abbrev NoE : Value → Shared → Prop := fun _ _ => False
inductive EvP (ρ : List Addr) (hp : Hp) (v : V) (hp' : Hp) (s : Shared) (u : Value) (s' : Shared) : Prop
  | mk (ρ' : List Addr) (h0 : Step ρ hp ρ' hp' [] s s') (h1 : RH ρ' hp' s'.heap) (h2 : VR ρ' v u) : EvP ρ hp v hp' s u s'
noncomputable def EvM (W : Wd) (d : Nat) (Γ : Fm) (e : Expr) (f : EvF) : Prop :=
  ∀ fr hp v hp' ρ s, f fr hp = some (v, hp') → Inv W d Γ ρ fr hp s → wpAny (model W.prog W.w) Γ.A (eval e Γ.env) (EvP ρ hp v hp' s) NoE s

theorem EvP.kept {ρ : List Addr} {hp : Hp} {v : V} {s : Shared} {u : Value} {h : Heap} {t : Nat} (R : RH ρ hp s.heap) (k : ∀ b o, s.heap.get? b = some o → h.get? b = some o) (r : VR ρ v u) : EvP ρ hp v hp s u { s with heap := h, toks := t } :=
  ⟨ρ, .kept k, R.keeps fun a _ x e => k a x e, r⟩
theorem EvP.fresh {ρ : List Addr} {hp : Hp} {o : O} {s : Shared} {h : Heap} {t : Nat} {a : Addr} (R : RH ρ hp s.heap) (k : ∀ b o, s.heap.get? b = some o → h.get? b = some o) (n : s.heap.get? a = none) (r : OR (ρ ++ [a]) h a o) :
    EvP ρ hp (.own hp.length) (hp ++ [o]) s (.ref a) { s with heap := h, toks := t } := by
  refine ⟨ρ ++ [a], .alloc k n, R.alloc (fun b _ x e => k b x e) (fun m => ?_) r, a, ?_, rfl⟩
  · obtain ⟨j, e⟩ := List.getElem?_of_mem m
    obtain ⟨o', eo⟩ := R.obj e
    obtain ⟨x, ex⟩ := (R.ob j o' a eo e).there
    rw [n] at ex; cases ex
  · rw [← R.len]; simp
theorem get_size_none (h : Heap) : h.get? h.objs.size = none := by
  cases e : h.get? h.objs.size with
  | none => rfl
  | some o => exact absurd (Heap.lt_size e) (Nat.lt_irrefl _)
theorem EvP.same {ρ : List Addr} {hp : Hp} {v : V} {s : Shared} {u : Value} {t : Nat} (R : RH ρ hp s.heap) (h : VR ρ v u) : EvP ρ hp v hp s u { s with toks := t } := ⟨ρ, .tok, R, h⟩
theorem EvP.same0 {ρ : List Addr} {hp : Hp} {v : V} {s : Shared} {u : Value} (R : RH ρ hp s.heap) (h : VR ρ v u) : EvP ρ hp v hp s u s := ⟨ρ, .refl, R, h⟩

section
variable {W : Wd} {d : Nat} {Γ : Fm}

theorem ev_int (i : Int) {k : Nat} {pos : Pos} : EvM W d Γ (.Constant (.int i) k pos) (fun _ hp => some (.int i, hp)) := by
  intro fr hp v hp' ρ s e I
  obtain ⟨rfl, rfl⟩ := si2 e
  exact wpAny_Constant_int (.same I.rh ⟨_, rfl⟩)
theorem ev_bool (b : Bool) {k : Nat} {pos : Pos} : EvM W d Γ (.Constant (.bool b) k pos) (fun _ hp => some (.bool b, hp)) := by
  intro fr hp v hp' ρ s e I
  obtain ⟨rfl, rfl⟩ := si2 e
  exact wpAny_Constant_bool (.same0 I.rh rfl)
theorem ev_str {x : Str} {k : Nat} {pos : Pos} (c : List Nat) (hx : x = ⟨c.toArray⟩) : EvM W d Γ (.Constant (.str x) k pos) (fun _ hp => some (.str c, hp)) := by
  intro fr hp v hp' ρ s e I
  obtain ⟨rfl, rfl⟩ := si2 e
  exact wpAny_Constant_str (.same I.rh ⟨_, by rw [hx]⟩)

noncomputable def locF (i : Nat) : EvF := fun fr hp => match fr[i]? with
  | some (some v) => some (v, hp)
  | _ => none
theorem locF_some {i : Nat} {fr : Sl} {hp hp' : Hp} {v : V} (e : locF i fr hp = some (v, hp')) : fr[i]? = some (some v) ∧ hp' = hp := by
  unfold locF at e
  split at e
  · rename_i v' q; cases e; exact ⟨q, rfl⟩
  · exact nn e
theorem ev_loc (i : Nat) {x : Str} {o : Option Addr} {pos : Pos} (hi : Γ.nm[i]? = some (x, o)) : EvM W d Γ (.Name x pos) (locF i) := by
  intro fr hp v hp' ρ s e I
  obtain ⟨e1, rfl⟩ := locF_some e
  cases o with
  | none =>
    obtain ⟨hk, hd⟩ := I.ok.loc i x hi
    obtain ⟨m, hn, hm⟩ := I.fr.ns
    obtain ⟨u, hu, hv⟩ := hm i x v hi e1
    exact wpAny_Name (wpAny_loadName_local I.ok.kind hk hn hu (.same0 I.rh hv)) hd
  | some c =>
    obtain ⟨hk, hl, hd⟩ := I.ok.cel i x c hi
    obtain ⟨uo, hc, hv⟩ := I.fr.cells i x c hi
    obtain ⟨u, rfl, hw⟩ := hv v e1
    rcases hk with hk | ⟨hk, hcd⟩
    · exact wpAny_Name (wpAny_loadName_cell I.ok.kind hk hl hc (.same0 I.rh hw)) hd
    · exact wpAny_Name (wpAny_loadName_free I.ok.kind hk hl hc (.same0 I.rh hw) hcd) hd

theorem ev_glob {x : Str} {pos : Pos} {c : Value} (v : V) (hx : nsIn W.K mainGlobals x = some (some c)) (hk : Γ.env.kindOf x = some .globalImplicit) (hv : VR [] v c) (hd : noDebug x) :
    EvM W d Γ (.Name x pos) (fun _ hp => some (v, hp)) := by
  intro fr hp v' hp' ρ s e I
  obtain ⟨rfl, rfl⟩ := si2 e
  exact Name_function_global I.ok.kind hk (loadGlobal_global (env := Γ.env) (by rw [I.ok.glob]; exact W.ns.keeps I.base) (mg_of W.X W.ns hx) (.same0 I.rh (hv.mono (List.nil_prefix)))) hd
theorem ev_blt {x : Str} {pos : Pos} {c : Value} (hx : nsIn W.K mainGlobals x = some none) (hb : bootBuiltins x = some c) (hk : Γ.env.kindOf x = some .globalImplicit) (hn : x ≠ "__name__") (hd : noDebug x) :
    EvM W d Γ (.Name x pos) (fun _ hp => some (.cst c, hp)) := by
  intro fr hp v' hp' ρ s e I
  obtain ⟨rfl, rfl⟩ := si2 e
  exact Name_function_global I.ok.kind hk (loadGlobal_builtin (env := Γ.env) (by rw [I.ok.glob]; exact W.ns.keeps I.base) (mg_none_of W.X W.ns hx) (by rw [I.ok.blt]; exact W.bs.keeps I.base) ((W.bb x hn).trans hb) (.same0 I.rh rfl)) hd
end


noncomputable abbrev TeF := Sl → Hp → Option (Bool × Hp)
noncomputable abbrev OpF := V → V → Hp → Option (V × Hp)

theorem EvP.trans {ρ ρ₁ : List Addr} {hp hp₁ hp₂ : Hp} {v : V} {s s₁ s₂ : Shared} {u : Value} (R : RH ρ hp s.heap) (S : Step ρ hp ρ₁ hp₁ [] s s₁) (R₁ : RH ρ₁ hp₁ s₁.heap)
    (h : EvP ρ₁ hp₁ v hp₂ s₁ u s₂) : EvP ρ hp v hp₂ s u s₂ := let ⟨ρ₂, S₂, R₂, r⟩ := h; ⟨ρ₂, S.trans R R₁ S₂, R₂, r⟩
inductive TeP (ρ : List Addr) (hp : Hp) (b : Bool) (hp' : Hp) (s : Shared) (c : Bool) (s' : Shared) : Prop
  | mk (h0 : c = b) (ρ' : List Addr) (h1 : Step ρ hp ρ' hp' [] s s') (h2 : RH ρ' hp' s'.heap) : TeP ρ hp b hp' s c s'
theorem TeP.trans {ρ ρ₁ : List Addr} {hp hp₁ hp₂ : Hp} {b : Bool} {s s₁ s₂ : Shared} {c : Bool} (R : RH ρ hp s.heap) (S : Step ρ hp ρ₁ hp₁ [] s s₁) (R₁ : RH ρ₁ hp₁ s₁.heap)
    (h : TeP ρ₁ hp₁ b hp₂ s₁ c s₂) : TeP ρ hp b hp₂ s c s₂ := let ⟨e, ρ₂, S₂, R₂⟩ := h; ⟨e, ρ₂, S.trans R R₁ S₂, R₂⟩
noncomputable def TeM (W : Wd) (d : Nat) (Γ : Fm) (e : Expr) (f : TeF) : Prop :=
  ∀ fr hp b hp' ρ s, f fr hp = some (b, hp') → Inv W d Γ ρ fr hp s → wpAny (model W.prog W.w) Γ.A (isTrue e Γ.env (eval e Γ.env)) (TeP ρ hp b hp' s) NoE s

noncomputable def OpM (W : Wd) (d : Nat) (Γ : Fm) (t : Value → Value → Sem Value) (g : OpF) : Prop :=
  ∀ fr hp a b v hp' ρ s u₁ u₂, g a b hp = some (v, hp') → Inv W d Γ ρ fr hp s → VR ρ a u₁ → VR ρ b u₂ → wpAny (model W.prog W.w) Γ.A (t u₁ u₂) (EvP ρ hp v hp' s) NoE s

noncomputable def op2 (fa fb : EvF) (g : OpF) : EvF := fun fr hp => ob2 (fa fr hp) fun x h1 => (ob2 (fb fr h1) fun y h2 => g x y h2)
theorem op2_some {fa fb : EvF} {g : OpF} {fr : Sl} {hp hp' : Hp} {v : V} (e : op2 fa fb g fr hp = some (v, hp')) :
    ∃ x h1 y h2, fa fr hp = some (x, h1) ∧ fb fr h1 = some (y, h2) ∧ g x y h2 = some (v, hp') := by
  unfold op2 at e
  refine ob2_elim e fun x h1 e1 e => ?_
  refine ob2_elim e fun y h2 e2 e => ?_
  exact ⟨x, h1, y, h2, e1, e2, e⟩

section
variable {W : Wd} {d : Nat} {Γ : Fm}

theorem ev_bin {a b : Expr} {op : Operator} {pos : Pos} {fa fb : EvF} {g : OpF} (ha : EvM W d Γ a fa) (hb : EvM W d Γ b fb) (ho : OpM W d Γ (binaryOp op) g) : EvM W d Γ (.BinOp a op b pos) (op2 fa fb g) := by
  intro fr hp v hp' ρ s e I
  obtain ⟨x, h1, y, h2, e1, e2, e3⟩ := op2_some e
  refine wpAny_BinOp (wpAny_mono (ha fr hp x h1 ρ s e1 I) (fun u₁ s₁ p => ?_) fun _ _ h => h)
  obtain ⟨ρ₁, S₁, R₁, r₁⟩ := p
  have I₁ := I.step S₁ R₁
  refine wpAny_mono (hb fr h1 y h2 ρ₁ s₁ e2 I₁) (fun u₂ s₂ p => ?_) fun _ _ h => h
  obtain ⟨ρ₂, S₂, R₂, r₂⟩ := p
  have I₂ := I₁.step S₂ R₂
  exact wpAny_mono (ho fr h2 x y v hp' ρ₂ s₂ u₁ u₂ e3 I₂ (r₁.mono S₂.ext) r₂) (fun u s₃ p => (p.trans R₁ S₂ R₂).trans I.rh S₁ R₁) fun _ _ h => h

theorem ev_cmp {a b : Expr} {op : CmpOp} {pos : Pos} {fa fb : EvF} {g : OpF} (ha : EvM W d Γ a fa) (hb : EvM W d Γ b fb) (ho : OpM W d Γ (compareOp op) g) (hm : behindInMarks op b = false) :
    EvM W d Γ (.Compare a [op] [b] pos) (op2 fa fb g) := by
  intro fr hp v hp' ρ s e I
  obtain ⟨x, h1, y, h2, e1, e2, e3⟩ := op2_some e
  refine wpAny_Compare1 (wpAny_mono (ha fr hp x h1 ρ s e1 I) (fun u₁ s₁ p => ?_) fun _ _ h => h) hm
  obtain ⟨ρ₁, S₁, R₁, r₁⟩ := p
  have I₁ := I.step S₁ R₁
  refine wpAny_mono (hb fr h1 y h2 ρ₁ s₁ e2 I₁) (fun u₂ s₂ p => ?_) fun _ _ h => h
  obtain ⟨ρ₂, S₂, R₂, r₂⟩ := p
  have I₂ := I₁.step S₂ R₂
  exact wpAny_mono (ho fr h2 x y v hp' ρ₂ s₂ u₁ u₂ e3 I₂ (r₁.mono S₂.ext) r₂) (fun u s₃ p => (p.trans R₁ S₂ R₂).trans I.rh S₁ R₁) fun _ _ h => h

noncomputable def asB (f : EvF) : TeF := fun fr hp => match f fr hp with
  | some (.bool b, h) => some (b, h)
  | _ => none
theorem asB_some {f : EvF} {fr : Sl} {hp hp' : Hp} {b : Bool} (e : asB f fr hp = some (b, hp')) : f fr hp = some (.bool b, hp') := by
  unfold asB at e
  split at e
  · rename_i b' h q; cases e; exact q
  · exact nn e
theorem te_cmp {a b : Expr} {op : CmpOp} {pos : Pos} {fa fb : EvF} {g : OpF} (ha : EvM W d Γ a fa) (hb : EvM W d Γ b fb) (ho : OpM W d Γ (compareOp op) g) (hm : behindInMarks op b = false) :
    TeM W d Γ (.Compare a [op] [b] pos) (asB (op2 fa fb g)) := by
  intro fr hp c hp' ρ s e I
  obtain ⟨x, h1, y, h2, e1, e2, e3⟩ := op2_some (asB_some e)
  refine wpAny_isTrue_Compare1 (wpAny_mono (ha fr hp x h1 ρ s e1 I) (fun u₁ s₁ p => ?_) fun _ _ h => h) hm
  obtain ⟨ρ₁, S₁, R₁, r₁⟩ := p
  have I₁ := I.step S₁ R₁
  refine wpAny_mono (hb fr h1 y h2 ρ₁ s₁ e2 I₁) (fun u₂ s₂ p => ?_) fun _ _ h => h
  obtain ⟨ρ₂, S₂, R₂, r₂⟩ := p
  have I₂ := I₁.step S₂ R₂
  refine wpAny_mono (ho fr h2 x y _ hp' ρ₂ s₂ u₁ u₂ e3 I₂ (r₁.mono S₂.ext) r₂) (fun u s₃ p => ?_) fun _ _ h => h
  obtain ⟨ρ₃, S₃, R₃, r₃⟩ := (p.trans R₁ S₂ R₂).trans I.rh S₁ R₁
  have : u = .bool c := r₃
  subst this
  exact wpAny_truthy_bool ⟨rfl, ρ₃, S₃, R₃⟩
theorem te_val {a : Expr} {fa : EvF} (ha : EvM W d Γ a fa) (he : isTrue a Γ.env (eval a Γ.env) = (do let v ← eval a Γ.env; standAt a.pos; holding [v] (truthy v))) : TeM W d Γ a (asB fa) := by
  intro fr hp c hp' ρ s e I
  refine wpAny_isTrue_value (wpAny_mono (ha fr hp _ hp' ρ s (asB_some e) I) (fun u s₁ p => ?_) fun _ _ h => h) he
  obtain ⟨ρ₁, S₁, R₁, r₁⟩ := p
  have : u = .bool c := r₁
  subst this
  exact wpAny_truthy_bool ⟨rfl, ρ₁, S₁, R₁⟩
noncomputable def notT (f : TeF) : TeF := fun fr hp => ob2 (f fr hp) fun b h => some (!b, h)
theorem te_not {a : Expr} {pos : Pos} {fa : TeF} (ha : TeM W d Γ a fa) : TeM W d Γ (.UnaryOp .Not a pos) (notT fa) := by
  intro fr hp c hp' ρ s e I
  unfold notT at e
  refine ob2_elim e fun b h q e => ?_
  obtain ⟨rfl, rfl⟩ := si2 e
  exact wpAny_isTrue_Not (wpAny_mono (ha fr hp b _ ρ s q I) (fun c s₁ p => by obtain ⟨rfl, ρ₁, S, R⟩ := p; exact ⟨rfl, ρ₁, S, R⟩) fun _ _ h => h)
noncomputable def andT (f g : TeF) : TeF := fun fr hp => match f fr hp with
  | some (true, h) => g fr h
  | some (false, h) => some (false, h)
  | none => none
noncomputable def orT (f g : TeF) : TeF := fun fr hp => match f fr hp with
  | some (true, h) => some (true, h)
  | some (false, h) => g fr h
  | none => none
theorem te_and {a b : Expr} {pos : Pos} {fa fb : TeF} (ha : TeM W d Γ a fa) (hb : TeM W d Γ b fb) : TeM W d Γ (.BoolOp .And [a, b] pos) (andT fa fb) := by
  intro fr hp c hp' ρ s e I
  unfold andT at e
  refine wpAny_isTrue_BoolOp (wpAny_allTrue_And_cons ?_)
  split at e
  · rename_i h q
    refine wpAny_mono (ha fr hp true h ρ s q I) (fun c1 s₁ p => ?_) fun _ _ h => h
    obtain ⟨rfl, ρ₁, S₁, R₁⟩ := p
    refine ite_t ?_
    refine wpAny_allTrue_And_cons (wpAny_mono (hb fr h c hp' ρ₁ s₁ e (I.step S₁ R₁)) (fun c2 s₂ p => ?_) fun _ _ h => h)
    have p' := p.trans I.rh S₁ R₁
    obtain ⟨rfl, _⟩ := p
    cases c2 with
    | true => simp only [if_true]; exact wpAny_allTrue_And_nil p'
    | false => simp only [Bool.false_eq_true, if_false]; exact p'
  · rename_i h q
    obtain ⟨rfl, rfl⟩ := si2 e
    refine wpAny_mono (ha fr hp false _ ρ s q I) (fun c1 s₁ p => ?_) fun _ _ h => h
    obtain ⟨rfl, ρ₉, S₉, R₉⟩ := p
    refine ite_f ?_
    exact ⟨rfl, ρ₉, S₉, R₉⟩
  · exact nn e
theorem te_or {a b : Expr} {pos : Pos} {fa fb : TeF} (ha : TeM W d Γ a fa) (hb : TeM W d Γ b fb) : TeM W d Γ (.BoolOp .Or [a, b] pos) (orT fa fb) := by
  intro fr hp c hp' ρ s e I
  unfold orT at e
  refine wpAny_isTrue_BoolOp (wpAny_allTrue_Or_cons ?_)
  split at e
  · rename_i h q
    obtain ⟨rfl, rfl⟩ := si2 e
    refine wpAny_mono (ha fr hp true _ ρ s q I) (fun c1 s₁ p => ?_) fun _ _ h => h
    obtain ⟨rfl, ρ₉, S₉, R₉⟩ := p
    refine ite_t ?_
    exact ⟨rfl, ρ₉, S₉, R₉⟩
  · rename_i h q
    refine wpAny_mono (ha fr hp false h ρ s q I) (fun c1 s₁ p => ?_) fun _ _ h => h
    obtain ⟨rfl, ρ₁, S₁, R₁⟩ := p
    refine ite_f ?_
    refine wpAny_allTrue_Or_cons (wpAny_mono (hb fr h c hp' ρ₁ s₁ e (I.step S₁ R₁)) (fun c2 s₂ p => ?_) fun _ _ h => h)
    have p' := p.trans I.rh S₁ R₁
    obtain ⟨rfl, _⟩ := p
    cases c2 with
    | true => simp only [if_true]; exact p'
    | false => simp only [Bool.false_eq_true, if_false]; exact wpAny_allTrue_Or_nil p'
  · exact nn e
noncomputable def smallI (i : Int) : Bool := Nat.blt i.natAbs 1000000000
noncomputable def addF : OpF := fun a b hp => match a, b with
  | .int i, .int j => some (.int (i + j), hp)
  | .str x, .str y => (obB (Nat.ble (x.length + y.length) 100000) (some (.str (x ++ y), hp)))
  | _, _ => none
noncomputable def subF : OpF := fun a b hp => match a, b with
  | .int i, .int j => some (.int (i - j), hp)
  | _, _ => none
noncomputable def mulF : OpF := fun a b hp => match a, b with
  | .int i, .int j => (obB (smallI j) (some (.int (i * j), hp)))
  | .str x, .int (.ofNat n) => (obB (Nat.ble x.length 1 && Nat.ble n 10000) (some (.str (List.flatten (List.replicate n x)), hp)))
  | _, _ => none
noncomputable def divF : OpF := fun a b hp => match a, b with
  | .int i, .int j => (obB (smallI j && !(decide (j = 0))) (some (.int (i.fdiv j), hp)))
  | _, _ => none
noncomputable def modF : OpF := fun a b hp => match a, b with
  | .int i, .int j => (obB (!(decide (j = 0))) (some (.int (i.fmod j), hp)))
  | _, _ => none
noncomputable def powF : OpF := fun a b hp => match a, b with
  | .int i, .int j => (obB (smallI i && Nat.ble j.natAbs 1000 && decide (0 ≤ j)) (some (.int (i ^ j.toNat), hp)))
  | _, _ => none

theorem smallI_lt {i : Int} (h : smallI i = true) : i.natAbs < 1000000000 := by
  have h' : i.natAbs + 1 ≤ 1000000000 := Nat.le_of_ble_eq_true h
  omega
theorem bits_small {i : Int} (h : smallI i = true) : Builtin.Int.intBits i ≤ 64 := by
  have := smallI_lt h
  exact intBits_le_64 (by omega) (by omega)
theorem reps_nil (x : Array Nat) (n : Nat) : ∀ acc : Array Nat, ((List.replicate n x).foldl (· ++ ·) acc).toList = acc.toList ++ List.flatten (List.replicate n x.toList) := by
  induction n with
  | zero => intro acc; simp
  | succ n ih => intro acc; rw [List.replicate_succ, List.foldl_cons, ih, List.replicate_succ, List.flatten_cons]; simp
theorem txt_mul (x : List Nat) (n : Nat) : Txt.mul ⟨x.toArray⟩ (n : Int) = ⟨(List.flatten (List.replicate n x)).toArray⟩ := by
  unfold Txt.mul
  by_cases h1 : (n : Int) < 1
  · rw [if_pos h1]
    have : n = 0 := by omega
    subst this
    rfl
  · rw [if_neg h1]
    split
    · rename_i h
      simp only [Bool.or_eq_true, beq_iff_eq] at h
      rcases h with h | h
      · have : n = 1 := by omega
        subst this
        simp
      · have : x = [] := by
          have : x.length = 0 := by simpa [Str.length] using h
          exact List.length_eq_zero_iff.mp this
        subst this
        simp
    · refine congrArg Str.mk (Array.toList_inj.mp ?_)
      rw [reps_nil]
      simp
theorem op_add : OpM W d Γ (binaryOp .Add) addF := by
  intro fr hp a b v hp' ρ s u₁ u₂ e I ra rb
  unfold addF at e
  split at e
  · cases e
    obtain ⟨t, rfl⟩ := ra
    obtain ⟨t', rfl⟩ := rb
    exact add_int (.same I.rh ⟨_, rfl⟩)
  · rename_i x y
    refine obB_elim e fun hl e => ?_
    obtain ⟨rfl, rfl⟩ := si2 e
    obtain ⟨t, rfl⟩ := ra
    obtain ⟨t', rfl⟩ := rb
    have hl' := Nat.le_of_ble_eq_true hl
    refine SBL.add (fun t' k _ => ?_) (by show x.length + y.length ≤ _; rw [sizeLine_eq]; omega)
    exact .same I.rh ⟨t', by
      refine congrArg (fun z => Value.str z t') ?_
      show Str.mk _ = Str.mk _
      simp [Str.append]⟩
  · exact nn e
theorem op_sub : OpM W d Γ (binaryOp .Sub) subF := by
  intro fr hp a b v hp' ρ s u₁ u₂ e I ra rb
  unfold subF at e
  split at e
  · cases e
    obtain ⟨t, rfl⟩ := ra
    obtain ⟨t', rfl⟩ := rb
    exact sub_int (.same I.rh ⟨_, rfl⟩)
  · exact nn e
theorem op_mul : OpM W d Γ (binaryOp .Mult) mulF := by
  intro fr hp a b v hp' ρ s u₁ u₂ e I ra rb
  unfold mulF at e
  split at e
  · refine obB_elim e fun h e => ?_
    obtain ⟨rfl, rfl⟩ := si2 e
    obtain ⟨t, rfl⟩ := ra
    obtain ⟨t', rfl⟩ := rb
    exact mul_int (.same I.rh ⟨_, rfl⟩) (IntMulOk.of_right (bits_small h))
  · rename_i x n
    refine obB_elim e fun h e => ?_
    obtain ⟨rfl, rfl⟩ := si2 e
    obtain ⟨t, rfl⟩ := ra
    obtain ⟨t', rfl⟩ := rb
    simp only [Bool.and_eq_true] at h
    have h1 := Nat.le_of_ble_eq_true h.1
    have h2 := Nat.le_of_ble_eq_true h.2
    refine SB.mul (mulOk_of 1 10000 (by exact h1) (by show (n : Int) ≤ _; omega) (by show _ ≤ (n : Int); omega) (by decide) (by decide)) fun t' k => ?_
    exact .same I.rh ⟨t', congrArg (fun z => Value.str z t') (txt_mul x n)⟩
  · exact nn e
theorem op_div : OpM W d Γ (binaryOp .FloorDiv) divF := by
  intro fr hp a b v hp' ρ s u₁ u₂ e I ra rb
  unfold divF at e
  split at e
  · refine obB_elim e fun h e => ?_
    obtain ⟨rfl, rfl⟩ := si2 e
    obtain ⟨t, rfl⟩ := ra
    obtain ⟨t', rfl⟩ := rb
    simp only [Bool.and_eq_true, Bool.not_eq_true', decide_eq_false_iff_not] at h
    have := smallI_lt h.1
    exact floordiv_int h.2 (.same I.rh ⟨_, rfl⟩) (Or.inl (PyProof.noPylong_small (by omega)))
  · exact nn e
theorem op_mod : OpM W d Γ (binaryOp .Mod) modF := by
  intro fr hp a b v hp' ρ s u₁ u₂ e I ra rb
  unfold modF at e
  split at e
  · refine obB_elim e fun h e => ?_
    obtain ⟨rfl, rfl⟩ := si2 e
    obtain ⟨t, rfl⟩ := ra
    obtain ⟨t', rfl⟩ := rb
    simp only [Bool.not_eq_true', decide_eq_false_iff_not] at h
    exact mod_int h (.same I.rh ⟨_, rfl⟩)
  · exact nn e
theorem op_pow : OpM W d Γ (binaryOp .Pow) powF := by
  intro fr hp a b v hp' ρ s u₁ u₂ e I ra rb
  unfold powF at e
  split at e
  · refine obB_elim e fun h e => ?_
    obtain ⟨rfl, rfl⟩ := si2 e
    obtain ⟨t, rfl⟩ := ra
    obtain ⟨t', rfl⟩ := rb
    simp only [Bool.and_eq_true, decide_eq_true_eq] at h
    have h1 := smallI_lt h.1.1
    have h2 := Nat.le_of_ble_eq_true h.1.2
    exact pow_int_small h.2 (by omega) (by omega) (.same I.rh ⟨_, rfl⟩)
  · exact nn e
end


noncomputable def eqL : List Nat → List Nat → Bool
  | [], [] => true
  | a :: x, b :: y => Nat.beq a b && eqL x y
  | _, _ => false
theorem eqL_iff : ∀ x y : List Nat, eqL x y = true ↔ x = y
  | [], [] => by simp [eqL]
  | [], _ :: _ => by simp [eqL]
  | _ :: _, [] => by simp [eqL]
  | a :: x, b :: y => by
    rw [eqL, Bool.and_eq_true, eqL_iff x y, List.cons.injEq]
    constructor
    · rintro ⟨h, rfl⟩; exact ⟨Nat.eq_of_beq_eq_true h, rfl⟩
    · rintro ⟨rfl, rfl⟩; exact ⟨Nat.beq_refl _, rfl⟩
theorem eqL_str (x y : List Nat) : ((⟨x.toArray⟩ : Str) == ⟨y.toArray⟩) = eqL x y := by
  rw [Bool.eq_iff_iff, eqL_iff, beq_iff_eq]
  constructor
  · intro h; injection h with h; injection h
  · rintro rfl; rfl

noncomputable def pdsOf (f : V → Option PyData) : List V → Option (List PyData)
  | [] => some []
  | v :: vs => (ob1 (f v) fun d => (ob1 (pdsOf f vs) fun ds => some (d :: ds)))
noncomputable def pdOf : Nat → Hp → V → Option PyData
  | 0, _, v => (match v with
    | .none => some .none
    | .bool b => some (.bool b)
    | .int i => some (.int i)
    | _ => none)
  | n + 1, hp, v => (match v with
    | .none => some .none
    | .bool b => some (.bool b)
    | .int i => some (.int i)
    | .own j => (match hp[j]? with
      | some (.list vs) => (match pdsOf (pdOf n hp) vs with | some ds => some (.list ds) | none => none)
      | some (.frz vs) => (match pdsOf (pdOf n hp) vs with | some ds => some (.list ds) | none => none)
      | some (.tup vs) => (match pdsOf (pdOf n hp) vs with | some ds => some (.tuple ds) | none => none)
      | _ => none)
    | _ => none)

theorem pds_reads {ρ : List Addr} {h : Heap} {f : V → Option PyData} {n : Nat}
    (hf : ∀ v d u, f v = some d → VR ρ v u → (∃ as, Reads h u d as) ∧ d.canLay0 = true ∧ d.depth ≤ n) :
    ∀ (vs : List V) (ds : List PyData) (us : List Value), pdsOf f vs = some ds → VRs ρ vs us → (∃ as, ReadsAll h us ds as) ∧ PyData.canLayAll0 ds = true ∧ PyData.depthAll ds ≤ n
  | [], ds, us, e, r => by
    cases e
    rw [r.unnil]
    exact ⟨⟨_, .nil⟩, by simp [PyData.canLayAll0], by simp [PyData.depthAll]⟩
  | v :: vs, ds, us, e, r => by
    obtain ⟨u, us', rfl, r1, r2⟩ := r.uncons
    unfold pdsOf at e
    refine ob1_elim e fun d hd e => ?_
    refine ob1_elim e fun ds' hds e => ?_
    cases e
    obtain ⟨⟨as, q⟩, c, dp⟩ := hf v d u hd r1
    obtain ⟨⟨bs, q'⟩, c', dp'⟩ := pds_reads hf vs ds' us' hds r2
    refine ⟨⟨_, .cons q q'⟩, ?_, ?_⟩
    · simp [PyData.canLayAll0, c, c']
    · simp only [PyData.depthAll]; omega
theorem pd_reads {ρ : List Addr} {hp : Hp} {h : Heap} (R : RH ρ hp h) : ∀ (n : Nat) (v : V) (d : PyData) (u : Value), pdOf n hp v = some d → VR ρ v u → (∃ as, Reads h u d as) ∧ d.canLay0 = true ∧ d.depth ≤ n
  | 0, v, d, u, e, r => by
    cases v <;> simp only [pdOf] at e <;> first | cases e | skip
    · have : u = .none := r
      subst this; exact ⟨⟨_, .none⟩, by simp [PyData.canLay0], by simp [PyData.depth]⟩
    · have : u = .bool _ := r
      subst this; exact ⟨⟨_, .bool _⟩, by simp [PyData.canLay0], by simp [PyData.depth]⟩
    · obtain ⟨t, rfl⟩ := r
      exact ⟨⟨_, .int _ _⟩, by simp [PyData.canLay0], by simp [PyData.depth]⟩
  | n + 1, v, d, u, e, r => by
    cases v with
    | none =>
      have : u = .none := r
      subst this; cases e; exact ⟨⟨_, .none⟩, by simp [PyData.canLay0], by simp [PyData.depth]⟩
    | bool b =>
      have : u = .bool _ := r
      subst this; cases e; exact ⟨⟨_, .bool _⟩, by simp [PyData.canLay0], by simp [PyData.depth]⟩
    | int i =>
      obtain ⟨t, rfl⟩ := r
      cases e; exact ⟨⟨_, .int _ _⟩, by simp [PyData.canLay0], by simp [PyData.depth]⟩
    | str x => cases e
    | cst c => cases e
    | own j =>
      obtain ⟨a, ea, rfl⟩ := r
      unfold pdOf at e
      dsimp only at e
      split at e
      · rename_i vs ho
        split at e
        · rename_i ds hds
          cases e
          obtain ⟨us, k, hg, rs⟩ := R.ob j _ a ho ea
          obtain ⟨⟨as, q⟩, c, dp⟩ := pds_reads (pd_reads R n) vs ds us.toList hds rs
          exact ⟨⟨_, .list hg rfl rfl q⟩, by simp [PyData.canLay0, c], by simp only [PyData.depth]; omega⟩
        · exact nn e
      · rename_i vs ho
        split at e
        · rename_i ds hds
          cases e
          obtain ⟨us, k, hg, rs⟩ := R.ob j _ a ho ea
          obtain ⟨⟨as, q⟩, c, dp⟩ := pds_reads (pd_reads R n) vs ds us.toList hds rs
          exact ⟨⟨_, .list hg rfl rfl q⟩, by simp [PyData.canLay0, c], by simp only [PyData.depth]; omega⟩
        · exact nn e
      · rename_i vs ho
        split at e
        · rename_i ds hds
          cases e
          obtain ⟨us, hg, rs⟩ := R.ob j _ a ho ea
          obtain ⟨⟨as, q⟩, c, dp⟩ := pds_reads (pd_reads R n) vs ds us.toList hds rs
          exact ⟨⟨_, .tuple hg rfl rfl q⟩, by simp [PyData.canLay0, c], by simp only [PyData.depth]; omega⟩
        · exact nn e
      · exact nn e

noncomputable def eqB (a b : V) (hp : Hp) : Option Bool := match a, b with
  | .int i, .int j => some (i == j)
  | .str x, .str y => some (eqL x y)
  | .bool x, .bool y => some (x == y)
  | .own _, .own _ => (match pdOf 8 hp a, pdOf 8 hp b with
    | some d, some e => some (PyData.eqv d e)
    | _, _ => none)
  | _, _ => none
noncomputable def eqF : OpF := fun a b hp => ob1 (eqB a b hp) fun r => some (.bool r, hp)
noncomputable def neF : OpF := fun a b hp => ob1 (eqB a b hp) fun r => some (.bool (!r), hp)
noncomputable def ltF : OpF := fun a b hp => match a, b with
  | .int i, .int j => some (.bool (decide (i < j)), hp)
  | _, _ => none
noncomputable def leF : OpF := fun a b hp => match a, b with
  | .int i, .int j => some (.bool (decide (i ≤ j)), hp)
  | _, _ => none
noncomputable def gtF : OpF := fun a b hp => match a, b with
  | .int i, .int j => some (.bool (decide (j < i)), hp)
  | _, _ => none
noncomputable def geF : OpF := fun a b hp => match a, b with
  | .int i, .int j => some (.bool (decide (j ≤ i)), hp)
  | _, _ => none
noncomputable def itemsOf (hp : Hp) (v : V) : Option (List V) := match v with
  | .own j => (match hp[j]? with
    | some (.list vs) => some vs
    | some (.frz vs) => some vs
    | some (.tup vs) => some vs
    | _ => none)
  | _ => none
noncomputable def inB (a b : V) (hp : Hp) : Option Bool := ob1 (itemsOf hp b) fun vs => (match pdsOf (pdOf 8 hp) vs, pdOf 8 hp a with
    | some ds, some d => some (ds.any fun y => PyData.eqv y d)
    | _, _ => none)
noncomputable def inF : OpF := fun a b hp => ob1 (inB a b hp) fun r => some (.bool r, hp)
section
variable {W : Wd} {d : Nat} {Γ : Fm}
theorem shaped_of {n : Nat} {x : PyData} (h1 : x.canLay0 = true) (h2 : x.depth ≤ n) (hn : n ≤ 64) : SeqAt.shaped x = true := by
  unfold SeqAt.shaped
  rw [h1, decide_eq_true (by omega)]
  rfl
theorem units_ok {ρ : List Addr} {fr : Sl} {hp : Hp} {s : Shared} (I : Inv W d Γ ρ fr hp s) : Γ.A.units + 100 < cLine := by have := I.ok.units; omega
theorem op_eq : OpM W d Γ (compareOp .Eq) eqF := by
  intro fr hp a b v hp' ρ s u₁ u₂ e I ra rb
  unfold eqF at e
  refine ob1_elim e fun r q e => ?_
  obtain ⟨rfl, rfl⟩ := si2 e
  unfold eqB at q
  split at q
  · cases q
    obtain ⟨t, rfl⟩ := ra
    obtain ⟨t', rfl⟩ := rb
    exact eq_int (.same0 I.rh rfl)
  · cases q
    obtain ⟨t, rfl⟩ := ra
    obtain ⟨t', rfl⟩ := rb
    exact eq_str (.same0 I.rh (by show Value.bool _ = .bool _; rw [eqL_str]))
  · cases q
    have : u₁ = .bool _ := ra
    subst this
    have : u₂ = .bool _ := rb
    subst this
    exact eq_bool (.same0 I.rh rfl)
  · split at q
    · rename_i x y hx hy
      cases q
      obtain ⟨⟨as, r1⟩, c1, d1⟩ := pd_reads I.rh 8 _ x u₁ hx ra
      obtain ⟨⟨bs, r2⟩, c2, d2⟩ := pd_reads I.rh 8 _ y u₂ hy rb
      exact eq_dataH r1 r2 (shaped_of c1 d1 (by decide)) (shaped_of c2 d2 (by decide)) (by have := units_ok I; omega) (.same0 I.rh rfl)
    · exact nn q
  · exact nn q
theorem op_ne : OpM W d Γ (compareOp .NotEq) neF := by
  intro fr hp a b v hp' ρ s u₁ u₂ e I ra rb
  unfold neF at e
  refine ob1_elim e fun r q e => ?_
  obtain ⟨rfl, rfl⟩ := si2 e
  unfold eqB at q
  split at q
  · cases q
    obtain ⟨t, rfl⟩ := ra
    obtain ⟨t', rfl⟩ := rb
    exact ne_int (.same0 I.rh rfl)
  · cases q
    obtain ⟨t, rfl⟩ := ra
    obtain ⟨t', rfl⟩ := rb
    exact ne_str (.same0 I.rh (by show Value.bool _ = .bool _; rw [bne, eqL_str]))
  · cases q
    have : u₁ = .bool _ := ra
    subst this
    have : u₂ = .bool _ := rb
    subst this
    exact ne_bool (.same0 I.rh rfl)
  · split at q
    · rename_i x y hx hy
      cases q
      obtain ⟨⟨as, r1⟩, c1, d1⟩ := pd_reads I.rh 8 _ x u₁ hx ra
      obtain ⟨⟨bs, r2⟩, c2, d2⟩ := pd_reads I.rh 8 _ y u₂ hy rb
      exact ne_dataH r1 r2 (shaped_of c1 d1 (by decide)) (shaped_of c2 d2 (by decide)) (by have := units_ok I; omega) (.same0 I.rh rfl)
    · exact nn q
  · exact nn q
theorem op_lt : OpM W d Γ (compareOp .Lt) ltF := by
  intro fr hp a b v hp' ρ s u₁ u₂ e I ra rb
  unfold ltF at e
  split at e
  · cases e
    obtain ⟨t, rfl⟩ := ra
    obtain ⟨t', rfl⟩ := rb
    exact lt_int (.same0 I.rh rfl)
  · exact nn e
theorem op_le : OpM W d Γ (compareOp .LtE) leF := by
  intro fr hp a b v hp' ρ s u₁ u₂ e I ra rb
  unfold leF at e
  split at e
  · cases e
    obtain ⟨t, rfl⟩ := ra
    obtain ⟨t', rfl⟩ := rb
    exact le_int (.same0 I.rh rfl)
  · exact nn e
theorem op_gt : OpM W d Γ (compareOp .Gt) gtF := by
  intro fr hp a b v hp' ρ s u₁ u₂ e I ra rb
  unfold gtF at e
  split at e
  · cases e
    obtain ⟨t, rfl⟩ := ra
    obtain ⟨t', rfl⟩ := rb
    exact gt_int (.same0 I.rh rfl)
  · exact nn e
theorem op_ge : OpM W d Γ (compareOp .GtE) geF := by
  intro fr hp a b v hp' ρ s u₁ u₂ e I ra rb
  unfold geF at e
  split at e
  · cases e
    obtain ⟨t, rfl⟩ := ra
    obtain ⟨t', rfl⟩ := rb
    exact ge_int (.same0 I.rh rfl)
  · exact nn e

theorem items_at {ρ : List Addr} {hp : Hp} {h : Heap} (R : RH ρ hp h) {b : V} {u : Value} {vs : List V} (e : itemsOf hp b = some vs) (r : VR ρ b u) :
    ∃ a us, u = .ref a ∧ VRs ρ vs us.toList ∧ ((∃ n, h.get? a = some { cls := .type "list", data := .seq us n }) ∨ h.get? a = some { cls := .type "tuple", data := .seq us }) := by
  unfold itemsOf at e
  split at e
  · rename_i j
    obtain ⟨a, ea, rfl⟩ := r
    split at e
    · rename_i vs' ho; cases e
      obtain ⟨us, n, hg, rs⟩ := R.ob j _ a ho ea
      exact ⟨a, us, rfl, rs, .inl ⟨n, hg⟩⟩
    · rename_i vs' ho; cases e
      obtain ⟨us, n, hg, rs⟩ := R.ob j _ a ho ea
      exact ⟨a, us, rfl, rs, .inl ⟨n, hg⟩⟩
    · rename_i vs' ho; cases e
      obtain ⟨us, hg, rs⟩ := R.ob j _ a ho ea
      exact ⟨a, us, rfl, rs, .inr hg⟩
    · exact nn e
  · exact nn e
theorem op_in : OpM W d Γ (compareOp .In) inF := by
  intro fr hp a b v hp' ρ s u₁ u₂ e I ra rb
  unfold inF at e
  refine ob1_elim e fun r q e => ?_
  obtain ⟨rfl, rfl⟩ := si2 e
  unfold inB at q
  refine ob1_elim q fun vs hi q => ?_
  split at q
  · rename_i ds x hds hx
    cases q
    obtain ⟨⟨bs, rx⟩, c1, d1⟩ := pd_reads I.rh 8 _ x u₁ hx ra
    obtain ⟨ad, us, rfl, rs, hg⟩ := items_at I.rh hi rb
    obtain ⟨⟨as, rc⟩, c2, d2⟩ := pds_reads (pd_reads I.rh 8) vs ds us.toList hds rs
    have hu := units_ok I
    rcases hg with ⟨n, hg⟩ | hg
    · exact SeqAt.in_list_reads (.list hg rfl rfl rc) rx c2 c1 (by omega) (.same0 I.rh rfl)
    · exact SeqAt.in_tuple_reads (.tuple hg rfl rfl rc) rx c2 c1 (by omega) (.same0 I.rh rfl)
  · exact nn q
noncomputable def tabAt (tb : List (List Nat × Option Int)) (x : List Nat) : Option (Option Int) := match tb with
  | [] => none
  | p :: r => (match eqL p.1 x with
    | true => some p.2
    | false => tabAt r x)
structure TabOk (W : Wd) (D : Addr) (tb : List (List Nat × Option Int)) : Prop where
  obj : ∃ es n, W.K.lookup D = some ⟨.type "dict", none, .dict es n, #[]⟩ ∧ KeysLit W.w.params es.toList
  sys : (D == sysModules) = false
  has : ∀ p ∈ tb, ∃ r : Option Value, nsIn W.K D ⟨p.1.toArray⟩ = some r ∧ (match p.2 with | some i => ∃ t, r = some (.int i t) | none => r = none)
theorem tabAt_mem : ∀ {tb : List (List Nat × Option Int)} {x : List Nat} {o : Option Int}, tabAt tb x = some o → (x, o) ∈ tb
  | [], _, _, e => by cases e
  | p :: r, x, o, e => by
    unfold tabAt at e
    split at e
    · rename_i h
      cases e
      rw [eqL_iff] at h
      rw [← h]; exact List.mem_cons_self
    · exact List.mem_cons_of_mem _ (tabAt_mem e)
noncomputable def ninTab (D : Addr) (tb : List (List Nat × Option Int)) : OpF := fun a b hp => match a, b with
  | .str x, .cst (.ref D') => (match Nat.beq D' D, tabAt tb x with
    | true, some o => some (.bool (!o.isSome), hp)
    | _, _ => none)
  | _, _ => none
theorem op_ninTab {D : Addr} {tb : List (List Nat × Option Int)} (T : TabOk W D tb) : OpM W d Γ (compareOp .NotIn) (ninTab D tb) := by
  intro fr hp a b v hp' ρ s u₁ u₂ e I ra rb
  unfold ninTab at e
  split at e
  · rename_i x D'
    split at e
    · rename_i o hD ho
      obtain ⟨rfl, rfl⟩ := si2 e
      cases Nat.eq_of_beq_eq_true hD
      obtain ⟨t, rfl⟩ := ra
      have : u₂ = .ref D := rb
      subst this
      obtain ⟨r, hr, hv⟩ := T.has _ (tabAt_mem ho)
      obtain ⟨es, n, hl, hk⟩ := T.obj
      have XX : W.K.In s.heap := W.X.keeps I.base
      refine wpAny_notIn_of (strKind_is W.prog W.w _ t) T.sys (mapOf_K (prog := W.prog) XX hl hk) ?_
      rw [find_K hl hr]
      refine .same I.rh ?_
      show Value.bool _ = .bool _
      cases o with
      | none => rw [show r = none from hv]; rfl
      | some i => obtain ⟨t', e'⟩ := hv; rw [e']; rfl
    · exact nn e
  · exact nn e
end


noncomputable abbrev EvsF := Sl → Hp → Option (List V × Hp)
inductive EvsP (ρ : List Addr) (hp : Hp) (vs : List V) (hp' : Hp) (s : Shared) (us : List Value) (s' : Shared) : Prop
  | mk (ρ' : List Addr) (h0 : Step ρ hp ρ' hp' [] s s') (h1 : RH ρ' hp' s'.heap) (h2 : VRs ρ' vs us) : EvsP ρ hp vs hp' s us s'
noncomputable def EvsM (W : Wd) (d : Nat) (Γ : Fm) (es : List Expr) (f : EvsF) : Prop :=
  ∀ (pos : Pos) fr hp vs hp' ρ s, f fr hp = some (vs, hp') → Inv W d Γ ρ fr hp s → wpAny (model W.prog W.w) Γ.A (spliced (backTo pos (starEach es Γ.env))) (EvsP ρ hp vs hp' s) NoE s
noncomputable def nilF : EvsF := fun _ hp => some ([], hp)
noncomputable def consF (f : EvF) (g : EvsF) : EvsF := fun fr hp => ob2 (f fr hp) fun v h => (ob2 (g fr h) fun vs h' => some (v :: vs, h'))

section
variable {W : Wd} {d : Nat} {Γ : Fm}
theorem evs_nil : EvsM W d Γ [] nilF := by
  intro pos fr hp vs hp' ρ s e I
  obtain ⟨rfl, rfl⟩ := si2 e
  exact wpAny_items_nil ⟨ρ, .refl, I.rh, .nil⟩
theorem evs_cons {e : Expr} {es : List Expr} {f : EvF} {g : EvsF} (he : EvM W d Γ e f) (hs : EvsM W d Γ es g) (hst : starEach (e :: es) Γ.env = (false, eval e Γ.env) :: starEach es Γ.env) : EvsM W d Γ (e :: es) (consF f g) := by
  intro pos fr hp vs hp' ρ s q I
  unfold consF at q
  refine ob2_elim q fun v h e1 q => ?_
  refine ob2_elim q fun vs' h' e2 q => ?_
  obtain ⟨rfl, rfl⟩ := si2 q
  refine wpAny_items_cons (wpAny_mono (he fr hp v h ρ s e1 I) (fun u s₁ p => ?_) fun _ _ h => h) hst
  obtain ⟨ρ₁, S₁, R₁, r₁⟩ := p
  refine wpAny_mono (hs pos fr h vs' _ ρ₁ s₁ e2 (I.step S₁ R₁)) (fun us s₂ p => ?_) fun _ _ h => h
  obtain ⟨ρ₂, S₂, R₂, r₂⟩ := p
  exact ⟨ρ₂, S₁.trans I.rh R₁ S₂, R₂, .cons (r₁.mono S₂.ext) r₂⟩

noncomputable def listE (f : EvsF) : EvF := fun fr hp => ob2 (f fr hp) fun vs h => (obB (Nat.ble vs.length 4096) (some (.own h.length, h ++ [.list vs])))
noncomputable def tupE (f : EvsF) : EvF := fun fr hp => ob2 (f fr hp) fun vs h => (obB (Nat.ble vs.length 4096) (some (.own h.length, h ++ [.tup vs])))
theorem line_of {n : Nat} (h : Nat.ble n 4096 = true) : n ≤ sizeLine := by have := Nat.le_of_ble_eq_true h; rw [sizeLine_eq]; omega
theorem EvP.made {ρ : List Addr} {hp : Hp} {o : O} {s : Shared} {ob : Obj} (R : RH ρ hp s.heap) (hf : ob.isFreed = false) (r : (s.heap.push ob).get? s.heap.objs.size = some ob → OR (ρ ++ [s.heap.objs.size]) (s.heap.push ob) s.heap.objs.size o) :
    EvP ρ hp (.own hp.length) (hp ++ [o]) s (.ref s.heap.objs.size) { s with heap := s.heap.push ob } :=
  .fresh R (fun _ _ e => Heap.get?_push_of_some _ e) (get_size_none _) (r (Heap.get?_push_size _ hf))
theorem ev_list {es : List Expr} {pos : Pos} {f : EvsF} (h : EvsM W d Γ es f) : EvM W d Γ (.List es pos) (listE f) := by
  intro fr hp v hp' ρ s e I
  unfold listE at e
  refine ob2_elim e fun vs h1 e1 e => ?_
  refine obB_elim e fun hl e => ?_
  obtain ⟨rfl, rfl⟩ := si2 e
  refine wpAny_List (wpAny_mono (h pos fr hp vs h1 ρ s e1 I) (fun us s₁ p => ?_) fun _ _ h => h)
  obtain ⟨ρ₁, S₁, R₁, r₁⟩ := p
  refine ⟨by rw [← r₁.1]; exact line_of hl, EvP.trans I.rh S₁ R₁ (.made R₁ rfl fun g => ⟨us.toArray, 0, g, by simpa using r₁.mono (List.prefix_append _ _)⟩)⟩
theorem ev_tup {es : List Expr} {k : Nat} {pos : Pos} {f : EvsF} (h : EvsM W d Γ es f) : EvM W d Γ (.Tuple es k pos) (tupE f) := by
  intro fr hp v hp' ρ s e I
  unfold tupE at e
  refine ob2_elim e fun vs h1 e1 e => ?_
  refine obB_elim e fun hl e => ?_
  obtain ⟨rfl, rfl⟩ := si2 e
  refine wpAny_Tuple (wpAny_mono (h pos fr hp vs h1 ρ s e1 I) (fun us s₁ p => ?_) fun _ _ h => h)
  obtain ⟨ρ₁, S₁, R₁, r₁⟩ := p
  refine ⟨by rw [← r₁.1]; exact line_of hl, EvP.trans I.rh S₁ R₁ (.made R₁ rfl fun g => ⟨us.toArray, g, by simpa using r₁.mono (List.prefix_append _ _)⟩)⟩

theorem sub_tail {M : Program} {w : World} {A : Around} {E : Value → Shared → Prop} {s : Shared} {value slice : Expr} {o i : Value} {ops : List Value} {T id : String} {Q : Value → Shared → Prop} (hT : s.TypeIs o T)
    (hl : typeLookup (.type T) "__getitem__" = pure (some (.builtin id))) (h : wpAny (model M w) A (getItem o i) Q E s) (hs : subscripted slice false o i = operate ops (getItem o i)) :
    wpAny (model M w) A (subscriptTail value slice o i) Q E s := by
  unfold subscriptTail
  refine wpAny_bind ?_
  rw [getitemInPython_of_ne hT.not_modules]
  refine wpAny_bind (wpAny_specialOf hT hl ?_)
  have fin : wpAny (model M w) A (subscripted slice false o i) (fun r s₃ => wpAny (model M w) A (letTemporaryGo value o r >>= fun _ => pure r) Q E s₃) E s := by
    rw [hs]
    exact wpAny_operating (wpAny_mono h (fun r s₃ h₃ => wpAny_bind (wpAny_letTemporaryGo (wpAny_pure h₃))) fun _ _ x => x)
  first
    | exact wpAny_pure (wpAny_bind fin)
    | exact wpAny_bind (wpAny_pure (wpAny_bind fin))
    | exact wpAny_bind fin
noncomputable def isSlice : Expr → Bool
  | .Slice .. => true
  | _ => false
theorem sub_plain {slice : Expr} {o i : Value} (h : isSlice slice = false) : subscripted slice false o i = operate [o, i] (getItem o i) := by
  cases slice <;> first | rfl | (simp [isSlice] at h)
theorem sub_slice {lo up : Option Expr} {p : Pos} {o i : Value} : subscripted (.Slice lo up none p) false o i = operate [i, o] (getItem o i) := rfl

noncomputable def idxF : OpF := fun a b hp => match b with
  | .int (.ofNat n) => (match Nat.ble n 100000 with
    | true => (match a with
      | .str x => (match x[n]? with
        | some c => (match Nat.ble x.length 100000 with
          | true => some (.str [c], hp)
          | false => none)
        | none => none)
      | .own _ => (match itemsOf hp a with
        | some vs => (match vs[n]? with
          | some v => some (v, hp)
          | none => none)
        | none => none)
      | _ => none)
    | false => none)
  | _ => none
theorem idx_nat {n len : Nat} (h : n < len) : seqIndex? (n : Int) len = some n := by
  unfold seqIndex?
  have h1 : ¬ ((n : Int) < 0) := by omega
  simp only [h1, if_false]
  have h2 : (decide (0 ≤ (n : Int)) && decide ((n : Int) < (len : Int))) = true := by simp; omega
  rw [if_pos h2]; simp
theorem tail_idx {value slice : Expr} (hn : isSlice slice = false) {fr : Sl} {hp : Hp} {a b v : V} {hp' : Hp} {ρ : List Addr} {s : Shared} {u₁ u₂ : Value} (e : idxF a b hp = some (v, hp')) (I : Inv W d Γ ρ fr hp s)
    (ra : VR ρ a u₁) (rb : VR ρ b u₂) : wpAny (model W.prog W.w) Γ.A (subscriptTail value slice u₁ u₂) (EvP ρ hp v hp' s) NoE s := by
  unfold idxF at e
  split at e
  · rename_i n
    obtain ⟨t₂, rfl⟩ := rb
    split at e
    · rename_i hn1
      have hn1 := Nat.le_of_ble_eq_true hn1
      split at e
      · rename_i x
        obtain ⟨t, rfl⟩ := ra
        split at e
        · rename_i c hc
          split at e
          · rename_i hl
            cases e
            have hlt : n < x.length := (List.getElem?_eq_some_iff.mp hc).1
            refine sub_tail (typeIs_str _ _ _) PySem.F.slot_str_getitem.lookup ?_ (sub_plain hn)
            refine getItem_str (c := c) ?_ ?_ (.same I.rh ⟨_, rfl⟩)
            · simp only [Bool.or_eq_false_iff, decide_eq_false_iff_not]
              constructor <;> (show ¬ _; simp only [Int.ofNat_eq_natCast]; omega)
            · show (seqIndex? (n : Int) x.toArray.size).bind _ = some c
              rw [idx_nat (by simpa using hlt)]
              simpa using hc
          · exact nn e
        · exact nn e
      · rename_i j
        split at e
        · rename_i vs hi
          split at e
          · rename_i v' hv
            cases e
            obtain ⟨ad, us, rfl, rs, hg⟩ := items_at I.rh hi ra
            obtain ⟨u, hu, r⟩ := rs.2 n v hv
            have hlt : n < us.size := by have := (List.getElem?_eq_some_iff.mp hu).1; simpa using this
            rcases hg with ⟨k, hg⟩ | hg
            · refine sub_tail (T := "list") ⟨_, hg, rfl⟩ slot_list_getitem.lookup ?_ (sub_plain hn)
              exact wpAny_getItem_list ⟨_, hg, rfl, k, rfl⟩ (by show 0 ≤ (n : Int); omega) (by show (n : Int) < _; omega) (by show us[n]? = some u; simpa using hu) (.same0 I.rh r)
            · refine sub_tail (T := "tuple") ⟨_, hg, rfl⟩ slot_tuple_getitem.lookup ?_ (sub_plain hn)
              exact PyProof.Rows.getItem_tuple (j := n) ⟨_, hg, rfl, _, rfl⟩ (by show _ ≤ (n : Int); omega) (by show (n : Int) < _; omega) (idx_nat hlt) (by simpa using hu) (.same0 I.rh r)
          · exact nn e
        · exact nn e
      · cases e
    · exact nn e
  · cases e
theorem ev_sub {value slice : Expr} {pos : Pos} {fa fb : EvF} (ha : EvM W d Γ value fa) (hb : EvM W d Γ slice fb) (hn : isSlice slice = false) : EvM W d Γ (.Subscript value slice pos) (op2 fa fb idxF) := by
  intro fr hp v hp' ρ s e I
  obtain ⟨x, h1, y, h2, e1, e2, e3⟩ := op2_some e
  refine Subscript_ (wpAny_mono (ha fr hp x h1 ρ s e1 I) (fun u₁ s₁ p => ?_) fun _ _ h => h)
  obtain ⟨ρ₁, S₁, R₁, r₁⟩ := p
  have I₁ := I.step S₁ R₁
  refine wpAny_mono (hb fr h1 y h2 ρ₁ s₁ e2 I₁) (fun u₂ s₂ p => ?_) fun _ _ h => h
  obtain ⟨ρ₂, S₂, R₂, r₂⟩ := p
  have I₂ := I₁.step S₂ R₂
  exact wpAny_mono (tail_idx hn e3 I₂ (r₁.mono S₂.ext) r₂) (fun u s₃ p => (p.trans R₁ S₂ R₂).trans I.rh S₁ R₁) fun _ _ h => h

noncomputable def tabF (D : Addr) (tb : List (List Nat × Option Int)) : OpF := fun a b hp => match a, b with
  | .cst (.ref D'), .str x => (match Nat.beq D' D, tabAt tb x with
    | true, some (some i) => some (.int i, hp)
    | _, _ => none)
  | _, _ => none
theorem ev_tab {D : Addr} {tb : List (List Nat × Option Int)} (T : TabOk W D tb) {value slice : Expr} {pos : Pos} {fa fb : EvF} (ha : EvM W d Γ value fa) (hb : EvM W d Γ slice fb) (hn : isSlice slice = false) :
    EvM W d Γ (.Subscript value slice pos) (op2 fa fb (tabF D tb)) := by
  intro fr hp v hp' ρ s e I
  obtain ⟨x, h1, y, h2, e1, e2, e3⟩ := op2_some e
  refine Subscript_ (wpAny_mono (ha fr hp x h1 ρ s e1 I) (fun u₁ s₁ p => ?_) fun _ _ h => h)
  obtain ⟨ρ₁, S₁, R₁, r₁⟩ := p
  have I₁ := I.step S₁ R₁
  refine wpAny_mono (hb fr h1 y h2 ρ₁ s₁ e2 I₁) (fun u₂ s₂ p => ?_) fun _ _ h => h
  obtain ⟨ρ₂, S₂, R₂, r₂⟩ := p
  have I₂ := I₁.step S₂ R₂
  refine wpAny_mono (?_ : wpAny _ _ _ (EvP ρ₂ h2 v hp' s₂) NoE s₂) (fun u s₃ p => (p.trans R₁ S₂ R₂).trans I.rh S₁ R₁) fun _ _ h => h
  unfold tabF at e3
  split at e3
  · rename_i D' z
    split at e3
    · rename_i i hD ho
      obtain ⟨rfl, rfl⟩ := si2 e3
      cases Nat.eq_of_beq_eq_true hD
      have : u₁ = .ref D := r₁
      subst this
      obtain ⟨t, rfl⟩ := r₂
      obtain ⟨r, hr, t', hv⟩ := T.has _ (tabAt_mem ho)
      subst hv
      obtain ⟨es, n, hl, hk⟩ := T.obj
      have XX : W.K.In s₂.heap := W.X.keeps I₂.base
      have hm := mapOf_K (prog := W.prog) XX hl hk
      exact sub_tail hm.typeIs slot_dict_getitem.lookup (wpAny_getItem_of (strKind_is W.prog W.w _ t) hm (find_K hl hr) (.same I₂.rh ⟨_, rfl⟩)) (sub_plain hn)
    · exact nn e3
  · exact nn e3

theorem drop_min {α : Type} (x : List α) (a : Nat) : x.drop (min a x.length) = x.drop a := by
  rcases Nat.le_total a x.length with h | h
  · rw [Nat.min_eq_left h]
  · rw [Nat.min_eq_right h, List.drop_eq_nil_of_le (Nat.le_refl _), List.drop_eq_nil_of_le h]
theorem cut_min {α : Type} (x : List α) (a b : Nat) : (x.drop (min a x.length)).take (min b x.length - min a x.length) = (x.drop a).take (b - a) := by
  rw [drop_min]
  rcases Nat.le_total b x.length with h | h
  · rw [Nat.min_eq_left h]
    rcases Nat.le_total a x.length with h' | h'
    · rw [Nat.min_eq_left h']
    · rw [List.drop_eq_nil_of_le h']; simp
  · rw [Nat.min_eq_right h]
    rcases Nat.le_total a x.length with h' | h'
    · rw [Nat.min_eq_left h', List.take_of_length_le (by simp), List.take_of_length_le (by rw [List.length_drop]; exact Nat.sub_le_sub_right h _)]
    · rw [List.drop_eq_nil_of_le h']; simp
theorem clip_nat (a n : Nat) : (max 0 (min (if (a : Int) < 0 then (a : Int) + n else a) (n : Int))) = ((min a n : Nat) : Int) := by
  have : ¬ ((a : Int) < 0) := by omega
  rw [if_neg this]; omega
theorem sub_all {p q n : Nat} (h : p - q = n) (h1 : p ≤ n) : q = 0 ∨ n = 0 := by omega
theorem whole_cut (x : List Nat) {a b : Nat} (h : min b x.length - min a x.length = x.length) : x = (x.drop (min a x.length)).take (min b x.length - min a x.length) := by
  rcases sub_all h (Nat.min_le_right _ _) with q | q
  · rw [h, q, List.drop_zero, List.take_length]
  · cases List.length_eq_zero_iff.mp q
    simp
theorem txt_pick (x : List Nat) (a b : Nat) (l u : Option Int) (e : Builtin.Str.strSliceIndices l u 1 x.length = sliceRange ((min a x.length : Nat) : Int) ((min b x.length : Nat) : Int) 1) :
    Txt.slice ⟨x.toArray⟩ l u = ⟨((x.drop a).take (b - a)).toArray⟩ := by
  have hl : (⟨x.toArray⟩ : Str).length = x.length := by simp [Str.length]
  have pick : (Builtin.Str.strSliceIndices l u 1 x.length).filterMap (x.toArray[·]?) = (x.drop a).take (b - a) := by
    rw [e, sliceRange_one, pick_run]
    exact cut_min x a b
  unfold Txt.slice
  rw [hl]
  split
  · rename_i h
    simp only [beq_self_eq_true, Bool.true_and, beq_iff_eq] at h
    refine congrArg Str.mk (Array.toList_inj.mp ?_)
    rw [e, sliceRange_one, List.length_map, List.length_range] at h
    rw [← cut_min]
    exact whole_cut x h
  · show Str.mk _ = _
    rw [show (⟨x.toArray⟩ : Str).cps = x.toArray from rfl, pick]
theorem txt_to (x : List Nat) (b : Nat) : Txt.slice ⟨x.toArray⟩ none (some (b : Int)) = ⟨(x.take b).toArray⟩ := by
  have := txt_pick x 0 b none (some (b : Int)) (by
    unfold Builtin.Str.strSliceIndices
    simp only [show (1 : Int) > 0 by decide, if_true, clip_nat]
    rw [Nat.zero_min]
    rfl)
  simpa using this
theorem txt_ft (x : List Nat) (a b : Nat) : Txt.slice ⟨x.toArray⟩ (some (a : Int)) (some (b : Int)) = ⟨((x.drop a).take (b - a)).toArray⟩ := txt_pick x a b _ _ (by
    unfold Builtin.Str.strSliceIndices
    simp only [show (1 : Int) > 0 by decide, if_true, clip_nat])

noncomputable def slToF : OpF := fun a b hp => match b with
  | .int (.ofNat n) => (match a with
    | .str x => (obB (Nat.ble x.length 100000) (some (.str (x.take n), hp)))
    | .own j => (match hp[j]? with
      | some (.list vs) => (obB (Nat.ble vs.length 4096) (some (.own hp.length, hp ++ [.list (vs.take n)])))
      | some (.frz vs) => (obB (Nat.ble vs.length 4096) (some (.own hp.length, hp ++ [.list (vs.take n)])))
      | some (.arg vs) => some (.own hp.length, hp ++ [.list (vs.take n)])
      | _ => none)
    | _ => none)
  | _ => none
theorem kept_push (h : Heap) : KeptH (fun h' => ∀ b o, h.get? b = some o → h'.get? b = some o) := fun _ ob k b o e => Heap.get?_push_of_some ob (k b o e)
theorem pick_to (items : Array Value) (n : Nat) : slicePick items none (some (n : Int)) none = (items.toList.take n).toArray := by
  rw [kms_pick_eq]
  unfold kms_pick kms_lo kms_hi
  have h1 : ¬ ((n : Int) < 0) := by omega
  simp only [h1, if_false, Int.toNat_natCast, Nat.sub_zero, List.drop_zero]
  congr 1
  rcases Nat.le_total n items.toList.length with h | h
  · rw [Nat.min_eq_left h]
  · rw [Nat.min_eq_right h, List.take_of_length_le (Nat.le_refl _), List.take_of_length_le h]
theorem ev_slTo {value up : Expr} {p pos : Pos} {fa fb : EvF} (ha : EvM W d Γ value fa) (hb : EvM W d Γ up fb) : EvM W d Γ (.Subscript value (.Slice none (some up) none p) pos) (op2 fa fb slToF) := by
  intro fr hp v hp' ρ s e I
  obtain ⟨x, h1, y, h2, e1, e2, e3⟩ := op2_some e
  refine Subscript_ (wpAny_mono (ha fr hp x h1 ρ s e1 I) (fun u₁ s₁ p => ?_) fun _ _ h => h)
  obtain ⟨ρ₁, S₁, R₁, r₁⟩ := p
  have I₁ := I.step S₁ R₁
  refine wpAny_Slice (evalPart_none_step (wpAny_mono (evalPart_some_step (hb fr h1 y h2 ρ₁ s₁ e2 I₁)) (fun u₂ s₂ p => evalPart_none_step ?_) fun _ _ h => h))
  obtain ⟨ρ₂, S₂, R₂, r₂⟩ := p
  have I₂ := I₁.step S₂ R₂
  replace r₁ := r₁.mono S₂.ext
  refine wpAny_mono (?_ : wpAny _ _ _ (EvP ρ₂ h2 v hp' s₂) NoE _) (fun u s₃ p => (p.trans R₁ S₂ R₂).trans I.rh S₁ R₁) fun _ _ h => h
  have lst : ∀ (vs : List V) (a : Addr) (us : Array Value) (n : Nat) (t : Tok), Nat.ble vs.length 4096 = true → s₂.heap.IsList a us → VRs ρ₂ vs us.toList →
      wpAny (model W.prog W.w) Γ.A (subscriptTail value (.Slice none (some up) none p) (.ref a) (.ref s₂.heap.objs.size))
        (EvP ρ₂ h2 (.own h2.length) (h2 ++ [.list (vs.take n)]) s₂) NoE { s₂ with heap := s₂.heap.push { cls := .type "slice", data := .fields #[.none, .int (n : Int) t, .none] } } := by
    intro vs a us n t hl hg rs
    have hg' : (s₂.heap.push { cls := .type "slice", data := .fields #[.none, .int (n : Int) t, .none] }).IsList a us := hg.at fun o e => Heap.get?_push_of_some { cls := .type "slice", data := .fields #[.none, .int (n : Int) t, .none] } e
    refine sub_tail (T := "list") hg'.typeIs list_getitem_lookup ?_ sub_slice
    refine wpAny_getItem_list_slice hg' (Heap.IsSliceOf.new ..) .none (.int (n : Int) t) .none (by simp) ?_ (by
      have q1 := rs.1
      have q2 : us.size = vs.length := by rw [q1]; simp
      rw [q2]; exact line_of hl)
    have hk : ∀ b o, s₂.heap.get? b = some o → ((s₂.heap.push { cls := .type "slice", data := .fields #[.none, .int (n : Int) t, .none] }).push { cls := .type "list", data := .seq (slicePick us none (some (n : Int)) none) }).get? b = some o :=
      fun b o e => Heap.get?_push_of_some _ (Heap.get?_push_of_some _ e)
    refine .fresh R₂ hk ?_ ⟨slicePick us none (some (n : Int)) none, 0, Heap.get?_push_size _ rfl, ?_⟩
    · cases q : s₂.heap.get? (s₂.heap.push { cls := .type "slice", data := .fields #[.none, .int (n : Int) t, .none] }).objs.size with
      | none => rfl
      | some o => exact absurd (Heap.lt_size q) (by rw [Heap.size_push]; exact Nat.not_lt.mpr (Nat.le_succ _))
    · rw [pick_to]
      simpa using (rs.take n).mono (List.prefix_append _ _)
  unfold slToF at e3
  split at e3
  · rename_i n
    obtain ⟨t₂, rfl⟩ := r₂
    split at e3
    · rename_i z
      refine obB_elim e3 fun hl e3 => ?_
      obtain ⟨rfl, rfl⟩ := si2 e3
      obtain ⟨t, rfl⟩ := r₁
      have hl := Nat.le_of_ble_eq_true hl
      obtain ⟨T, id, h1', h2', h3'⟩ := SBH.sliceItem_ns (prog := W.prog) (w := W.w) (A := Γ.A) (E := NoE) (P := fun h' => ∀ b o, s₂.heap.get? b = some o → h'.get? b = some o) (s := s₂) (x := ⟨z.toArray⟩) (t := t) (j := (n : Int)) (uj := t₂)
        (Q := EvP ρ₂ _ (.str (z.take n)) _ s₂) (kept_push _) (fun _ _ e => e) (fun h' t' k hk => .kept R₂ hk ⟨t', by rw [txt_to]⟩) (by show z.toArray.size ≤ _; rw [sizeLine_eq]; simp; omega)
      exact sub_tail h2' h1' h3' sub_slice
    · rename_i j
      obtain ⟨a, ea, rfl⟩ := r₁
      split at e3
      · rename_i vs ho
        refine obB_elim e3 fun hl e3 => ?_
        obtain ⟨rfl, rfl⟩ := si2 e3
        obtain ⟨us, k, hg, rs⟩ := R₂.ob j _ a ho ea
        exact lst vs a us n t₂ hl ⟨_, hg, rfl, k, rfl⟩ rs
      · rename_i vs ho
        refine obB_elim e3 fun hl e3 => ?_
        obtain ⟨rfl, rfl⟩ := si2 e3
        obtain ⟨us, k, hg, rs⟩ := R₂.ob j _ a ho ea
        exact lst vs a us n t₂ hl ⟨_, hg, rfl, k, rfl⟩ rs
      · rename_i vs ho
        obtain ⟨rfl, rfl⟩ := si2 e3
        obtain ⟨us, hg, rs, hz⟩ := R₂.ob j _ a ho ea
        exact lst vs a us n t₂ (Nat.ble_eq_true_of_le (by rw [rs.1]; simpa using hz)) hg rs
      · exact nn e3
    · exact nn e3
  · exact nn e3
noncomputable def slFtE (fa fb fc : EvF) : EvF := fun fr hp => match fa fr hp with
  | some (.str x, h1) => (match fb fr h1 with
    | some (.int (.ofNat a), h2) => (match fc fr h2 with
      | some (.int (.ofNat b), h3) => (obB (Nat.ble x.length 100000) (some (.str ((x.drop a).take (b - a)), h3)))
      | _ => none)
    | _ => none)
  | _ => none
theorem ev_slFt {value lo up : Expr} {p pos : Pos} {fa fb fc : EvF} (ha : EvM W d Γ value fa) (hb : EvM W d Γ lo fb) (hc : EvM W d Γ up fc) : EvM W d Γ (.Subscript value (.Slice (some lo) (some up) none p) pos) (slFtE fa fb fc) := by
  intro fr hp v hp' ρ s e I
  unfold slFtE at e
  split at e
  · rename_i x h1 e1
    split at e
    · rename_i a h2 e2
      split at e
      · rename_i b h3 e3
        refine obB_elim e fun hl e => ?_
        obtain ⟨rfl, rfl⟩ := si2 e
        refine Subscript_ (wpAny_mono (ha fr hp _ h1 ρ s e1 I) (fun u₁ s₁ p => ?_) fun _ _ h => h)
        obtain ⟨ρ₁, S₁, R₁, r₁⟩ := p
        have I₁ := I.step S₁ R₁
        refine wpAny_Slice (wpAny_mono (evalPart_some_step (hb fr h1 _ h2 ρ₁ s₁ e2 I₁)) (fun u₂ s₂ p => ?_) fun _ _ h => h)
        obtain ⟨ρ₂, S₂, R₂, r₂⟩ := p
        have I₂ := I₁.step S₂ R₂
        refine wpAny_mono (evalPart_some_step (hc fr h2 _ _ ρ₂ s₂ e3 I₂)) (fun u₃ s₃ p => evalPart_none_step ?_) fun _ _ h => h
        obtain ⟨ρ₃, S₃, R₃, r₃⟩ := p
        obtain ⟨t₁, rfl⟩ := r₁
        obtain ⟨t₂, rfl⟩ := r₂
        obtain ⟨t₃, rfl⟩ := r₃
        have hl := Nat.le_of_ble_eq_true hl
        refine wpAny_mono (?_ : wpAny _ _ _ (EvP ρ₃ _ (.str ((x.drop a).take (b - a))) _ s₃) NoE _) (fun u s₄ p => ((p.trans R₂ S₃ R₃).trans R₁ S₂ R₂).trans I.rh S₁ R₁) fun _ _ h => h
        obtain ⟨T, id, h1', h2', h3'⟩ := SBH.sliceItem_ss (prog := W.prog) (w := W.w) (A := Γ.A) (E := NoE) (P := fun h' => ∀ b o, s₃.heap.get? b = some o → h'.get? b = some o) (s := s₃) (x := ⟨x.toArray⟩) (t := t₁) (i := (a : Int)) (ui := t₂) (j := (b : Int)) (uj := t₃)
          (Q := EvP ρ₃ _ (.str ((x.drop a).take (b - a))) _ s₃) (kept_push _) (fun _ _ e => e) (fun h' t' k hk => .kept R₃ hk ⟨t', by rw [txt_ft]⟩) (by show x.toArray.size ≤ _; rw [sizeLine_eq]; simp; omega)
        exact sub_tail h2' h1' h3' sub_slice
      · exact nn e
    · exact nn e
  · exact nn e
end


inductive Fl where
  | next | brk | ret (v : V)
noncomputable def FlR (ρ : List Addr) : Fl → Flow → Prop
  | .next, f => f = .next
  | .brk, f => f = .brk
  | .ret v, f => ∃ u, f = .ret u ∧ VR ρ v u
noncomputable abbrev ExF := Sl → Hp → Option (Fl × Sl × Hp)
inductive ExP (Γ : Fm) (ρ : List Addr) (hp : Hp) (fl : Fl) (fr' : Sl) (hp' : Hp) (s : Shared) (f : Flow) (s' : Shared) : Prop
  | mk (ρ' : List Addr) (h0 : Step ρ hp ρ' hp' Γ.wr s s') (h1 : RH ρ' hp' s'.heap) (h2 : FR Γ ρ' fr' s'.heap) (h3 : FlR ρ' fl f) : ExP Γ ρ hp fl fr' hp' s f s'
noncomputable def ExM (W : Wd) (d : Nat) (Γ : Fm) (st : Stmt) (f : ExF) : Prop :=
  ∀ fr hp fl fr' hp' ρ s, f fr hp = some (fl, fr', hp') → Inv W d Γ ρ fr hp s → wpAny (model W.prog W.w) Γ.A (exec st Γ.env) (ExP Γ ρ hp fl fr' hp' s) NoE s
noncomputable def StM (W : Wd) (d : Nat) (Γ : Fm) (ss : List Stmt) (f : ExF) : Prop :=
  ∀ fr hp fl fr' hp' ρ s, f fr hp = some (fl, fr', hp') → Inv W d Γ ρ fr hp s → wpAny (model W.prog W.w) Γ.A (execs ss Γ.env) (ExP Γ ρ hp fl fr' hp' s) NoE s
noncomputable abbrev AsF := V → Sl → Hp → Option (Sl × Hp)
inductive AsP (Γ : Fm) (ρ : List Addr) (hp : Hp) (fr' : Sl) (hp' : Hp) (s s' : Shared) : Prop
  | mk (ρ' : List Addr) (h0 : Step ρ hp ρ' hp' Γ.wr s s') (h1 : RH ρ' hp' s'.heap) (h2 : FR Γ ρ' fr' s'.heap) : AsP Γ ρ hp fr' hp' s s'
noncomputable def AsM (W : Wd) (d : Nat) (Γ : Fm) (t : Value → Sem Unit) (g : AsF) : Prop :=
  ∀ v fr hp fr' hp' ρ s u, g v fr hp = some (fr', hp') → Inv W d Γ ρ fr hp s → VR ρ v u → wpAny (model W.prog W.w) Γ.A (t u) (fun _ s' => AsP Γ ρ hp fr' hp' s s') NoE s

section
variable {W : Wd} {d : Nat} {Γ : Fm}

theorem Inv.stepX {ρ ρ' : List Addr} {fr fr' : Sl} {hp hp' : Hp} {s s' : Shared} (I : Inv W d Γ ρ fr hp s) (S : Step ρ hp ρ' hp' Γ.wr s s') (R : RH ρ' hp' s'.heap) (F : FR Γ ρ' fr' s'.heap) : Inv W d Γ ρ' fr' hp' s' where
  ok := I.ok
  rh := R
  fr := F
  base := fun b o e => S.keep b o (I.base b o e) (fun h => by rw [I.ok.own b h] at e; cases e) fun _ _ ej _ => absurd e (by rw [(I.sep b (List.mem_of_getElem? ej)).2]; exact fun q => nomatch q)
  sep := fun a h => by
    rcases S.new a h with h | h
    · exact I.sep a h
    · refine ⟨fun m => ?_, ?_⟩
      · obtain ⟨o, e⟩ := I.fr.wr_there m
        rw [h] at e; cases e
      · cases e : W.g.get? a with
        | none => rfl
        | some o => have := I.base a o e; rw [h] at this; cases this
theorem ExP.trans {ρ ρ₁ : List Addr} {hp hp₁ hp₂ : Hp} {fl : Fl} {fr' : Sl} {s s₁ s₂ : Shared} {f : Flow} (R : RH ρ hp s.heap) (S : Step ρ hp ρ₁ hp₁ Γ.wr s s₁) (R₁ : RH ρ₁ hp₁ s₁.heap)
    (h : ExP Γ ρ₁ hp₁ fl fr' hp₂ s₁ f s₂) : ExP Γ ρ hp fl fr' hp₂ s f s₂ := by obtain ⟨ρ₂, S₂, r1, r2, r3⟩ := h; exact ⟨ρ₂, S.trans R R₁ S₂, r1, r2, r3⟩
theorem AsP.trans {ρ ρ₁ : List Addr} {hp hp₁ hp₂ : Hp} {fr' : Sl} {s s₁ s₂ : Shared} (R : RH ρ hp s.heap) (S : Step ρ hp ρ₁ hp₁ Γ.wr s s₁) (R₁ : RH ρ₁ hp₁ s₁.heap)
    (h : AsP Γ ρ₁ hp₁ fr' hp₂ s₁ s₂) : AsP Γ ρ hp fr' hp₂ s s₂ := by obtain ⟨ρ₂, S₂, r1, r2⟩ := h; exact ⟨ρ₂, S.trans R R₁ S₂, r1, r2⟩
theorem noE_mono {α : Type} {M : Model} {A : Around} {m : Sem α} {Q : α → Shared → Prop} {E : Value → Shared → Prop} {s : Shared} (h : wpAny M A m Q NoE s) : wpAny M A m Q E s :=
  wpAny_mono h (fun _ _ x => x) fun _ _ x => x.elim

noncomputable def nilX : ExF := fun fr hp => some (.next, fr, hp)
noncomputable def seqX (f g : ExF) : ExF := fun fr hp => match f fr hp with
  | some (.next, fr1, h1) => g fr1 h1
  | r => r
theorem st_nil : StM W d Γ [] nilX := by
  intro fr hp fl fr' hp' ρ s e I
  cases e
  exact wpAny_execs_nil ⟨ρ, .refl, I.rh, I.fr, rfl⟩
theorem st_cons {st : Stmt} {ss : List Stmt} {f g : ExF} (h : ExM W d Γ st f) (hs : StM W d Γ ss g) : StM W d Γ (st :: ss) (seqX f g) := by
  intro fr hp fl fr' hp' ρ s e I
  unfold seqX at e
  split at e
  · rename_i fr1 h1 e1
    refine wpAny_execs_cons (wpAny_mono (h fr hp .next fr1 h1 ρ s e1 I) (fun f s₁ p => ?_) fun _ _ x => x)
    obtain ⟨ρ₁, S₁, R₁, F₁, rfl⟩ := p
    exact wpAny_mono (hs fr1 h1 fl fr' hp' ρ₁ s₁ e (I.stepX S₁ R₁ F₁)) (fun f s₂ p => p.trans I.rh S₁ R₁) fun _ _ x => x
  · rename_i hn
    refine wpAny_execs_cons (wpAny_mono (h fr hp fl fr' hp' ρ s e I) (fun f s₁ p => ?_) fun _ _ x => x)
    obtain ⟨ρ₁, S₁, R₁, F₁, q⟩ := p
    cases fl with
    | next => exact absurd e (hn _ _)
    | brk => cases q; exact ⟨ρ₁, S₁, R₁, F₁, rfl⟩
    | ret v => obtain ⟨u, rfl, r⟩ := q; exact ⟨ρ₁, S₁, R₁, F₁, u, rfl, r⟩

theorem sameBut_keep {a : Addr} {h h' : Heap} (sb : Heap.SameBut a h h') {b : Addr} {o : Obj} (hb : b ≠ a) (e : h.get? b = some o) : h'.get? b = some o := by rw [sb.2 b hb]; exact e
theorem store_name {x : Str} {oc : Option Addr} {i : Nat} (hi : Γ.nm[i]? = some (x, oc)) {v : V} {fr : Sl} {hp : Hp} {ρ : List Addr} {s : Shared} {u : Value} (I : Inv W d Γ ρ fr hp s) (hv : VR ρ v u) :
    wpAny (model W.prog W.w) Γ.A (storeName Γ.env x u) (fun _ s' => AsP Γ ρ hp (fr.set i (some v)) hp s s') NoE s := by
  have keepL : ∀ {c : Addr} {h' : Heap} {t : Nat}, c ∈ Γ.wr → Heap.SameBut c s.heap h' → (∃ o, h'.get? c = some o) → Step ρ hp ρ hp Γ.wr s { s with heap := h', toks := t } ∧ RH ρ hp h' := by
    intro c h' t hc sb hth
    refine ⟨⟨⟨_, _, rfl⟩, fun b o e n _ => sameBut_keep sb (fun q => n (q ▸ hc)) e, fun b o e => ?_, List.prefix_refl _, fun _ h => .inl h, fun _ _ e _ => e⟩, I.rh.keeps fun a ha x e => sameBut_keep sb (fun q => (I.sep a ha).1 (q ▸ hc)) e⟩
    by_cases hb : b = c
    · subst hb; exact hth
    · exact ⟨o, sameBut_keep sb hb e⟩
  cases oc with
  | none =>
    obtain ⟨hk, hd⟩ := I.ok.loc i x hi
    obtain ⟨m, hn, hm⟩ := I.fr.ns
    refine wpAny_storeName_local hk hn (fun h' hn' sb => ?_) (by rw [I.ok.kind]; rfl)
    obtain ⟨S, R⟩ := keepL (t := s.toks + 1) List.mem_cons_self sb (by obtain ⟨o, es, ep, h1, h2⟩ := hn'; exact ⟨o, h1⟩)
    refine ⟨ρ, S, R, ⟨_, hn', fun k y w hk' hw => ?_⟩, fun k y c hk' => ?_⟩
    · by_cases q : i = k
      · subst q
        rw [hi] at hk'; cases hk'
        have : i < fr.length := by have := (List.getElem?_eq_some_iff.mp hw).1; simpa using this
        rw [List.getElem?_set_self this] at hw
        cases hw
        exact ⟨u, by simp, hv⟩
      · rw [List.getElem?_set_ne q] at hw
        have := (I.ok.ndn i k x y none none hi hk' q).1
        obtain ⟨u', a, b⟩ := hm k y w hk' hw
        exact ⟨u', by rw [if_neg (Ne.symm this)]; exact a, b⟩
    · obtain ⟨uo, hc, hv'⟩ := I.fr.cells k y c hk'
      refine ⟨uo, hc.sameBut sb (I.ok.sepc c (mem_cs hk')), fun w hw => ?_⟩
      have q : i ≠ k := fun q => by subst q; rw [hi] at hk'; cases hk'
      rw [List.getElem?_set_ne q] at hw
      exact hv' w hw
  | some c =>
    obtain ⟨hk, hl, hd⟩ := I.ok.cel i x c hi
    obtain ⟨uo, hc, hv'⟩ := I.fr.cells i x c hi
    have fin : ∀ h', h'.IsCell c (some u) → Heap.SameBut c s.heap h' → AsP Γ ρ hp (fr.set i (some v)) hp s { s with heap := h' } := fun h' hc' sb => by
      obtain ⟨S, R⟩ := keepL (t := s.toks) (List.mem_cons_of_mem _ (mem_cs hi)) sb (by obtain ⟨o, h1, h2⟩ := hc'; exact ⟨o, h1⟩)
      obtain ⟨m, hn, hm⟩ := I.fr.ns
      refine ⟨ρ, S, R, ⟨m, hn.at' fun o e => sameBut_keep sb (Ne.symm (I.ok.sepc c (mem_cs hi))) e, fun k y w hk' hw => ?_⟩, fun k y c' hk' => ?_⟩
      · have q : i ≠ k := fun q => by subst q; rw [hi] at hk'; cases hk'
        rw [List.getElem?_set_ne q] at hw
        exact hm k y w hk' hw
      · by_cases q : i = k
        · subst q
          rw [hi] at hk'; cases hk'
          refine ⟨_, hc', fun w hw => ?_⟩
          have : i < fr.length := by have := (List.getElem?_eq_some_iff.mp hw).1; simpa using this
          rw [List.getElem?_set_self this] at hw
          cases hw
          exact ⟨u, rfl, hv⟩
        · obtain ⟨uo', hc'', hv''⟩ := I.fr.cells k y c' hk'
          have := (I.ok.ndn i k x y (some c) (some c') hi hk' q).2 rfl
          refine ⟨uo', hc''.sameBut sb (fun z => this (by rw [z])), fun w hw => ?_⟩
          rw [List.getElem?_set_ne q] at hw
          exact hv'' w hw
    rcases hk with hk | ⟨hk, hcd⟩
    · exact wpAny_storeName_cell I.ok.kind hk hl hc fin
    · -- a captured name of an outer def: not stored to here
      unfold storeName
      simp only [hk, I.ok.kind]
      exact wpAny_bind (wpAny_cellOf hl (wpAny_cellSet hc fin))

noncomputable def setA (i : Nat) : AsF := fun v fr hp => some (fr.set i (some v), hp)
theorem as_name {x : Str} {oc : Option Addr} (i : Nat) {pos : Pos} (hi : Γ.nm[i]? = some (x, oc)) : AsM W d Γ (assign (.Name x pos) Γ.env) (setA i) := by
  intro v fr hp fr' hp' ρ s u e I r
  obtain ⟨rfl, rfl⟩ := si2 e
  exact wpAny_assign_Name (store_name hi I r)

theorem as_store {x : Str} {oc : Option Addr} (i : Nat) (hi : Γ.nm[i]? = some (x, oc)) : AsM W d Γ (storeName Γ.env x) (setA i) := by
  intro v fr hp fr' hp' ρ s u e I r
  obtain ⟨rfl, rfl⟩ := si2 e
  exact store_name hi I r

noncomputable def asgX (f : EvF) (g : AsF) : ExF := fun fr hp => match f fr hp with
  | some (v, h1) => (match g v fr h1 with
    | some (fr', h2) => some (.next, fr', h2)
    | none => none)
  | none => none
inductive AS (f : EvF) (g : AsF) (fr : Sl) (hp : Hp) (fl : Fl) (fr' : Sl) (hp' : Hp) : Prop
  | mk (v : V) (h1 : Hp) (e1 : f fr hp = some (v, h1)) (e2 : g v fr h1 = some (fr', hp')) (hf : fl = .next) : AS f g fr hp fl fr' hp'
theorem asgX_some {f : EvF} {g : AsF} {fr : Sl} {hp : Hp} {fl : Fl} {fr' : Sl} {hp' : Hp} (e : asgX f g fr hp = some (fl, fr', hp')) : AS f g fr hp fl fr' hp' := by
  unfold asgX at e
  split at e
  · rename_i v h1 e1
    split at e
    · rename_i fr2 h2 e2
      cases e
      exact ⟨v, h1, e1, e2, rfl⟩
    · exact nn e
  · exact nn e
theorem asg_core {value : Expr} {t : Value → Sem Unit} {f : EvF} {g : AsF} (hf : EvM W d Γ value f) (hg : AsM W d Γ t g) {fr hp fl fr' hp' ρ s} (e : asgX f g fr hp = some (fl, fr', hp')) (I : Inv W d Γ ρ fr hp s) :
    wpAny (model W.prog W.w) Γ.A (eval value Γ.env) (fun v s₁ => wpAny (model W.prog W.w) Γ.A (t v) (fun _ s₂ => ExP Γ ρ hp fl fr' hp' s .next s₂) NoE s₁) NoE s := by
  obtain ⟨v, h1, e1, e2, rfl⟩ := asgX_some e
  refine wpAny_mono (hf fr hp v h1 ρ s e1 I) (fun u s₁ p => ?_) fun _ _ x => x
  obtain ⟨ρ₁, S₁, R₁, r₁⟩ := p
  refine wpAny_mono (hg v fr h1 fr' hp' ρ₁ s₁ u e2 (I.step S₁ R₁) r₁) (fun _ s₂ p => ?_) fun _ _ x => x
  obtain ⟨ρ₂, S₂, R₂, F₂⟩ := p
  exact ⟨ρ₂, S₁.up.trans I.rh R₁ S₂, R₂, F₂, rfl⟩
theorem ex_assign {x : Str} {oc : Option Addr} {pos' : Pos} {value : Expr} {pos : Pos} {f : EvF} (i : Nat) (hf : EvM W d Γ value f) (hi : Γ.nm[i]? = some (x, oc))
    (hs : swapsWith value (some (.Name x pos')) pos.line Γ.env = pure false) : ExM W d Γ (.Assign [.Name x pos'] value pos) (asgX f (setA i)) := by
  intro fr hp fl fr' hp' ρ s e I
  exact wpAny_Assign_Name (asg_core hf (as_store i hi) e I) hs
noncomputable def as3 (i j k : Nat) : AsF := fun v fr hp => some (((fr.set i (some v)).set j (some v)).set k (some v), hp)
theorem ex_assign3 {x y z : Str} {ox oy oz : Option Addr} {px py pz : Pos} {value : Expr} {pos : Pos} {f : EvF} (i j k : Nat) (hf : EvM W d Γ value f) (hx : Γ.nm[i]? = some (x, ox)) (hy : Γ.nm[j]? = some (y, oy)) (hz : Γ.nm[k]? = some (z, oz))
    (he : (assignEach [.Name x px, .Name y py, .Name z pz] Γ.env).map (·.2) = [assign (.Name x px) Γ.env, assign (.Name y py) Γ.env, assign (.Name z pz) Γ.env])
    (hw : swappedStores [.Name x px, .Name y py, .Name z pz] value Γ.env = pure none) : ExM W d Γ (.Assign [.Name x px, .Name y py, .Name z pz] value pos) (asgX f (as3 i j k)) := by
  intro fr hp fl fr' hp' ρ s e I
  obtain ⟨v, h1, e1, e2, rfl⟩ := asgX_some e
  obtain ⟨rfl, rfl⟩ := si2 e2
  refine wpAny_Assign_three ?_ he hw
  · refine wpAny_mono (hf fr hp v _ ρ s e1 I) (fun u s₁ p => ?_) fun _ _ x => x
    obtain ⟨ρ₁, S₁, R₁, r₁⟩ := p
    have I₁ := I.step S₁ R₁
    refine wpAny_mono (as_name (pos := px) i hx v fr _ _ _ ρ₁ s₁ u rfl I₁ r₁) (fun _ s₂ p => ?_) fun _ _ x => x
    obtain ⟨ρ₂, S₂, R₂, F₂⟩ := p
    have I₂ := I₁.stepX S₂ R₂ F₂
    refine wpAny_mono (as_name (pos := py) j hy v _ _ _ _ ρ₂ s₂ u rfl I₂ (r₁.mono S₂.ext)) (fun _ s₃ p => ?_) fun _ _ x => x
    obtain ⟨ρ₃, S₃, R₃, F₃⟩ := p
    have I₃ := I₂.stepX S₃ R₃ F₃
    refine wpAny_mono (as_name (pos := pz) k hz v _ _ _ _ ρ₃ s₃ u rfl I₃ ((r₁.mono S₂.ext).mono S₃.ext)) (fun _ s₄ p => ?_) fun _ _ x => x
    obtain ⟨ρ₄, S₄, R₄, F₄⟩ := p
    exact ⟨ρ₄, ((S₁.up.trans I.rh R₁ S₂).trans I.rh R₂ S₃).trans I.rh R₃ S₄, R₄, F₄, rfl⟩

noncomputable def setAll : List Nat → List V → Sl → Option Sl
  | [], [], fr => some fr
  | i :: is, v :: vs, fr => setAll is vs (fr.set i (some v))
  | _, _, _ => none
noncomputable def untA (is : List Nat) : AsF := fun v fr hp => match v with
  | .own j => (match hp[j]? with
    | some (.tup vs) => (match setAll is vs fr with
      | some fr' => some (fr', hp)
      | none => none)
    | _ => none)
  | _ => none
inductive US (is : List Nat) (v : V) (fr : Sl) (hp : Hp) (fr' : Sl) (hp' : Hp) : Prop
  | mk (j : Nat) (vs : List V) (hv : v = .own j) (hj : hp[j]? = some (.tup vs)) (e : setAll is vs fr = some fr') (hh : hp' = hp) : US is v fr hp fr' hp'
theorem untA_some {is : List Nat} {v : V} {fr : Sl} {hp : Hp} {fr' : Sl} {hp' : Hp} (e : untA is v fr hp = some (fr', hp')) : US is v fr hp fr' hp' := by
  unfold untA at e
  split at e
  · rename_i j
    split at e
    · rename_i vs hj
      split at e
      · rename_i fr3 e3
        obtain ⟨rfl, rfl⟩ := si2 e
        exact ⟨j, vs, rfl, hj, e3, rfl⟩
      · exact nn e
    · exact nn e
  · exact nn e
noncomputable def NamesAt (Γ : Fm) : List Nat → List Expr → Prop
  | [], [] => True
  | i :: is, .Name x _ :: es => (∃ oc, Γ.nm[i]? = some (x, oc)) ∧ NamesAt Γ is es
  | _, _ => False
theorem inOrder {is : List Nat} : ∀ {es : List Expr} {vs : List V} {us : List Value} {fr fr' : Sl} {hp : Hp} {ρ : List Addr} {s : Shared}, NamesAt Γ is es → setAll is vs fr = some fr' → Inv W d Γ ρ fr hp s → VRs ρ vs us →
    wpAny (model W.prog W.w) Γ.A (assignInOrder ((assignEach es Γ.env).map (·.2)) us) (fun _ s' => AsP Γ ρ hp fr' hp s s') NoE s := by
  induction is with
  | nil =>
    intro es vs us fr fr' hp ρ s hn e I r
    cases es with
    | nil =>
      cases vs with
      | nil => cases e; rw [r.unnil]; exact wpAny_assignInOrder_none ⟨ρ, .refl, I.rh, I.fr⟩
      | cons _ _ => cases e
    | cons _ _ => exact hn.elim
  | cons i is ih =>
    intro es vs us fr fr' hp ρ s hn e I r
    cases es with
    | nil => exact hn.elim
    | cons t es =>
      cases t <;> try exact hn.elim
      rename_i x p
      obtain ⟨⟨oc, hx⟩, hn⟩ := hn
      cases vs with
      | nil => cases e
      | cons v vs =>
        obtain ⟨u, us', rfl, rv, rs⟩ := r.uncons
        show wpAny _ _ (assignInOrder (assign (.Name x p) Γ.env :: (assignEach es Γ.env).map (·.2)) (u :: us')) _ _ s
        refine wpAny_assignInOrder_more (wpAny_mono (as_name (pos := p) i hx v fr hp _ _ ρ s u rfl I rv) (fun _ s₁ q => ?_) fun _ _ x => x)
        obtain ⟨ρ₁, S₁, R₁, F₁⟩ := q
        exact wpAny_mono (ih hn e (I.stepX S₁ R₁ F₁) (rs.mono S₁.ext)) (fun _ s₂ q => q.trans I.rh S₁ R₁) fun _ _ x => x
theorem len_cons {α : Type} {l : List α} {n : Nat} (h : l.length = n + 1) : ∃ a r, l = a :: r ∧ r.length = n := by
  cases l with
  | nil => cases h
  | cons a r => exact ⟨a, r, rfl, Nat.succ.inj h⟩
theorem len_2 {α : Type} {l : List α} (h : l.length = 2) : ∃ a b, l = [a, b] := by
  obtain ⟨a, r, rfl, h1⟩ := len_cons h
  obtain ⟨b, q, rfl, h2⟩ := len_cons h1
  exact ⟨a, b, by rw [List.length_eq_zero_iff.mp h2]⟩
theorem setAll_len {is : List Nat} : ∀ {vs : List V} {fr fr' : Sl}, setAll is vs fr = some fr' → is.length = vs.length := by
  induction is with
  | nil => intro vs fr fr' e; cases vs with | nil => rfl | cons _ _ => cases e
  | cons i is ih => intro vs fr fr' e; cases vs with | nil => cases e | cons _ _ => simp [ih e]
theorem namesAt_each {is : List Nat} : ∀ {es : List Expr}, NamesAt Γ is es → (assignEach es Γ.env).length = is.length ∧ (assignEach es Γ.env).findIdx? (·.1) = none := by
  induction is with
  | nil => intro es h; cases es with | nil => exact ⟨rfl, rfl⟩ | cons _ _ => exact h.elim
  | cons i is ih =>
    intro es h
    cases es with
    | nil => exact h.elim
    | cons t es =>
      cases t <;> try exact h.elim
      rename_i x p
      obtain ⟨a, b⟩ := ih h.2
      refine ⟨?_, ?_⟩
      · show (assignEach es Γ.env).length + 1 = _; rw [a]; rfl
      · show List.findIdx? (·.1) ((false, assign (.Name x p) Γ.env) :: assignEach es Γ.env) = none
        rw [List.findIdx?_cons]
        simp [b]
theorem as_unt {es : List Expr} {k : Nat} {pos : Pos} (is : List Nat) (hn : NamesAt Γ is es) : AsM W d Γ (assign (.Tuple es k pos) Γ.env) (untA is) := by
  intro v fr hp fr' hp' ρ s u e I r
  obtain ⟨j, vs, rfl, hj, e2, rfl⟩ := untA_some e
  obtain ⟨a, ea, rfl⟩ := r
  obtain ⟨us, hg, rs⟩ := I.rh.ob j _ a hj ea
  have hl := setAll_len e2
  refine PySem.wpAny_assign_Tuple (items := us) I.ok.hand ⟨_, hg, rfl, _, rfl⟩ (by rw [(namesAt_each hn).1, hl, rs.1]; simp) (namesAt_each hn).2 fun h' hx => ?_
  have hk : ∀ b o, s.heap.get? b = some o → h'.get? b = some o := fun b o e => hx b o (Nat.ne_of_lt (Heap.lt_size e)) e
  have S₁ : Step ρ hp' ρ hp' [] s { s with heap := h' } := .kept (t := s.toks) hk
  have R₁ : RH ρ hp' h' := I.rh.keeps fun a _ x e => hk a x e
  exact wpAny_mono (inOrder hn e2 (I.step S₁ R₁) rs) (fun _ s₂ q => q.trans I.rh S₁.up R₁) fun _ _ x => x
theorem ex_unt {es : List Expr} {k : Nat} {tpos : Pos} {value : Expr} {pos : Pos} {f : EvF} (is : List Nat) (hf : EvM W d Γ value f) (hn : NamesAt Γ is es)
    (hs : swapsWithSole [.Tuple es k tpos] value pos.line Γ.env = pure false) (hw : swappedStores [.Tuple es k tpos] value Γ.env = pure none) : ExM W d Γ (.Assign [.Tuple es k tpos] value pos) (asgX f (untA is)) := by
  intro fr hp fl fr' hp' ρ s e I
  exact Assign_Tuple (asg_core hf (as_unt is hn) e I) hs hw
theorem ex_swap2 {x y : Str} {ox oy : Option Addr} {px py : Pos} {k : Nat} {tpos : Pos} {value : Expr} {pos : Pos} {f : EvF} (i j : Nat) (hf : EvM W d Γ value f) (hx : Γ.nm[i]? = some (x, ox)) (hy : Γ.nm[j]? = some (y, oy)) (hij : i ≠ j)
    (hs : swapsWithSole [.Tuple [.Name x px, .Name y py] k tpos] value pos.line Γ.env = pure false) (hw : swappedStores [.Tuple [.Name x px, .Name y py] k tpos] value Γ.env = pure (some [x, y])) : ExM W d Γ (.Assign [.Tuple [.Name x px, .Name y py] k tpos] value pos) (asgX f (untA [i, j])) := by
  intro fr hp fl fr' hp' ρ s e I
  obtain ⟨v, h1, e1, e2, rfl⟩ := asgX_some e
  obtain ⟨q, vs, rfl, hj, e3, rfl⟩ := untA_some e2
  obtain ⟨v1, v2, rfl⟩ := len_2 (setAll_len e3).symm
  cases e3
  refine Assign_Tuple_swapped (names := [x, y]) (wpAny_mono (hf fr hp _ _ ρ s e1 I) (fun u s₁ p => ?_) fun _ _ x => x) hs hw
  obtain ⟨ρ₁, S₁, R₁, a, ea, rfl⟩ := p
  have I₁ := I.step S₁ R₁
  obtain ⟨us, hg, rs⟩ := R₁.ob q _ a hj ea
  obtain ⟨u1, us', hu, r1, rs'⟩ := rs.uncons
  obtain ⟨u2, us'', rfl, r2, rs''⟩ := rs'.uncons
  cases rs''.unnil
  have hsz : us.size = 2 := by have := congrArg List.length hu; simpa using this
  rw [show [x, y].length = us.size from hsz.symm]
  refine wpAny_unpackItems_tuple I.ok.hand ⟨_, hg, rfl, _, rfl⟩ fun h' hxx => ?_
  rw [hu]
  have hk : ∀ b o, s₁.heap.get? b = some o → h'.get? b = some o := fun b o e => hxx b o (Nat.ne_of_lt (Heap.lt_size e)) e
  have S₂ : Step ρ₁ _ ρ₁ _ [] s₁ { s₁ with heap := h' } := .kept (hp := hp') (t := s₁.toks) hk
  have R₂ : RH ρ₁ hp' h' := R₁.keeps fun a _ x e => hk a x e
  have I₂ := I₁.step S₂ R₂
  refine wpAny_assignInOrder_more (wpAny_bindName (wpAny_mono (store_name hy I₂ r2) (fun _ s₃ p => ?_) fun _ _ x => x))
  obtain ⟨ρ₃, S₃, R₃, F₃⟩ := p
  have I₃ := I₂.stepX S₃ R₃ F₃
  refine wpAny_assignInOrder_more (wpAny_bindName (wpAny_mono (store_name hx I₃ (r1.mono S₃.ext)) (fun _ s₄ p => ?_) fun _ _ x => x))
  obtain ⟨ρ₄, S₄, R₄, F₄⟩ := p
  exact wpAny_assignInOrder_none ⟨ρ₄, ((S₁.up.trans I.rh R₁ S₂.up).trans I.rh R₂ S₃).trans I.rh R₃ S₄, R₄, List.set_comm _ _ hij ▸ F₄, rfl⟩
end


section
variable {W : Wd} {d : Nat} {Γ : Fm}

theorem wr_put {ρ : List Addr} {hp : Hp} {s : Shared} {h : Heap} {t : Nat} {a : Addr} {j : Nat} {o o' : O} {wr : List Addr} (R : RH ρ hp s.heap) (ea : ρ[j]? = some a) (eo : hp[j]? = some o) (hm : o.mut = true)
    (k : ∀ b x, b ≠ a → b ∉ wr → s.heap.get? b = some x → h.get? b = some x) (hw : ∀ b ∈ wr, ∀ x, s.heap.get? b = some x → ∃ x', h.get? b = some x') (hd : ∀ b ∈ ρ, b ∉ wr) (r : OR ρ h a o') :
    Step ρ hp ρ (hp.set j o') wr s { s with heap := h, toks := t } ∧ RH ρ (hp.set j o') h := by
  refine ⟨⟨⟨_, _, rfl⟩, fun b x e n m => k b x (fun q => ?_) n e, fun b x e => ?_, List.prefix_refl _, fun _ h => .inl h, fun i x e q => ?_⟩, R.set ea (fun b hb hne x e => k b x hne (hd b hb) e) r⟩
  · subst q; rw [m j o ea eo] at hm; cases hm
  · by_cases hb : b = a
    · subst hb; exact r.there
    · by_cases hbw : b ∈ wr
      · exact hw b hbw x e
      · exact ⟨x, k b x hb hbw e⟩
  · by_cases hi : j = i
    · subst hi; rw [eo] at e; cases e; rw [q] at hm; cases hm
    · rw [List.getElem?_set_ne hi]; exact e

theorem setItem_int {prog : Program} {w : World} {A : Around} {E : Value → Shared → Prop} {s : Shared} {l : Addr} {its : Array Value} {n : Nat} {k : Int} {t : Tok} {v : Value} {Q : Unit → Shared → Prop}
    (hg : s.heap.get? l = some { cls := .type "list", data := .seq its n }) (h0 : 0 ≤ k) (hfit : k < 2 ^ 63) (hn : k < its.size)
    (h : ∀ h', (∃ n', h'.get? l = some { cls := .type "list", data := .seq (its.setIfInBounds k.toNat v) n' }) → Heap.SameBut l s.heap h' → Q () { s with heap := h' }) : wpAny (model prog w) A (setItem (.ref l) (.int k t) v) Q E s := by
  have hl : s.heap.IsList l its := ⟨_, hg, rfl, n, rfl⟩
  unfold setItem
  try with_reducible refine wpAny_holding ?_
  first | refine wpAny_bind (wpAny_pure ?_) | skip
  refine wpAny_bind (wpAny_sequenceKey hl.typeIs (by decide) ?_)
  refine wpAny_bind (wpAny_callSpecial?_slot (name := Str.ofString "__setitem__") hl.typeIs slot_list_setitem
    (wpAny_call_entry slot_list_setitem hl.typeIs entry_list_setitem ?_ (args_list_setitem _ _ _)))
  show wpAny _ _ (Builtin.List.listSubscript? (.int k t) >>= _) _ _ s
  refine wpAny_bind (wpAny_listSubscript_int (fitsIndex_of h0 hfit) ?_)
  clear hfit
  obtain ⟨j, rfl⟩ := Int.eq_ofNat_of_zero_le h0
  have hj : j < its.size := by omega
  have e : its[j]? = some its[j] := Array.getElem?_eq_getElem hj
  show wpAny _ _ ((seqItemAt l j >>= fun r => pure (r.map (j, ·))) >>= _) _ _ s
  refine wpAny_bind (wpAny_bind (wpAny_seqItemAt hg rfl (wpAny_pure ?_)))
  rw [e]
  show wpAny _ _ (setSeqItemAt l j v >>= _) _ _ s
  have fin := h (s.heap.update l (Obj.mapSeq (·.setIfInBounds j v))) ⟨_, Heap.get?_update_self _ hg rfl⟩ (Heap.SameBut.update ..)
  refine wpAny_bind (wpAny_setSeqItemAt hg rfl ?_)
  first
    | exact wpAny_bind (wpAny_pure (wpAny_pure ⟨.none, rfl, wpAny_pure fin⟩))
    | exact wpAny_pure ⟨.none, rfl, wpAny_pure fin⟩
theorem setItem_at {prog : Program} {w : World} {A : Around} {E : Value → Shared → Prop} {s : Shared} {l : Addr} {its : Array Value} {n j : Nat} {t : Tok} {v : Value} {Q : Unit → Shared → Prop}
    (hg : s.heap.get? l = some { cls := .type "list", data := .seq its n }) (hj : j < its.size) (hf : j ≤ 100000)
    (h : ∀ h', (∃ n', h'.get? l = some { cls := .type "list", data := .seq (its.setIfInBounds j v) n' }) → Heap.SameBut l s.heap h' → Q () { s with heap := h' }) : wpAny (model prog w) A (setItem (.ref l) (.int (j : Int) t) v) Q E s :=
  setItem_int hg (by omega) (by omega) (by omega) h

noncomputable def setIx (fv fo fi : EvF) : ExF := fun fr hp => ob2 (fv fr hp) fun v h1 => (match fo fr h1 with
    | some (.own j, h2) => (match fi fr h2 with
      | some (.int (.ofNat k), h3) => (match h3[j]? with
        | some (.list vs) => (obB (Nat.blt k vs.length && Nat.ble k 100000) (some (.next, fr, h3.set j (.list (vs.set k v)))))
        | _ => none)
      | _ => none)
    | _ => none)
inductive XS (fv fo fi : EvF) (fr : Sl) (hp : Hp) (fl : Fl) (fr' : Sl) (hp' : Hp) : Prop
  | mk (v : V) (h1 : Hp) (e1 : fv fr hp = some (v, h1)) (j : Nat) (h2 : Hp) (e2 : fo fr h1 = some (.own j, h2)) (k : Nat) (h3 : Hp) (e3 : fi fr h2 = some (.int (.ofNat k), h3)) (vs : List V) (hj : h3[j]? = some (.list vs)) (hk1 : k < vs.length) (hk2 : k ≤ 100000)
    (hf : fl = .next) (hr : fr = fr') (hh : hp' = h3.set j (.list (vs.set k v))) : XS fv fo fi fr hp fl fr' hp'
theorem setIx_some {fv fo fi : EvF} {fr : Sl} {hp : Hp} {fl : Fl} {fr' : Sl} {hp' : Hp} (e : setIx fv fo fi fr hp = some (fl, fr', hp')) : XS fv fo fi fr hp fl fr' hp' := by
  unfold setIx at e
  refine ob2_elim e fun v h1 e1 e => ?_
  split at e
  · rename_i j h2 e2
    split at e
    · rename_i k h3 e3
      split at e
      · rename_i vs hj
        refine obB_elim e fun hk e => ?_
        cases e
        obtain ⟨hk1, hk2⟩ := Bool.and_eq_true_iff.mp hk
        have hk2 := Nat.le_of_ble_eq_true hk2
        have hk1 : k < vs.length := by simp [Nat.blt] at hk1; omega
        exact ⟨v, h1, e1, j, h2, e2, k, h3, e3, vs, hj, hk1, hk2, rfl, rfl, rfl⟩
      · exact nn e
    · exact nn e
  · exact nn e
theorem ex_setitem {o i value : Expr} {pos' pos : Pos} {fv fo fi : EvF} (hv : EvM W d Γ value fv) (ho : EvM W d Γ o fo) (hi : EvM W d Γ i fi) (hs : swapsWith value (some (.Subscript o i pos')) pos.line Γ.env = pure false) :
    ExM W d Γ (.Assign [.Subscript o i pos'] value pos) (setIx fv fo fi) := by
  intro fr hp fl fr' hp' ρ s e I
  obtain ⟨v, h1, e1, j, h2, e2, k, h3, e3, vs, hj, hk1, hk2, rfl, rfl, rfl⟩ := setIx_some e
  refine wpAny_Assign_Subscript (wpAny_mono (hv fr hp v h1 ρ s e1 I) (fun u₁ s₁ p => ?_) fun _ _ x => x) hs
  obtain ⟨ρ₁, S₁, R₁, r₁⟩ := p
  have I₁ := I.step S₁ R₁
  refine wpAny_mono (ho fr h1 _ h2 ρ₁ s₁ e2 I₁) (fun u₂ s₂ p => ?_) fun _ _ x => x
  obtain ⟨ρ₂, S₂, R₂, r₂⟩ := p
  have I₂ := I₁.step S₂ R₂
  refine wpAny_mono (hi fr h2 _ h3 ρ₂ s₂ e3 I₂) (fun u₃ s₃ p => ?_) fun _ _ x => x
  obtain ⟨ρ₃, S₃, R₃, r₃⟩ := p
  have I₃ := I₂.step S₃ R₃
  have S13 : Step ρ hp ρ₃ h3 Γ.wr s s₃ := ((S₁.trans I.rh R₁ S₂).trans I.rh R₂ S₃).up
  obtain ⟨t, rfl⟩ := r₃
  obtain ⟨a, ea, rfl⟩ := (r₂.mono S₃.ext : VR ρ₃ (.own j) u₂)
  obtain ⟨us, n, hg, rs⟩ := R₃.ob j _ a hj ea
  have hw : a ∉ Γ.wr := (I₃.sep a (List.mem_of_getElem? ea)).1
  refine setItem_at (j := k) hg (by have := rs.1; simp at this; omega) (by omega) fun h' hg' sb => ?_
  obtain ⟨n', hg'⟩ := hg'
  have ro : OR ρ₃ h' a (.list (vs.set k v)) := ⟨_, n', hg', by
    rw [Array.toList_setIfInBounds]
    exact rs.set k ((r₁.mono S₂.ext).mono S₃.ext)⟩
  obtain ⟨S₄, R₄⟩ := wr_put (t := s₃.toks) (wr := Γ.wr) R₃ ea hj rfl (fun b x hne _ e => sameBut_keep sb hne e) (fun b hb x e => ⟨x, sameBut_keep sb (fun q => hw (q ▸ hb)) e⟩) (fun b hb => (I₃.sep b hb).1) ro
  exact ⟨ρ₃, S13.trans I.rh R₃ S₄, R₄, I₃.fr.keeps (List.prefix_refl _) fun b hb o e => sameBut_keep sb (fun q => hw (q ▸ hb)) e, rfl⟩

structure ClsOk (W : Wd) (C : Addr) : Prop where
  hs : findIn W.K (.ref C) "__setattr__" = some (some (.builtin "object.__setattr__"))
  po : plainOver W.K C = true
  hh : hasDictIn W.K C = true
  ga : findIn W.K (.ref C) "__getattribute__" = some (some (.builtin "object.__getattribute__")) ∧ findIn W.K (.ref C) "__getattr__" = some none
  fld : ∀ x ∈ fldNames, takerIn W.K C x = some none ∧ ∃ attr, findIn W.K (.ref C) x = some attr ∧ noGet W.K attr = true
noncomputable def keysAt (es : List DictEntry) (k : Nat) : Prop := ∀ (i : Nat) (e : DictEntry), es[i]? = some e → ∃ (x : Str) (t : Tok), fldNames[k + i]? = some x ∧ e.key = Value.str x t
theorem fld_inj : ∀ i j : Nat, ∀ x : Str, fldNames[i]? = some x → fldNames[j]? = some x → i = j := by
  have nd : fldNames.Nodup := by decide
  intro i j x hi hj
  obtain ⟨a, b⟩ := List.getElem?_eq_some_iff.mp hi
  obtain ⟨a', b'⟩ := List.getElem?_eq_some_iff.mp hj
  rcases Nat.lt_trichotomy i j with q | q | q
  · exact absurd (b.trans b'.symm) (List.pairwise_iff_getElem.mp nd i j a a' q)
  · exact q
  · exact absurd (b'.trans b.symm) (List.pairwise_iff_getElem.mp nd j i a' a q)
theorem isStr_key {e : DictEntry} {x y : Str} {t : Tok} (h : e.key = .str x t) : e.key.isStr y = (x == y) := by rw [h]; rfl
theorem keysAt.tail {e : DictEntry} {es : List DictEntry} {k : Nat} (h : keysAt (e :: es) k) : keysAt es (k + 1) := fun i e' q => by
  obtain ⟨x, t, a, b⟩ := h (i + 1) e' (by simpa using q)
  exact ⟨x, t, by rw [Nat.add_assoc, Nat.add_comm 1 i]; exact a, b⟩
theorem get_key : ∀ {es : List DictEntry} {k i : Nat} {e : DictEntry} {x : Str}, keysAt es k → es[i]? = some e → fldNames[k + i]? = some x → getL x es = some (some e.val)
  | [], _, _, _, _, _, h, _ => by simp at h
  | e :: es, k, i, e', x, hk, h, hx => by
    unfold getL
    obtain ⟨y, t, hy, ey⟩ := hk 0 e (by simp)
    rw [List.find?_cons, isStr_key ey]
    cases i with
    | zero =>
      simp at h; subst h
      rw [hx] at hy; cases hy
      simp
    | succ i =>
      have : y ≠ x := fun q => by
        subst q
        have := fld_inj _ _ _ hy hx
        omega
      rw [show (y == x) = false from by simpa using this]
      have := get_key hk.tail (i := i) (by simpa using h) (by rw [Nat.add_assoc, Nat.add_comm 1 i]; exact hx)
      unfold getL at this
      revert this
      generalize hq : List.find? (fun e : DictEntry => e.key.isStr x) es = q
      cases q with
      | some e => simp
      | none =>
        simp only
        split
        · intro h; cases h
        · intro h; cases h
theorem put_new : ∀ {es : List DictEntry} {k : Nat} {x : Str}, keysAt es k → fldNames[k + es.length]? = some x → getL x es = some none ∧ (∀ (hh : Int) (key v : Value), putL x hh key v es = es ++ [⟨hh, key, v⟩])
  | [], _, _, _, _ => ⟨rfl, fun _ _ _ => rfl⟩
  | e :: es, k, x, hk, hx => by
    obtain ⟨y, t, hy, ey⟩ := hk 0 e (by simp)
    have ne : (y == x) = false := by
      have : y ≠ x := fun q => by
        subst q
        have := fld_inj _ _ _ hy hx
        simp at this
      simpa using this
    obtain ⟨a, b⟩ := put_new (es := es) (k := k + 1) (x := x) hk.tail (by rw [Nat.add_assoc, Nat.add_comm 1]; exact hx)
    refine ⟨?_, fun hh key v => ?_⟩
    · unfold getL at a ⊢
      rw [List.find?_cons, isStr_key ey, ne, List.any_cons]
      have : e.refKey = false := by
        unfold DictEntry.refKey; rw [ey]
      rw [this]
      exact a
    · rw [putL, isStr_key ey, ne, b]; rfl

noncomputable def notCst : V → Bool
  | .cst _ => false
  | _ => true
theorem handed_of {ρ : List Addr} {v : V} {u : Value} (h : notCst v = true) (r : VR ρ v u) : handedIn u = true := by
  cases v with
  | none => cases r; rfl
  | bool b => cases r; rfl
  | int i => obtain ⟨t, rfl⟩ := r; rfl
  | str s => obtain ⟨t, rfl⟩ := r; rfl
  | cst c => cases h
  | own j => obtain ⟨a, _, rfl⟩ := r; rfl
theorem keys_of {ρ : List Addr} {es : List DictEntry} {vs : List V} (l : es.length = vs.length) (q : ∀ (i : Nat) (v : V), vs[i]? = some v → ∃ (e : DictEntry) (x : Str) (t : Tok), es[i]? = some e ∧ fldNames[i]? = some x ∧ e.key = Value.str x t ∧ VR ρ v e.val) : keysAt es 0 := by
  intro i e he
  have hi : i < vs.length := by rw [← l]; exact (List.getElem?_eq_some_iff.mp he).1
  obtain ⟨e', x, t, a, b, c, _⟩ := q i vs[i] (by simp [hi])
  rw [he] at a; cases a
  exact ⟨x, t, by simpa using b, c⟩

noncomputable def attF (C : Addr) (i : Nat) (f : EvF) : EvF := fun fr hp => match f fr hp with
  | some (.own j, h1) => (match h1[j]? with
    | some (.inst C' dd) => (match Nat.beq C' C, h1[dd]? with
      | true, some (.attrs vs) => (ob1 (vs[i]?) fun v => (obB (notCst v) (some (v, h1))))
      | _, _ => none)
    | _ => none)
  | _ => none
theorem ev_att {C : Addr} (K : ClsOk W C) {value : Expr} {x : Str} {pos : Pos} {f : EvF} (i : Nat) (h : EvM W d Γ value f) (hx : fldNames[i]? = some x)
    (he : eval (.Attribute value x pos) Γ.env = (do
      let o ← eval value Γ.env
      standAt pos.atName
      let r ← holding [o] (getAttr o x true)
      letTemporaryGo value o r
      pure r)) : EvM W d Γ (.Attribute value x pos) (attF C i f) := by
  intro fr hp v hp' ρ s e I
  unfold attF at e
  split at e
  · rename_i j h1 e1
    split at e
    · rename_i C' dd hj
      split at e
      · rename_i vs hC hd
        refine ob1_elim e fun v' hv e => ?_
        refine obB_elim e fun hn e => ?_
        obtain ⟨rfl, rfl⟩ := si2 e
        cases Nat.eq_of_beq_eq_true hC
        refine Attribute_any_ (wpAny_mono (h fr hp _ _ ρ s e1 I) (fun u₁ s₁ p => ?_) fun _ _ x => x) he
        obtain ⟨ρ₁, S₁, R₁, r₁⟩ := p
        obtain ⟨a, ea, rfl⟩ := r₁
        obtain ⟨dx, edx, hg⟩ := R₁.ob j _ a hj ea
        obtain ⟨es, n, hgd, l, q⟩ := R₁.ob dd _ dx hd edx
        obtain ⟨en, y, t, a1, a2, a3, a4⟩ := q i _ hv
        rw [hx] at a2; cases a2
        obtain ⟨attr, ha, hng⟩ := (K.fld x (List.mem_of_getElem? hx)).2
        exact get_value (W.X.keeps (I.step S₁ R₁).base) (⟨hg, rfl, rfl, hgd⟩ : InstAt s₁.heap a (instObj C dx) C (some (dictOf es n))) K.ga.1
          (findObj_own K.hh ha hng (by rw [lookIn_dict]; exact get_key (keys_of l q) a1 (by simpa using hx))) (handed_of hn a4) (EvP.trans I.rh S₁ R₁ (.same R₁ a4))
      · exact nn e
    · exact nn e
  · exact nn e

noncomputable def setAt (C : Addr) (i : Nat) (fv fo : EvF) : ExF := fun fr hp => ob2 (fv fr hp) fun v h1 => (match fo fr h1 with
    | some (.own j, h2) => (match h2[j]? with
      | some (.inst C' dd) => (match Nat.beq C' C, h2[dd]? with
        | true, some (.attrs vs) => (obB (Nat.beq vs.length i) (some (.next, fr, h2.set dd (.attrs (vs ++ [v])))))
        | _, _ => none)
      | _ => none)
    | _ => none)
noncomputable def ledgerOf (h : Heap) (L : Addr) (dx : Addr) : List (Addr × Obj) := (List.range h.objs.size).filterMap fun b => if b = L ∨ b = dx then none else (h.get? b).map (b, ·)
theorem mem_ledger {h : Heap} {L dx b : Addr} {o : Obj} : (b, o) ∈ ledgerOf h L dx ↔ h.get? b = some o ∧ b ≠ L ∧ b ≠ dx := by
  unfold ledgerOf
  rw [List.mem_filterMap]
  constructor
  · rintro ⟨c, _, e⟩
    split at e
    · exact nn e
    · rename_i hn
      cases q : h.get? c with
      | none => rw [q] at e; cases e
      | some o' => rw [q] at e; cases e; exact ⟨q, fun z => hn (.inl z), fun z => hn (.inr z)⟩
  · rintro ⟨e, h1, h2⟩
    refine ⟨b, List.mem_range.mpr (Heap.lt_size e), ?_⟩
    rw [if_neg (by rintro (z | z); exact h1 z; exact h2 z), e]; rfl

inductive SA (C : Addr) (i : Nat) (fv fo : EvF) (fr : Sl) (hp : Hp) (fl : Fl) (fr' : Sl) (hp' : Hp) : Prop
  | mk (v : V) (h1 : Hp) (e1 : fv fr hp = some (v, h1)) (j : Nat) (h2 : Hp) (e2 : fo fr h1 = some (.own j, h2)) (dd : Nat) (hj : h2[j]? = some (.inst C dd)) (vs : List V) (hd : h2[dd]? = some (.attrs vs)) (hl : vs.length = i)
    (hf : fl = .next) (hr : fr = fr') (hh : hp' = h2.set dd (.attrs (vs ++ [v]))) : SA C i fv fo fr hp fl fr' hp'
theorem setAt_some {C : Addr} {i : Nat} {fv fo : EvF} {fr : Sl} {hp : Hp} {fl : Fl} {fr' : Sl} {hp' : Hp} (e : setAt C i fv fo fr hp = some (fl, fr', hp')) : SA C i fv fo fr hp fl fr' hp' := by
  unfold setAt at e
  refine ob2_elim e fun v h1 e1 e => ?_
  split at e
  · rename_i j h2 e2
    split at e
    · rename_i C' dd hj
      split at e
      · rename_i vs hC hd
        refine obB_elim e fun hl e => ?_
        cases e
        cases Nat.eq_of_beq_eq_true hC
        exact ⟨v, h1, e1, j, h2, e2, dd, hj, vs, hd, Nat.eq_of_beq_eq_true hl, rfl, rfl, rfl⟩
      · exact nn e
    · exact nn e
  · exact nn e
theorem ex_setattr {C : Addr} (K : ClsOk W C) {o value : Expr} {x : Str} {pos' pos : Pos} {fv fo : EvF} (i : Nat) (hv : EvM W d Γ value fv) (ho : EvM W d Γ o fo) (hx : fldNames[i]? = some x)
    (hs : swapsWith value (some (.Attribute o x pos')) pos.line Γ.env = pure false) : ExM W d Γ (.Assign [.Attribute o x pos'] value pos) (setAt C i fv fo) := by
  intro fr hp fl fr' hp' ρ s e I
  obtain ⟨v, h1, e1, j, h2, e2, dd, hj, vs, hd, hl, rfl, rfl, rfl⟩ := setAt_some e
  refine plainObj_wpAny_Assign_Attribute (wpAny_mono (hv fr hp v h1 ρ s e1 I) (fun u₁ s₁ p => ?_) fun _ _ x => x) hs
  obtain ⟨ρ₁, S₁, R₁, r₁⟩ := p
  have I₁ := I.step S₁ R₁
  refine wpAny_mono (ho fr h1 _ h2 ρ₁ s₁ e2 I₁) (fun u₂ s₂ p => ?_) fun _ _ x => x
  obtain ⟨ρ₂, S₂, R₂, r₂⟩ := p
  have I₂ := I₁.step S₂ R₂
  have S12 : Step ρ hp ρ₂ h2 Γ.wr s s₂ := (S₁.trans I.rh R₁ S₂).up
  replace r₁ := r₁.mono S₂.ext
  obtain ⟨a, ea, rfl⟩ := r₂
  obtain ⟨dx, edx, hg⟩ := R₂.ob j _ a hj ea
  obtain ⟨es, n, hgd, l, q⟩ := R₂.ob dd _ dx hd edx
  have kx := keys_of l q
  obtain ⟨g1, g2⟩ := put_new (x := x) kx (by rw [Nat.zero_add, l, hl]; exact hx)
  have hil : i < 5 := (List.getElem?_eq_some_iff.mp hx).1
  have hw : dx ∉ Γ.wr := (I₂.sep dx (List.mem_of_getElem? edx)).1
  have hdL : dx ≠ Γ.env.locals := fun z => hw (z ▸ List.mem_cons_self)
  have XX : W.K.In s₂.heap := W.X.keeps I₂.base
  obtain ⟨m, hn, hm⟩ := I₂.fr.ns
  have F0 : Fr ({} : Heap) Γ.env.locals s₂.heap m := ⟨hn, fun b o e => by simp [Heap.get?] at e, Nat.zero_le _⟩
  have N0 : News ({} : Heap) Γ.env.locals s₂.heap (ledgerOf s₂.heap Γ.env.locals dx ++ (dx, dictOf es n) :: []) := by
    intro p hp
    rcases List.mem_append.mp hp with hp | hp
    · obtain ⟨b, o⟩ := p
      obtain ⟨z1, z2, _⟩ := mem_ledger.mp hp
      exact ⟨z1, z2, by simp [Heap.get?]⟩
    · rw [List.mem_singleton.mp hp]
      exact ⟨hgd, hdL, by simp [Heap.get?]⟩
  refine set_plain XX (⟨hg, rfl, rfl, hgd⟩ : InstAt s₂.heap a (instObj C dx) C (some (dictOf es n))) K.hs ?_
  refine osa_dict (s := { s₂ with toks := s₂.toks + 1 }) (pre := ledgerOf s₂.heap Γ.env.locals dx) (post := []) F0 N0 XX ⟨hg, rfl, rfl, hgd⟩ rfl K.po (K.fld x (List.mem_of_getElem? hx)).1 K.hh (by rw [lookIn_dict, g1]; rfl)
    (fun p hp => (mem_ledger (o := p.2).mp hp).2.2) (fun _ h => nomatch h) (putName_dict ..) (by rw [g2]) (by simp [l, hl]; omega) fun h' F' N' => ?_
  have keepB : ∀ b o, b ≠ Γ.env.locals → b ≠ dx → s₂.heap.get? b = some o → h'.get? b = some o := fun b o z1 z2 e => (N' (b, o) (List.mem_append_left _ (mem_ledger.mpr ⟨e, z1, z2⟩))).1
  have atd := (N' (dx, _) (List.mem_append_right _ List.mem_cons_self)).1
  have ro : OR ρ₂ h' dx (.attrs (vs ++ [v])) := by
    refine ⟨_, _, atd, by rw [g2]; simp [l], fun k w hk => ?_⟩
    rw [g2]
    by_cases hkl : k < vs.length
    · rw [List.getElem?_append_left hkl] at hk
      obtain ⟨en, y, t, a1, a2, a3, a4⟩ := q k w hk
      exact ⟨en, y, t, by rw [List.getElem?_append_left (by rw [l]; exact hkl)]; exact a1, a2, a3, a4⟩
    · rw [List.getElem?_append_right (by omega)] at hk
      have : k - vs.length = 0 := by have := (List.getElem?_eq_some_iff.mp hk).1; simp at this; omega
      rw [this] at hk
      simp at hk; subst hk
      exact ⟨_, x, _, by rw [List.getElem?_append_right (by omega), l, this]; rfl, by rw [show k = i by omega]; exact hx, rfl, r₁⟩
  have lkeep : ∃ o, h'.get? Γ.env.locals = some o := by obtain ⟨o, _, _, e, _⟩ := F'.ns; exact ⟨o, e⟩
  obtain ⟨S₄, R₄⟩ := wr_put (t := s₂.toks + 1 + 1) (wr := Γ.wr) R₂ edx hd rfl (fun b o hne hb e => keepB b o (fun z => hb (z ▸ List.mem_cons_self)) hne e)
    (fun b hb o e => by
      by_cases z : b = Γ.env.locals
      · subst z; exact lkeep
      · exact ⟨o, keepB b o z (fun z => hw (z ▸ hb)) e⟩) (fun b hb => (I₂.sep b hb).1) ro
  refine ⟨ρ₂, S12.trans I.rh R₂ S₄, R₄, ⟨⟨m, F'.ns, hm⟩, fun k y c hc => ?_⟩, rfl⟩
  obtain ⟨uo, ⟨o, ho', hd'⟩, hv'⟩ := I₂.fr.cells k y c hc
  exact ⟨uo, ⟨o, keepB c o (I₂.ok.sepc c (mem_cs hc)) (fun z => hw (z ▸ List.mem_cons_of_mem _ (mem_cs hc))) ho', hd'⟩, hv'⟩
end


section
variable {W : Wd} {d : Nat} {Γ : Fm}

noncomputable def retX (f : EvF) : ExF := fun fr hp => ob2 (f fr hp) fun v h1 => some (.ret v, fr, h1)
theorem ex_ret {e : Expr} {pos : Pos} {f : EvF} (h : EvM W d Γ e f) : ExM W d Γ (.Return (some e) pos) (retX f) := by
  intro fr hp fl fr' hp' ρ s q I
  unfold retX at q
  refine ob2_elim q fun v h1 e1 q => ?_
  cases q
  refine wpAny_Return_some (wpAny_mono (h fr hp v _ ρ s e1 I) (fun u s₁ p => ?_) fun _ _ x => x)
  obtain ⟨ρ₁, S₁, R₁, r₁⟩ := p
  exact ⟨ρ₁, S₁.up, R₁, (I.step S₁ R₁).fr, u, rfl, r₁⟩
noncomputable def brkX : ExF := fun fr hp => some (.brk, fr, hp)
theorem ex_brk {pos : Pos} : ExM W d Γ (.Break pos) brkX := by
  intro fr hp fl fr' hp' ρ s q I
  cases q
  exact wpAny_Break ⟨ρ, .refl, I.rh, I.fr, rfl⟩
noncomputable def exprX (f : EvF) : ExF := fun fr hp => match f fr hp with
  | some (.none, h1) => some (.next, fr, h1)
  | _ => none
theorem ex_expr {e : Expr} {pos : Pos} {f : EvF} (h : EvM W d Γ e f) (hi : interactive Γ.env = false) (hs : swapsWith e none pos.line Γ.env = pure false) : ExM W d Γ (.Expr e pos) (exprX f) := by
  intro fr hp fl fr' hp' ρ s q I
  unfold exprX at q
  split at q
  · rename_i h1 e1
    cases q
    refine wpAny_Expr (wpAny_mono (h fr hp _ _ ρ s e1 I) (fun u s₁ p => ?_) fun _ _ x => x) hi hs
    obtain ⟨ρ₁, S₁, R₁, r₁⟩ := p
    cases r₁
    exact ⟨ρ₁, S₁.up, R₁, (I.step S₁ R₁).fr, rfl⟩
  · exact nn q
noncomputable def ifX (t : TeF) (f g : ExF) : ExF := fun fr hp => match t fr hp with
  | some (true, h) => f fr h
  | some (false, h) => g fr h
  | none => none
theorem ex_if {t : Expr} {a b : List Stmt} {pos : Pos} {ft : TeF} {fa fb : ExF} (ht : TeM W d Γ t ft) (ha : StM W d Γ a fa) (hb : StM W d Γ b fb) : ExM W d Γ (.If t a b pos) (ifX ft fa fb) := by
  intro fr hp fl fr' hp' ρ s q I
  unfold ifX at q
  refine wpAny_If ?_
  split at q
  · rename_i h e1
    refine wpAny_mono (ht fr hp true h ρ s e1 I) (fun c s₁ p => ?_) fun _ _ x => x
    obtain ⟨rfl, ρ₁, S₁, R₁⟩ := p
    refine ite_t ?_
    exact wpAny_mono (ha fr h fl fr' hp' ρ₁ s₁ q (I.step S₁ R₁)) (fun f s₂ p => p.trans I.rh S₁.up R₁) fun _ _ x => x
  · rename_i h e1
    refine wpAny_mono (ht fr hp false h ρ s e1 I) (fun c s₁ p => ?_) fun _ _ x => x
    obtain ⟨rfl, ρ₁, S₁, R₁⟩ := p
    refine ite_f ?_
    exact wpAny_mono (hb fr h fl fr' hp' ρ₁ s₁ q (I.step S₁ R₁)) (fun f s₂ p => p.trans I.rh S₁.up R₁) fun _ _ x => x
  · exact nn q

noncomputable def whileX (t : TeF) (b : ExF) : Nat → ExF
  | 0 => fun _ _ => none
  | n + 1 => fun fr hp => match t fr hp with
    | some (true, h) => (match b fr h with
      | some (.next, fr1, h1) => whileX t b n fr1 h1
      | some (.brk, fr1, h1) => some (.next, fr1, h1)
      | r => r)
    | some (false, h) => some (.next, fr, h)
    | none => none
inductive WS2 (ft : TeF) (fb : ExF) (n : Nat) (fr : Sl) (h : Hp) (fl : Fl) (fr' : Sl) (hp' : Hp) : Prop
  | next (fr3 : Sl) (h3 : Hp) (e3 : fb fr h = some (.next, fr3, h3)) (e : whileX ft fb n fr3 h3 = some (fl, fr', hp')) : WS2 ft fb n fr h fl fr' hp'
  | brk (e3 : fb fr h = some (.brk, fr', hp')) (hf : fl = .next) : WS2 ft fb n fr h fl fr' hp'
  | ret (v : V) (e3 : fb fr h = some (.ret v, fr', hp')) (hf : fl = .ret v) : WS2 ft fb n fr h fl fr' hp'
inductive WS1 (ft : TeF) (fb : ExF) (n : Nat) (fr : Sl) (hp : Hp) (fl : Fl) (fr' : Sl) (hp' : Hp) : Prop
  | on (h : Hp) (e1 : ft fr hp = some (true, h)) (r : WS2 ft fb n fr h fl fr' hp') : WS1 ft fb n fr hp fl fr' hp'
  | off (e1 : ft fr hp = some (false, hp')) (hf : fl = .next) (hr : fr' = fr) : WS1 ft fb n fr hp fl fr' hp'
theorem whileX_succ {ft : TeF} {fb : ExF} {n : Nat} {fr : Sl} {hp : Hp} {fl : Fl} {fr' : Sl} {hp' : Hp} (e : whileX ft fb (n + 1) fr hp = some (fl, fr', hp')) : WS1 ft fb n fr hp fl fr' hp' := by
  unfold whileX at e
  split at e
  · rename_i h e1
    refine .on h e1 ?_
    split at e
    · rename_i fr3 h3 e3
      exact .next fr3 h3 e3 e
    · rename_i fr3 h3 e3
      cases e
      exact .brk e3 rfl
    · rename_i hn hn'
      cases fl with
      | next => exact absurd e (hn _ _)
      | brk => exact absurd e (hn' _ _)
      | ret v => exact .ret v e rfl
  · rename_i h e1
    cases e
    exact .off e1 rfl rfl
  · exact nn e
inductive WhI (W : Wd) (d : Nat) (Γ : Fm) (ft : TeF) (fb : ExF) (fl : Fl) (fr' : Sl) (hp' : Hp) (ρ : List Addr) (hp : Hp) (s : Shared) (k : Nat) (s' : Shared) : Prop
  | mk (ρ₁ : List Addr) (fr1 : Sl) (hp₁ : Hp) (S : Step ρ hp ρ₁ hp₁ Γ.wr s s') (J : Inv W d Γ ρ₁ fr1 hp₁ s') (e : whileX ft fb k fr1 hp₁ = some (fl, fr', hp')) : WhI W d Γ ft fb fl fr' hp' ρ hp s k s'
theorem ex_while {t : Expr} {b : List Stmt} {pos : Pos} {ft : TeF} {fb : ExF} (n : Nat) (ht : TeM W d Γ t ft) (hb : StM W d Γ b fb) : ExM W d Γ (.While t b [] pos) (whileX ft fb n) := by
  intro fr hp fl fr' hp' ρ s q I
  refine wpAny_While (codeAny_whileLoop (WhI W d Γ ft fb fl fr' hp' ρ hp s) ?_ n ⟨ρ, fr, hp, .refl, I, q⟩)
  rintro k s' ⟨ρ₁, fr1, hp₁, S₁, I₁, e⟩
  cases k with
  | zero => cases e
  | succ k =>
    rcases whileX_succ e with ⟨h, e1, r⟩ | ⟨e1, rfl, rfl⟩
    · refine wpAny_mono (ht fr1 hp₁ true h ρ₁ s' e1 I₁) (fun c s₂ p => ?_) fun _ _ x => x.elim
      obtain ⟨rfl, ρ₂, S₂, R₂⟩ := p
      refine ite_t ?_
      have I₂ := I₁.step S₂ R₂
      have S12 := S₁.trans I.rh I₁.rh S₂.up
      rcases r with ⟨fr3, h3, e3, e⟩ | ⟨e3, rfl⟩ | ⟨v, e3, rfl⟩
      · refine wpAny_mono (hb fr1 h .next fr3 h3 ρ₂ s₂ e3 I₂) (fun f s₃ p => ?_) fun _ _ x => x.elim
        obtain ⟨ρ₃, S₃, R₃, F₃, rfl⟩ := p
        exact ⟨k, Nat.lt_succ_self _, ρ₃, fr3, h3, S12.trans I.rh R₂ S₃, I₂.stepX S₃ R₃ F₃, e⟩
      · refine wpAny_mono (hb fr1 h .brk fr' hp' ρ₂ s₂ e3 I₂) (fun f s₃ p => ?_) fun _ _ x => x.elim
        obtain ⟨ρ₃, S₃, R₃, F₃, rfl⟩ := p
        exact ⟨ρ₃, S12.trans I.rh R₂ S₃, R₃, F₃, rfl⟩
      · refine wpAny_mono (hb fr1 h _ fr' hp' ρ₂ s₂ e3 I₂) (fun f s₃ p => ?_) fun _ _ x => x.elim
        obtain ⟨ρ₃, S₃, R₃, F₃, u, rfl, r⟩ := p
        exact ⟨ρ₃, S12.trans I.rh R₂ S₃, R₃, F₃, u, rfl, r⟩
    · refine wpAny_mono (ht _ hp₁ false _ ρ₁ s' e1 I₁) (fun c s₂ p => ?_) fun _ _ x => x.elim
      obtain ⟨rfl, ρ₂, S₂, R₂⟩ := p
      refine ite_f ?_
      exact wpAny_execs_nil ⟨ρ₂, S₁.trans I.rh I₁.rh S₂.up, R₂, (I₁.step S₂ R₂).fr, rfl⟩

noncomputable def forX (g : AsF) (b : ExF) : List V → ExF
  | [] => nilX
  | v :: vs => fun fr hp => ob2 (g v fr hp) fun fr1 h1 => (match b fr1 h1 with
      | some (.next, fr2, h2) => forX g b vs fr2 h2
      | some (.brk, fr2, h2) => some (.next, fr2, h2)
      | r => r)
theorem Step.imm_at {ρ ρ' : List Addr} {hp hp' : Hp} {wr : List Addr} {s s' : Shared} (R : RH ρ hp s.heap) (R' : RH ρ' hp' s'.heap) (S : Step ρ hp ρ' hp' wr s s') {b : Addr} {o : Obj} (e : s.heap.get? b = some o)
    (m : ∀ (j : Nat) (x : O), ρ[j]? = some b → hp[j]? = some x → x.mut = false) : ∀ (j : Nat) (x : O), ρ'[j]? = some b → hp'[j]? = some x → x.mut = false := by
  intro j x ej ex
  by_cases hj : j < ρ.length
  · have q1 : ρ[j]? = some ρ[j] := by simp [hj]
    have e0 := pre_get S.ext q1
    rw [ej] at e0
    rw [← Option.some.inj e0] at q1
    obtain ⟨x0, h0⟩ := R.obj q1
    have q := m j x0 q1 h0
    have := S.imm j x0 h0 q
    rw [ex] at this; cases this
    exact q
  · exfalso
    rcases S.new b (List.mem_of_getElem? ej) with h | h
    · obtain ⟨i, ei⟩ := List.getElem?_of_mem h
      have := nodup_idx R'.nd (pre_get S.ext ei) ej
      subst this
      exact hj (List.getElem?_eq_some_iff.mp ei).1
    · rw [e] at h; cases h
theorem Step.unwrI {ρ ρ' : List Addr} {hp hp' : Hp} {wr : List Addr} {I : Addr} {s s' : Shared} (S : Step ρ hp ρ' hp' (I :: wr) s s') (h : s.heap.get? I = none) : Step ρ hp ρ' hp' wr s s' :=
  ⟨S.sh, fun b o e n m => S.keep b o e (fun q => by
    rcases List.mem_cons.mp q with rfl | q
    · rw [h] at e; cases e
    · exact n q) m, S.there, S.ext, S.new, S.imm⟩

structure ItOk (W : Wd) (Γ : Fm) (I : Addr) (fp : List Addr) (ρ : List Addr) (hp : Hp) (s : Shared) : Prop where
  ni : I ∉ ρ
  gi : W.g.get? I = none
  fp : ∀ b ∈ fp, b ∉ Γ.wr ∧ (∃ o, s.heap.get? b = some o) ∧ ∀ (j : Nat) (x : O), ρ[j]? = some b → hp[j]? = some x → x.mut = false
theorem chg_step {I c : Addr} {fp : List Addr} {ρ : List Addr} {fr : Sl} {hp : Hp} {s : Shared} {h : Heap} {t : Nat} (J : Inv W d Γ ρ fr hp s) (K : ItOk W Γ I fp ρ hp s) (nr : c ∉ ρ) (nw : c ∉ Γ.wr) (ng : W.g.get? c = none) (hth : ∃ o, h.get? c = some o)
    (k : ∀ b o, b ≠ c → s.heap.get? b = some o → h.get? b = some o) :
    Step ρ hp ρ hp [c] s { s with heap := h, toks := t } ∧ Inv W d Γ ρ fr hp { s with heap := h, toks := t } ∧ ItOk W Γ I fp ρ hp { s with heap := h, toks := t } := by
  have th : ∀ b o, s.heap.get? b = some o → ∃ o', h.get? b = some o' := fun b o e => by
    by_cases hb : b = c
    · subst hb; exact hth
    · exact ⟨o, k b o hb e⟩
  refine ⟨⟨⟨_, _, rfl⟩, fun b o e n _ => k b o (fun q => n (q ▸ List.mem_cons_self)) e, th, List.prefix_refl _, fun _ h => .inl h, fun _ _ e _ => e⟩, ?_, ⟨K.ni, K.gi, fun b hb => ⟨(K.fp b hb).1, let ⟨o, e⟩ := (K.fp b hb).2.1; th b o e, (K.fp b hb).2.2⟩⟩⟩
  exact ⟨J.ok, J.rh.keeps fun a ha x e => k a x (fun q => nr (q ▸ ha)) e, J.fr.keeps (List.prefix_refl _) fun a ha o e => k a o (fun q => nw (q ▸ ha)) e,
    fun b o e => k b o (fun q => by rw [q, ng] at e; cases e) (J.base b o e), J.sep⟩
theorem it_step {I : Addr} {fp : List Addr} {ρ : List Addr} {fr : Sl} {hp : Hp} {s : Shared} {h : Heap} {t : Nat} (J : Inv W d Γ ρ fr hp s) (K : ItOk W Γ I fp ρ hp s) (hI : I ∈ fp) (hth : ∃ o, h.get? I = some o) (k : ∀ b o, b ∉ [I] → s.heap.get? b = some o → h.get? b = some o) :
    Step ρ hp ρ hp [I] s { s with heap := h, toks := t } ∧ Inv W d Γ ρ fr hp { s with heap := h, toks := t } ∧ ItOk W Γ I fp ρ hp { s with heap := h, toks := t } :=
  chg_step J K K.ni (K.fp I hI).1 K.gi hth fun b o hb e => k b o (fun q => hb (List.mem_singleton.mp q)) e
theorem ItOk.step {I : Addr} {fp : List Addr} {ρ ρ' : List Addr} {hp hp' : Hp} {wr : List Addr} {s s' : Shared} (K : ItOk W Γ I fp ρ hp s) (hI : I ∈ fp) (R : RH ρ hp s.heap) (R' : RH ρ' hp' s'.heap) (S : Step ρ hp ρ' hp' wr s s') : ItOk W Γ I fp ρ' hp' s' := by
  refine ⟨fun m => ?_, K.gi, fun b hb => ?_⟩
  · rcases S.new I m with h | h
    · exact K.ni h
    · obtain ⟨o, e⟩ := (K.fp I hI).2.1; rw [h] at e; cases e
  · obtain ⟨a1, ⟨o, e⟩, a3⟩ := K.fp b hb
    exact ⟨a1, S.there b o e, S.imm_at R R' e a3⟩

theorem Step.fin {ρ ρ' : List Addr} {hp hp' : Hp} {wr : List Addr} {I : Addr} {s s' : Shared} {h : Heap} {t : Nat} (S : Step ρ hp ρ' hp' wr s s') (hn : s.heap.get? I = none) (k : ∀ b o, b ∉ [I] → s'.heap.get? b = some o → h.get? b = some o) :
    Step ρ hp ρ' hp' wr s { s' with heap := h, toks := t } := by
  have ne : ∀ b o, s.heap.get? b = some o → b ∉ [I] := fun b o e q => by rw [List.mem_singleton.mp q, hn] at e; cases e
  refine ⟨?_, fun b o e n m => k b o (ne b o e) (S.keep b o e n m), fun b o e => ?_, S.ext, S.new, S.imm⟩
  · obtain ⟨h', t', rfl⟩ := S.sh; exact ⟨h, t, rfl⟩
  · obtain ⟨o', e'⟩ := S.there b o e; exact ⟨o', k b o' (ne b o e) e'⟩
inductive FS2 (g : AsF) (b : ExF) (vs : List V) (fr3 : Sl) (h3 : Hp) (fl : Fl) (fr' : Sl) (hp' : Hp) : Prop
  | next (fr4 : Sl) (h4 : Hp) (e4 : b fr3 h3 = some (.next, fr4, h4)) (e : forX g b vs fr4 h4 = some (fl, fr', hp')) : FS2 g b vs fr3 h3 fl fr' hp'
  | brk (e4 : b fr3 h3 = some (.brk, fr', hp')) (hf : fl = .next) : FS2 g b vs fr3 h3 fl fr' hp'
  | ret (v : V) (e4 : b fr3 h3 = some (.ret v, fr', hp')) (hf : fl = .ret v) : FS2 g b vs fr3 h3 fl fr' hp'
inductive FS1 (g : AsF) (b : ExF) (v : V) (vs : List V) (fr : Sl) (hp : Hp) (fl : Fl) (fr' : Sl) (hp' : Hp) : Prop
  | mk (fr3 : Sl) (h3 : Hp) (e3 : g v fr hp = some (fr3, h3)) (r : FS2 g b vs fr3 h3 fl fr' hp') : FS1 g b v vs fr hp fl fr' hp'
theorem forX_cons {g : AsF} {b : ExF} {v : V} {vs : List V} {fr : Sl} {hp : Hp} {fl : Fl} {fr' : Sl} {hp' : Hp} (e : forX g b (v :: vs) fr hp = some (fl, fr', hp')) : FS1 g b v vs fr hp fl fr' hp' := by
  unfold forX at e
  refine ob2_elim e fun fr3 h3 e3 e => ?_
  refine ⟨fr3, h3, e3, ?_⟩
  split at e
  · rename_i fr4 h4 e4
    exact .next fr4 h4 e4 e
  · rename_i fr4 h4 e4
    cases e
    exact .brk e4 rfl
  · rename_i hn1 hn2
    cases fl with
    | next => exact absurd e (hn1 _ _)
    | brk => exact absurd e (hn2 _ _)
    | ret v => exact .ret v e rfl
inductive ForI (W : Wd) (d : Nat) (Γ : Fm) (g : AsF) (b : ExF) (vs : List V) (n : Nat) (fl : Fl) (fr' : Sl) (hp' : Hp) (I : Addr) (fp : List Addr) (St : Nat → Heap → Prop) (ρ : List Addr) (hp : Hp) (s : Shared) (k : Nat) (s' : Shared) : Prop
  | mk (ρ₁ : List Addr) (fr₁ : Sl) (hp₁ : Hp) (i : Nat) (S : Step ρ hp ρ₁ hp₁ (I :: Γ.wr) s s') (J : Inv W d Γ ρ₁ fr₁ hp₁ s') (K : ItOk W Γ I fp ρ₁ hp₁ s') (st : St i s'.heap) (e : forX g b (vs.drop i) fr₁ hp₁ = some (fl, fr', hp')) (hi : i ≤ n) (hk : k = n + 1 - i) : ForI W d Γ g b vs n fl fr' hp' I fp St ρ hp s k s'
theorem for_core {I : Addr} {fp : List Addr} {P : Nat → Value → Prop} {St : Nat → Heap → Prop} {vs : List V} {n : Nat} (WW : Walks W.prog W.w Γ.A I fp [I] n P St) (hn : n = vs.length) {target : Expr} {body : List Stmt} {g : AsF} {b : ExF}
    (hg : AsM W d Γ (assign target Γ.env) g) (hb : StM W d Γ body b) {ρ : List Addr} {fr : Sl} {hp : Hp} {s : Shared} {fl : Fl} {fr' : Sl} {hp' : Hp} (e : forX g b vs fr hp = some (fl, fr', hp')) (J : Inv W d Γ ρ fr hp s)
    {ρ₀ : List Addr} {hp₀ : Hp} {s₀ : Shared} (S₀ : Step ρ₀ hp₀ ρ hp Γ.wr s₀ s) (R₀ : RH ρ₀ hp₀ s₀.heap) (n₀ : s₀.heap.get? I = none)
    (K : ItOk W Γ I fp ρ hp s) (hst : St 0 s.heap) (hth : ∀ i h, St i h → ∃ o, h.get? I = some o) (hP : ∀ (i : Nat) (u : Value) (v : V), P i u → vs[i]? = some v → VR ρ v u) {R : Result → Shared → Prop}
    (ht : ∀ v, letOwnedTupleGo target (.ref I) v = pure ()) (hR : ∀ f s' ρ', Step ρ₀ hp₀ ρ' hp' Γ.wr s₀ s' → RH ρ' hp' s'.heap → FR Γ ρ' fr' s'.heap → FlR ρ' fl f → R (.ok f) s') :
    codeAny (model W.prog W.w) Γ.A (.forLoop target (.ref I) body [] Γ.env) R s := by
  have hI : I ∈ fp := WW.sub I (by simp)
  have up : ∀ {ρ' : List Addr} {hp' : Hp} {s' : Shared}, Step ρ hp ρ' hp' (I :: Γ.wr) s s' → Step ρ₀ hp₀ ρ' hp' Γ.wr s₀ s' := fun S => ((S₀.weaken fun _ h => List.mem_cons_of_mem _ h).trans R₀ J.rh S).unwrI n₀
  refine codeAny_forLoop (ForI W d Γ g b vs n fl fr' hp' I fp St ρ hp s) ?_ (n + 1)
    ⟨ρ, fr, hp, 0, .refl, J, K, hst, e, Nat.zero_le _, rfl⟩ ht
  rintro k s' ⟨ρ₁, fr₁, hp₁, i, S₁, J₁, K₁, st, e, hi, rfl⟩
  by_cases hlt : i < n
  · have hv : vs[i]? = some vs[i] := by simp [hn ▸ hlt]
    have hd : vs.drop i = vs[i] :: vs.drop (i + 1) := by rw [List.drop_eq_getElem_cons (hn ▸ hlt)]
    rw [hd] at e
    refine WW.item i s' _ _ hlt st fun u h₂ t₂ hu st₂ k₂ => ?_
    obtain ⟨S₂, J₂, K₂⟩ := it_step (t := t₂) J₁ K₁ hI (hth _ _ st₂) k₂
    have S12 := S₁.trans J.rh J₁.rh (S₂.weaken fun _ h => by rw [List.mem_singleton.mp h]; exact List.mem_cons_self)
    obtain ⟨fr3, h3, e3, r⟩ := forX_cons e
    · skip
      refine noE_mono (wpAny_mono (hg _ fr₁ hp₁ fr3 h3 ρ₁ _ u e3 J₂ ((hP i u _ hu hv).mono S₁.ext)) (fun _ s₃ p => noE_mono ?_) fun _ _ x => x)
      obtain ⟨ρ₃, S₃, R₃, F₃⟩ := p
      have J₃ := J₂.stepX S₃ R₃ F₃
      have S13 := S12.trans J.rh J₂.rh (S₃.weaken fun _ h => List.mem_cons_of_mem _ h)
      have K₃ := K₂.step hI J₂.rh R₃ S₃
      have kp3 : ∀ b ∈ fp, ∀ o, h₂.get? b = some o → s₃.heap.get? b = some o := fun b hb o e => S₃.keep b o e (K₂.fp b hb).1 (K₂.fp b hb).2.2
      rcases r with ⟨fr4, h4, e4, e⟩ | ⟨e4, rfl⟩ | ⟨v, e4, rfl⟩
      · skip
        refine wpAny_mono (hb fr3 h3 .next fr4 h4 ρ₃ s₃ e4 J₃) (fun f s₄ p => ?_) fun _ _ x => x
        obtain ⟨ρ₄, S₄, R₄, F₄, rfl⟩ := p
        exact ⟨n + 1 - (i + 1), dec_lt hlt, ρ₄, fr4, h4, i + 1, S13.trans J.rh R₃ (S₄.weaken fun _ h => List.mem_cons_of_mem _ h), J₃.stepX S₄ R₄ F₄, K₃.step hI R₃ R₄ S₄,
          WW.frame _ _ _ st₂ fun b hb o e => S₄.keep b o (kp3 b hb o e) (K₃.fp b hb).1 (K₃.fp b hb).2.2, e, hlt, rfl⟩
      · skip
        refine wpAny_mono (hb fr3 h3 .brk fr' hp' ρ₃ s₃ e4 J₃) (fun f s₄ p => ?_) fun _ _ x => x
        obtain ⟨ρ₄, S₄, R₄, F₄, rfl⟩ := p
        exact hR .next s₄ ρ₄ (up (S13.trans J.rh R₃ (S₄.weaken fun _ h => List.mem_cons_of_mem _ h))) R₄ F₄ rfl
      · refine wpAny_mono (hb fr3 h3 _ fr' hp' ρ₃ s₃ e4 J₃) (fun f s₄ p => ?_) fun _ _ x => x
        obtain ⟨ρ₄, S₄, R₄, F₄, w, rfl, r⟩ := p
        exact hR _ s₄ ρ₄ (up (S13.trans J.rh R₃ (S₄.weaken fun _ h => List.mem_cons_of_mem _ h))) R₄ F₄ ⟨w, rfl, r⟩
  · have : i = n := at_end hi hlt
    subst this
    have : vs.drop i = [] := List.drop_eq_nil_of_le (Nat.le_of_eq hn.symm)
    rw [this] at e
    cases e
    refine WW.done s' _ _ st fun h₂ t₂ k₂ => wpAny_execs_nil (hR .next _ ρ₁ ((up S₁).fin n₀ k₂) (J₁.rh.keeps fun a ha x e => k₂ a x (fun q => K₁.ni (List.mem_singleton.mp q ▸ ha)) e) (J₁.fr.keeps (List.prefix_refl _) fun a ha o e => k₂ a o (fun q => (K₁.fp I hI).1 (List.mem_singleton.mp q ▸ ha)) e) rfl)

noncomputable def rangeVs (a c : Int) (n : Nat) : List V := (List.range n).map fun (i : Nat) => V.int (a + i * c)
noncomputable def walkOf (hp : Hp) (v : V) : Option (List V × Hp) := match v with
  | .str x => some (x.map fun c => V.str [c], hp)
  | .own j => (match hp[j]? with
    | some (.list vs) => some (vs, hp.set j (.frz vs))
    | some (.frz vs) => some (vs, hp)
    | some (.tup vs) => some (vs, hp)
    | some (.rng a b c) => (match Builtin.Range.small a b c && decide (0 ≤ Builtin.Range.rangeSize a b c) with
      | true => some (rangeVs a c (Builtin.Range.rangeSize a b c).toNat, hp)
      | false => none)
    | _ => none)
  | _ => none
noncomputable def thaw (hp : Hp) (v : V) (h2 : Hp) : Hp := match v with
  | .own j => (match hp[j]? with
    | some (.list vs) => h2.set j (.list vs)
    | _ => h2)
  | _ => h2
noncomputable def forE (fi : EvF) (g : AsF) (b : ExF) : ExF := fun fr hp => ob2 (fi fr hp) fun v h1 => (ob2 (walkOf h1 v) fun vs hf => (ob3 (forX g b vs fr hf) fun fl fr' h2 => some (fl, fr', thaw h1 v h2)))
end


structure Walked (W : Wd) (d : Nat) (Γ : Fm) (ρ : List Addr) (fr : Sl) (h1 hf : Hp) (vs : List V) (s : Shared) (I : Addr) (fp : List Addr) (P : Nat → Value → Prop) (St : Nat → Heap → Prop) (s₂ : Shared) : Prop where
  ww : Walks W.prog W.w Γ.A I fp [I] vs.length P St
  step : Step ρ h1 ρ hf [] s s₂
  rf : RH ρ hf s.heap
  still : Step ρ hf ρ hf [] s s₂
  inv : Inv W d Γ ρ fr hf s₂
  it : ItOk W Γ I fp ρ hf s₂
  st : St 0 s₂.heap
  th : ∀ i h, St i h → ∃ o, h.get? I = some o
  hP : ∀ (i : Nat) (u : Value) (v : V), P i u → vs[i]? = some v → VR ρ v u
  n0 : s.heap.get? I = none
  go : ∀ (target : Expr) (i : Nat) (s' : Shared) (v : Value) (Q' : Unit → Shared → Prop) (E : Value → Shared → Prop), P i v → St (i + 1) s'.heap → Q' () s' → wpAny (model W.prog W.w) Γ.A (letOwnedTupleGo target (.ref I) v) Q' E s'

section
variable {W : Wd} {d : Nat} {Γ : Fm}

theorem go_fields {M : Model} {A : Around} {E : Value → Shared → Prop} {target : Expr} {I : Addr} {v : Value} {Q' : Unit → Shared → Prop} {s' : Shared} {o : Obj} {T : String} {fs : Array Value} (ho : s'.heap.get? I = some o) (hc : o.cls = .type T) (hd : o.data = .fields fs)
    (hT : ["enumerate", "zip", "dict_itemiterator", "dict_reverseitemiterator", "odict_iterator", "itertools.zip_longest", "itertools.pairwise"].contains T = false) (h : Q' () s') :
    wpAny M A (letOwnedTupleGo target (.ref I) v) Q' E s' := by
  unfold letOwnedTupleGo
  cases target <;> first
    | exact wpAny_pure h
    | (cases v <;> first
        | exact wpAny_pure h
        | (refine wpAny_bind (wpAny_load ho ?_)
           rw [hc, hd]
           simp only [hT, Bool.false_and, Bool.false_eq_true, if_false]
           exact wpAny_pure h))

theorem walked_push {ρ : List Addr} {fr : Sl} {h1 hf : Hp} {vs : List V} {s : Shared} {P : Nat → Value → Prop} {St : Nat → Heap → Prop} {o : Obj} {fp : List Addr} (I : Inv W d Γ ρ fr h1 s)
    (ww : Walks W.prog W.w Γ.A s.heap.objs.size fp [s.heap.objs.size] vs.length P St) (of : o.isFreed = false) (st : St 0 (s.heap.push o)) (th : ∀ i h, St i h → ∃ o, h.get? s.heap.objs.size = some o)
    (hP : ∀ (i : Nat) (u : Value) (v : V), P i u → vs[i]? = some v → VR ρ v u)
    (go : ∀ (target : Expr) (i : Nat) (s' : Shared) (v : Value) (Q' : Unit → Shared → Prop) (E : Value → Shared → Prop), P i v → St (i + 1) s'.heap → Q' () s' → wpAny (model W.prog W.w) Γ.A (letOwnedTupleGo target (.ref s.heap.objs.size) v) Q' E s')
    (hlen : hf.length = h1.length) (hob : ∀ (j : Nat) (x : O) (a : Addr), hf[j]? = some x → ρ[j]? = some a → OR ρ s.heap a x) (himm : ∀ (j : Nat) (x : O), h1[j]? = some x → x.mut = false → hf[j]? = some x)
    (hfp : ∀ b ∈ fp, b = s.heap.objs.size ∨ (b ∈ ρ ∧ ∀ (j : Nat) (x : O), ρ[j]? = some b → hf[j]? = some x → x.mut = false)) :
    Walked W d Γ ρ fr h1 hf vs s s.heap.objs.size fp P St { s with heap := s.heap.push o } := by
  have k : ∀ b x, s.heap.get? b = some x → (s.heap.push o).get? b = some x := fun b x e => Heap.get?_push_of_some _ e
  have R : RH ρ hf (s.heap.push o) := ⟨by rw [hlen]; exact I.rh.len, I.rh.nd, fun j x a e q => (hob j x a e q).keep (k a) (List.prefix_refl _)⟩
  have S : Step ρ h1 ρ hf [] s { s with heap := s.heap.push o } := ⟨⟨_, s.toks, rfl⟩, fun b x e _ _ => k b x e, fun b x e => ⟨x, k b x e⟩, List.prefix_refl _, fun _ h => .inl h, himm⟩
  have nr : s.heap.objs.size ∉ ρ := fun m => Nat.lt_irrefl _ (I.rh.lt m)
  have J := I.step S R
  have ng : W.g.get? s.heap.objs.size = none := by
    cases e : W.g.get? s.heap.objs.size with
    | none => rfl
    | some x => exact absurd (Heap.lt_size (I.base _ _ e)) (Nat.lt_irrefl _)
  have nw : s.heap.objs.size ∉ Γ.wr := fun m => by obtain ⟨x, e⟩ := I.fr.wr_there m; exact Nat.lt_irrefl _ (Heap.lt_size e)
  refine ⟨ww, S, ⟨by rw [hlen]; exact I.rh.len, I.rh.nd, hob⟩, .kept (t := s.toks) k, J, ⟨nr, ng, fun b hb => ?_⟩, st, th, hP, get_size_none _, go⟩
  rcases hfp b hb with rfl | ⟨hm, q⟩
  · exact ⟨nw, ⟨o, Heap.get?_push_size _ of⟩, fun j x ej _ => absurd (List.mem_of_getElem? ej) nr⟩
  · obtain ⟨j, ej⟩ := List.getElem?_of_mem hm
    obtain ⟨x, ex⟩ := I.rh.obj ej
    obtain ⟨o', e'⟩ := (I.rh.ob j x b ex ej).there
    exact ⟨(I.sep b hm).1, ⟨o', k b o' e'⟩, q⟩

theorem rangeVs_get {a c : Int} {n i : Nat} {v : V} (h : (rangeVs a c n)[i]? = some v) : v = .int (a + i * c) := by
  unfold rangeVs at h
  rw [List.getElem?_map] at h
  cases q : (List.range n)[i]? with
  | none => rw [q] at h; cases h
  | some k =>
    rw [q] at h
    have hi : i < n := by have := (List.getElem?_eq_some_iff.mp q).1; simpa using this
    rw [List.getElem?_range hi] at q
    cases q; cases h; rfl
theorem go_str {M : Model} {A : Around} {E : Value → Shared → Prop} {target : Expr} {a : Addr} {x : Str} {t : Tok} {Q' : Unit → Shared → Prop} {s' : Shared} (h : Q' () s') : wpAny M A (letOwnedTupleGo target (.ref a) (.str x t)) Q' E s' := by
  cases target <;> exact wpAny_pure h
theorem go_int {M : Model} {A : Around} {E : Value → Shared → Prop} {target : Expr} {a : Addr} {x : Int} {t : Tok} {Q' : Unit → Shared → Prop} {s' : Shared} (h : Q' () s') : wpAny M A (letOwnedTupleGo target (.ref a) (.int x t)) Q' E s' := by
  cases target <;> exact wpAny_pure h
theorem vrs_at {ρ : List Addr} {vs : List V} {us : Array Value} (rs : VRs ρ vs us.toList) : ∀ (i : Nat) (u : Value) (v : V), us[i]? = some u → vs[i]? = some v → VR ρ v u := by
  intro i u v hu hv
  obtain ⟨u', e', r'⟩ := rs.2 i v hv
  have : us.toList[i]? = some u := by simpa using hu
  rw [this] at e'; cases e'
  exact r'
theorem walk_iter {ρ : List Addr} {fr : Sl} {h1 hf : Hp} {v : V} {vs : List V} {s : Shared} {u : Value} {Q : Value → Shared → Prop} (e : walkOf h1 v = some (vs, hf)) (I : Inv W d Γ ρ fr h1 s) (r : VR ρ v u)
    (hQ : ∀ (I : Addr) (fp : List Addr) (P : Nat → Value → Prop) (St : Nat → Heap → Prop) (s₂ : Shared), Walked W d Γ ρ fr h1 hf vs s I fp P St s₂ → Q (.ref I) s₂) : wpAny (model W.prog W.w) Γ.A (pyIter u) Q NoE s := by
  have hh := I.ok.hand
  unfold walkOf at e
  split at e
  · rename_i x
    cases e
    obtain ⟨t, rfl⟩ := r
    have hP : ∀ (i : Nat) (u : Value) (v : V), SignAt ⟨x.toArray⟩ i u → (x.map fun c => V.str [c])[i]? = some v → VR ρ v u := by
      rintro i u v ⟨c, t', hc, rfl⟩ hv
      rw [List.getElem?_map] at hv
      have : x[i]? = some c := by simpa using hc
      rw [this] at hv
      cases hv
      exact ⟨t', rfl⟩
    have hlen : (⟨x.toArray⟩ : Str).cps.size = (x.map fun c => V.str [c]).length := by simp
    cases ha : (⟨x.toArray⟩ : Str).cps.all (· < 128)
    · refine wpAny_pyIter_wide ha (hQ _ [s.heap.objs.size] _ _ _ (walked_push I (hlen ▸ Walks.strWide hh _ ⟨x.toArray⟩ t) rfl ⟨_, Heap.get?_push_size _ rfl, rfl, rfl⟩ (fun i h z => let ⟨o, ho, _⟩ := z; ⟨o, ho⟩) hP ?_ rfl (fun j x a e q => I.rh.ob j x a e q) (fun _ _ e _ => e) (fun b hb => .inl (List.mem_singleton.mp hb))))
      rintro target i s' v Q' E ⟨c, t', _, rfl⟩ _ h
      exact go_str h
    · refine wpAny_pyIter_ascii ha (hQ _ [s.heap.objs.size] _ _ _ (walked_push I (hlen ▸ Walks.strAscii hh _ ⟨x.toArray⟩ t) rfl ⟨_, Heap.get?_push_size _ rfl, rfl, rfl⟩ (fun i h z => let ⟨o, ho, _⟩ := z; ⟨o, ho⟩) hP ?_ rfl (fun j x a e q => I.rh.ob j x a e q) (fun _ _ e _ => e) (fun b hb => .inl (List.mem_singleton.mp hb))))
      rintro target i s' v Q' E ⟨c, t', _, rfl⟩ _ h
      exact go_str h
  · rename_i j
    obtain ⟨a, ea, rfl⟩ := r
    have am : a ∈ ρ := List.mem_of_getElem? ea
    have hne : a ≠ s.heap.objs.size := Nat.ne_of_lt (I.rh.lt am)
    have lst : ∀ (us : Array Value) (n : Nat), s.heap.get? a = some { cls := .type "list", data := .seq us n } → VRs ρ vs us.toList → hf.length = h1.length → (∀ (j : Nat) (x : O) (a : Addr), hf[j]? = some x → ρ[j]? = some a → OR ρ s.heap a x) →
        (∀ (j : Nat) (x : O), h1[j]? = some x → x.mut = false → hf[j]? = some x) → (∃ x, hf[j]? = some x ∧ x.mut = false) → wpAny (model W.prog W.w) Γ.A (pyIter (.ref a)) Q NoE s := by
      intro us n hg rs hl ho hi hx
      have hL : s.heap.IsList a us := ⟨_, hg, rfl, n, rfl⟩
      have hsz : us.size = vs.length := by rw [rs.1]; simp
      refine wpAny_pyIter_list hL (hQ _ [s.heap.objs.size, a] _ _ _ (walked_push I (hsz ▸ Walks.list hh _ a hne us) rfl ⟨⟨_, Heap.get?_push_size _ rfl, rfl, rfl⟩, hL.at fun o e => Heap.get?_push_of_some _ e⟩ (fun i h z => let ⟨o, ho, _⟩ := z.1; ⟨o, ho⟩) ?_ ?_ hl ho hi ?_))
      · exact vrs_at rs
      · intro target i s' v Q' E _ st h
        obtain ⟨⟨o, ho, hc, hd⟩, _⟩ := st
        exact go_fields ho hc hd (by decide) h
      · intro b hb
        rcases List.mem_cons.mp hb with rfl | hb
        · exact .inl rfl
        · cases List.mem_singleton.mp hb
          refine .inr ⟨am, fun k x ek ex => ?_⟩
          have := nodup_idx I.rh.nd ea ek
          subst this
          obtain ⟨x', ex', hm⟩ := hx
          rw [ex] at ex'; cases ex'; exact hm
    split at e
    · rename_i ws hj
      obtain ⟨rfl, rfl⟩ := si2 e
      have hjl : j < h1.length := (List.getElem?_eq_some_iff.mp hj).1
      obtain ⟨us, n, hg, rs⟩ := I.rh.ob j _ a hj ea
      refine lst us n hg rs (by simp) (fun k x b ek eb => ?_) (fun k x ek hm => ?_) ⟨_, List.getElem?_set_self hjl, rfl⟩
      · by_cases q : j = k
        · subst q
          rw [List.getElem?_set_self hjl] at ek
          cases ek
          rw [ea] at eb; cases eb
          exact ⟨us, n, hg, rs⟩
        · rw [List.getElem?_set_ne q] at ek
          exact I.rh.ob k x b ek eb
      · by_cases q : j = k
        · subst q
          rw [hj] at ek; cases ek; cases hm
        · rw [List.getElem?_set_ne q]; exact ek
    · rename_i ws hj
      obtain ⟨rfl, rfl⟩ := si2 e
      obtain ⟨us, n, hg, rs⟩ := I.rh.ob j _ a hj ea
      exact lst us n hg rs rfl (fun k x b => I.rh.ob k x b) (fun _ _ e _ => e) ⟨_, hj, rfl⟩
    · rename_i ws hj
      cases e
      obtain ⟨us, hg, rs⟩ := I.rh.ob j _ a hj ea
      have hL : s.heap.IsTuple a us := ⟨_, hg, rfl, _, rfl⟩
      have hsz : us.size = vs.length := by rw [rs.1]; simp
      refine wpAny_pyIter_tuple hL (hQ _ [s.heap.objs.size, a] _ _ _ (walked_push I (hsz ▸ Walks.tuple hh _ a hne us) rfl ⟨⟨_, Heap.get?_push_size _ rfl, rfl, rfl⟩, hL.at fun o e => Heap.get?_push_of_some _ e⟩ (fun i h z => let ⟨o, ho, _⟩ := z.1; ⟨o, ho⟩) ?_ ?_ rfl (fun k x b => I.rh.ob k x b) (fun _ _ e _ => e) ?_))
      · exact vrs_at rs
      · intro target i s' v Q' E _ st h
        exact letGo_tupleiter st.1 h
      · intro b hb
        rcases List.mem_cons.mp hb with rfl | hb
        · exact .inl rfl
        · cases List.mem_singleton.mp hb
          refine .inr ⟨am, fun k x ek ex => ?_⟩
          have := nodup_idx I.rh.nd ea ek
          subst this
          rw [ex] at hj; cases hj; rfl
    · rename_i x y z hj
      split at e
      · rename_i hs
        obtain ⟨rfl, rfl⟩ := si2 e
        obtain ⟨t, u, w, hg⟩ := I.rh.ob j _ a hj ea
        obtain ⟨hs, hz⟩ := Bool.and_eq_true_iff.mp hs
        have hnn : 0 ≤ Builtin.Range.rangeSize x y z := of_decide_eq_true hz
        have hlen : (rangeVs x z (Builtin.Range.rangeSize x y z).toNat).length = (Builtin.Range.rangeSize x y z).toNat := by simp [rangeVs]
        have WR := Walks.range (prog := W.prog) (w := W.w) hh s.heap.objs.size x z (Builtin.Range.rangeSize x y z).toNat
        rw [← hlen] at WR
        refine wpAny_pyIter_range (show IsRange s.heap a x y z t u w from hg) hs (hQ _ [s.heap.objs.size] _ _ _ (walked_push I WR rfl ?_ (fun i h z => ⟨_, z⟩) ?_ ?_ rfl (fun k x b => I.rh.ob k x b) (fun _ _ e _ => e) (fun b hb => .inl (List.mem_singleton.mp hb))))
        · show IsRangeIter _ _ _ _ _
          rw [hlen, show ((Builtin.Range.rangeSize x y z).toNat : Int) - (0 : Nat) = Builtin.Range.rangeSize x y z by omega, show x + ((0 : Nat) : Int) * z = x by simp]
          exact Heap.get?_push_size _ rfl
        · rintro i u v ⟨t, rfl⟩ hv
          rw [rangeVs_get hv]
          exact ⟨t, rfl⟩
        · rintro target i s' v Q' E ⟨t, rfl⟩ _ h
          exact go_int h
      · exact nn e
    · exact nn e
  · exact nn e

theorem thaw_step {ρ ρ' : List Addr} {h1 h2 : Hp} {wr : List Addr} {s s' : Shared} {j : Nat} {vs : List V} (hj : h1[j]? = some (.list vs)) (S : Step ρ (h1.set j (.frz vs)) ρ' h2 wr s s') (R : RH ρ' h2 s'.heap) :
    Step ρ h1 ρ' (h2.set j (.list vs)) wr s s' ∧ RH ρ' (h2.set j (.list vs)) s'.heap := by
  have hjl : j < h1.length := (List.getElem?_eq_some_iff.mp hj).1
  have hfz : h2[j]? = some (.frz vs) := S.imm j _ (List.getElem?_set_self hjl) rfl
  refine ⟨⟨S.sh, fun b o e n m => S.keep b o e n fun k x ek ex => ?_, S.there, S.ext, S.new, fun k x e q => ?_⟩, ?_⟩
  · by_cases z : j = k
    · subst z; rw [List.getElem?_set_self hjl] at ex; cases ex; rfl
    · rw [List.getElem?_set_ne z] at ex; exact m k x ek ex
  · by_cases z : j = k
    · subst z; rw [hj] at e; cases e; cases q
    · rw [List.getElem?_set_ne z]
      exact S.imm k x (by rw [List.getElem?_set_ne z]; exact e) q
  · refine ⟨by simp [R.len], R.nd, fun k x b ek eb => ?_⟩
    by_cases z : j = k
    · subst z
      rw [List.getElem?_set_self (List.getElem?_eq_some_iff.mp hfz).1] at ek
      cases ek
      have q : OR ρ' s'.heap b (.frz vs) := R.ob j _ b hfz eb
      exact q
    · rw [List.getElem?_set_ne z] at ek; exact R.ob k x b ek eb
theorem thawed {ρ ρ' : List Addr} {h1 hf h2 : Hp} {v : V} {vs : List V} {wr : List Addr} {s s' : Shared} (e : walkOf h1 v = some (vs, hf)) (S : Step ρ hf ρ' h2 wr s s') (R : RH ρ' h2 s'.heap) : Step ρ h1 ρ' (thaw h1 v h2) wr s s' ∧ RH ρ' (thaw h1 v h2) s'.heap := by
  unfold walkOf at e
  unfold thaw
  split at e
  · cases e; exact ⟨S, R⟩
  · split at e
    · rename_i hj
      cases e
      simp only [hj]
      exact thaw_step hj S R
    · rename_i hj; cases e; simp only [hj]; exact ⟨S, R⟩
    · rename_i hj; cases e; simp only [hj]; exact ⟨S, R⟩
    · rename_i hj
      split at e
      · cases e; simp only [hj]; exact ⟨S, R⟩
      · cases e
    · cases e
  · cases e
theorem ex_for {target iter : Expr} {body : List Stmt} {pos : Pos} {fi : EvF} {g : AsF} {b : ExF} (hi : EvM W d Γ iter fi) (hg : AsM W d Γ (assign target Γ.env) g) (hb : StM W d Γ body b)
    (hs : ∀ x, foldedSetIterable iter Γ.env x = pure x) (ht : ∀ it v, letOwnedTupleGo target it v = pure ()) : ExM W d Γ (.For target iter body [] pos) (forE fi g b) := by
  intro fr hp fl fr' hp' ρ s e I
  unfold forE at e
  refine ob2_elim e fun v h1 e1 e => ?_
  refine ob2_elim e fun vs hf e2 e => ?_
  refine ob3_elim e fun fl2 fr2 h2 e3 e => ?_
  cases e
  refine wpAny_For (wpAny_mono (hi fr hp v h1 ρ s e1 I) (fun u s₁ p => ?_) fun _ _ x => x) hs
  obtain ⟨ρ₁, S₁, R₁, r₁⟩ := p
  have I₁ := I.step S₁ R₁
  refine walk_iter e2 I₁ r₁ fun a fp P St s₂ K => ?_
  refine for_core K.ww rfl hg hb e3 K.inv (s₀ := s₁) (ρ₀ := ρ₁) (hp₀ := hf) K.still.up K.rf K.n0 K.it K.st K.th K.hP (ht _) fun f s' ρ' S R F z => ?_
  obtain ⟨S', R'⟩ := thawed e2 S R
  exact ⟨ρ', S₁.up.trans I.rh R₁ S', R', F, z⟩
end


noncomputable def AlM (W : Wd) (d : Nat) (Γ : Fm) (t : Value → Sem Unit) (g : AsF) : Prop :=
  ∀ v fr hp fr' hp' ρ s u, g v fr hp = some (fr', hp') → Inv W d Γ ρ fr hp s → VR ρ v u → wpAny (model W.prog W.w) Γ.A (t u) (fun _ s' => Step ρ hp ρ hp' [Γ.env.locals] s s' ∧ RH ρ hp' s'.heap ∧ FR Γ ρ fr' s'.heap) NoE s
noncomputable def TsM (W : Wd) (d : Nat) (Γ : Fm) (ifs : List Expr) (t : TeF) : Prop :=
  ∀ fr hp b hp' ρ s, t fr hp = some (b, hp') → Inv W d Γ ρ fr hp s →
    wpAny (model W.prog W.w) Γ.A (forIn ifs true fun c r => if r = true then do let ok ← isTrue c Γ.env (eval c Γ.env); pure (ForInStep.yield ok) else pure (ForInStep.yield r)) (TeP ρ hp b hp' s) NoE s
noncomputable def trueT : TeF := fun _ hp => some (true, hp)

section
variable {W : Wd} {d : Nat} {Γ : Fm}
theorem ts_nil : TsM W d Γ [] trueT := by
  intro fr hp b hp' ρ s e I
  obtain ⟨rfl, rfl⟩ := si2 e
  rw [List.forIn_nil]
  exact wpAny_pure ⟨rfl, ρ, .refl, I.rh⟩
theorem ts_one {c : Expr} {t : TeF} (h : TeM W d Γ c t) : TsM W d Γ [c] t := by
  intro fr hp b hp' ρ s e I
  rw [List.forIn_cons]
  simp only [if_true]
  refine wpAny_bind (wpAny_bind (wpAny_mono (h fr hp b hp' ρ s e I) (fun b' s' p => wpAny_pure ?_) fun _ _ x => x))
  dsimp only
  rw [List.forIn_nil]
  exact wpAny_pure p
theorem al_name {x : Str} (i : Nat) {pos : Pos} (hi : Γ.nm[i]? = some (x, none)) : AlM W d Γ (assign (.Name x pos) Γ.env) (setA i) := by
  intro v fr hp fr' hp' ρ s u e I hv
  obtain ⟨rfl, rfl⟩ := si2 e
  obtain ⟨hk, hd⟩ := I.ok.loc i x hi
  obtain ⟨m, hn, hm⟩ := I.fr.ns
  refine wpAny_assign_Name (wpAny_storeName_local hk hn (fun h' hn' sb => ?_) (by rw [I.ok.kind]; rfl))
  have hL : Γ.env.locals ∈ Γ.wr := List.mem_cons_self
  refine ⟨⟨⟨_, _, rfl⟩, fun b o e n _ => sameBut_keep sb (fun q => n (q ▸ List.mem_cons_self)) e, fun b o e => ?_, List.prefix_refl _, fun _ h => .inl h, fun _ _ e _ => e⟩, I.rh.keeps fun a ha x e => sameBut_keep sb (fun q => (I.sep a ha).1 (q ▸ hL)) e, ⟨_, hn', fun k y w hk' hw => ?_⟩, fun k y c hk' => ?_⟩
  · by_cases hb : b = Γ.env.locals
    · subst hb; obtain ⟨o, es, ep, h1, h2⟩ := hn'; exact ⟨o, h1⟩
    · exact ⟨o, sameBut_keep sb hb e⟩
  · by_cases q : i = k
    · subst q
      rw [hi] at hk'; cases hk'
      have : i < fr.length := by have := (List.getElem?_eq_some_iff.mp hw).1; simpa using this
      rw [List.getElem?_set_self this] at hw
      cases hw
      exact ⟨u, by simp, hv⟩
    · rw [List.getElem?_set_ne q] at hw
      have := (I.ok.ndn i k x y none none hi hk' q).1
      obtain ⟨u', a, b⟩ := hm k y w hk' hw
      exact ⟨u', by rw [if_neg (Ne.symm this)]; exact a, b⟩
  · obtain ⟨uo, hc, hv'⟩ := I.fr.cells k y c hk'
    refine ⟨uo, hc.sameBut sb (I.ok.sepc c (mem_cs hk')), fun w hw => ?_⟩
    have q : i ≠ k := fun q => by subst q; rw [hi] at hk'; cases hk'
    rw [List.getElem?_set_ne q] at hw
    exact hv' w hw
noncomputable def compX (g : AsF) (t : TeF) (f : EvF) : List V → List V → Sl → Hp → Option (List V × Hp)
  | [], acc, _, hp => some (acc, hp)
  | v :: vs, acc, fr, hp => ob2 (g v fr hp) fun fr1 h1 => (match t fr1 h1 with
      | some (true, h2) => (ob2 (f fr1 h2) fun x h3 => compX g t f vs (acc ++ [x]) fr1 h3)
      | some (false, h2) => compX g t f vs acc fr1 h2
      | none => none)
structure CompOk (Γ : Fm) (scope : Scope) (cl : List (Str × Addr)) (tg : List Str) (cp : List (Nat × Str × Addr)) : Prop where
  clos : closureFor scope Γ.env = pure cl
  nocell : ∀ y ∈ scope.names, y.2 ≠ .cell
  kind : scope.kind = .function
  names : ∀ x ∈ scope.names, x.2 = .local → scope.names.lookup x.1 = some .local
  loc : ∀ x ∈ tg, scope.names.lookup x = some .local ∧ noDebug x
  cap : ∀ p ∈ cp, Γ.nm[p.1]? = some (p.2.1, some p.2.2) ∧ ((compEnvC scope cl 0 Γ.env).kindOf p.2.1 = some .cell ∨ ((compEnvC scope cl 0 Γ.env).kindOf p.2.1 = some .free ∧ (p.2.1 == ("__classdict__" : Str)) = false)) ∧ cl.lookup p.2.1 = some p.2.2 ∧ noDebug p.2.1
  nd : (tg ++ cp.map (·.2.1)).Nodup
  ndc : (cp.map (·.1)).Nodup
noncomputable def compNm (tg : List Str) (cp : List (Nat × Str × Addr)) : List (Str × Option Addr) := tg.map (fun x => (x, none)) ++ cp.map (fun p => (p.2.1, some p.2.2))
noncomputable def Fm.comp (Γ : Fm) (scope : Scope) (cl : List (Str × Addr)) (tg : List Str) (cp : List (Nat × Str × Addr)) (C : Addr) : Fm := ⟨Γ.A, compEnvC scope cl C Γ.env, compNm tg cp⟩
noncomputable def compFr (nt : Nat) (caps : List Nat) (fr : Sl) : Sl := List.replicate nt none ++ caps.map (fun j => (fr[j]?).join)

theorem compNm_none {tg : List Str} {cp : List (Nat × Str × Addr)} {i : Nat} {x : Str} (h : (compNm tg cp)[i]? = some (x, none)) : tg[i]? = some x := by
  unfold compNm at h
  by_cases hi : i < tg.length
  · rw [List.getElem?_append_left (by simpa using hi), List.getElem?_map] at h
    cases q : tg[i]? with
    | none => rw [q] at h; cases h
    | some y => rw [q] at h; cases h; rfl
  · rw [List.getElem?_append_right (by simpa using hi), List.getElem?_map] at h
    cases q : cp[i - (tg.map (fun x => ((x, none) : Str × Option Addr))).length]? with
    | none => rw [q] at h; cases h
    | some y => rw [q] at h; cases h
theorem compNm_some {tg : List Str} {cp : List (Nat × Str × Addr)} {i : Nat} {x : Str} {c : Addr} (h : (compNm tg cp)[i]? = some (x, some c)) : ∃ k p, i = tg.length + k ∧ cp[k]? = some p ∧ p.2 = (x, c) := by
  unfold compNm at h
  by_cases hi : i < tg.length
  · rw [List.getElem?_append_left (by simpa using hi), List.getElem?_map] at h
    cases q : tg[i]? with
    | none => rw [q] at h; cases h
    | some y => rw [q] at h; cases h
  · rw [List.getElem?_append_right (by simpa using hi), List.getElem?_map, List.length_map] at h
    cases q : cp[i - tg.length]? with
    | none => rw [q] at h; cases h
    | some y => rw [q] at h; cases h; exact ⟨i - tg.length, y, by omega, q, rfl⟩
theorem compNm_name {tg : List Str} {cp : List (Nat × Str × Addr)} {i : Nat} {x : Str} {o : Option Addr} (h : (compNm tg cp)[i]? = some (x, o)) : (tg ++ cp.map (·.2.1))[i]? = some x := by
  have : (tg ++ cp.map (·.2.1)) = (compNm tg cp).map (·.1) := by unfold compNm; simp [Function.comp_def]
  rw [this, List.getElem?_map, h]; rfl
theorem nodup_ne {α : Type} {l : List α} (n : l.Nodup) {i j : Nat} {a b : α} (ei : l[i]? = some a) (ej : l[j]? = some b) (h : i ≠ j) : a ≠ b := by
  obtain ⟨hi, rfl⟩ := List.getElem?_eq_some_iff.mp ei
  obtain ⟨hj, rfl⟩ := List.getElem?_eq_some_iff.mp ej
  rcases Nat.lt_or_gt_of_ne h with q | q
  · exact List.pairwise_iff_getElem.mp n i j hi hj q
  · exact fun z => List.pairwise_iff_getElem.mp n j i hj hi q z.symm

theorem comp_ok {scope : Scope} {cl : List (Str × Addr)} {tg : List Str} {cp : List (Nat × Str × Addr)} (K : CompOk Γ scope cl tg cp) {ρ : List Addr} {fr : Sl} {hp : Hp} {s : Shared} (I : Inv W d Γ ρ fr hp s) {C : Addr} (hC : s.heap.get? C = none) :
    (Γ.comp scope cl tg cp C).Ok W d := by
  have mcs : ∀ c ∈ (Γ.comp scope cl tg cp C).cs, c ∈ Γ.cs := fun c hc => by
    obtain ⟨i, x, e⟩ := cs_mem hc
    obtain ⟨k, p, _, hp, e2⟩ := compNm_some e
    have := (K.cap p (List.mem_of_getElem? hp)).1
    rw [e2] at this
    exact mem_cs this
  refine ⟨K.kind, I.ok.glob, I.ok.blt, I.ok.hand, I.ok.room, I.ok.units, fun i x e => ?_, fun i x c e => ?_, fun i j x y c c' ei ej hij => ⟨nodup_ne K.nd (compNm_name ei) (compNm_name ej) hij, fun hc => ?_⟩, fun c hc => ?_, fun a ha => ?_⟩
  · have := K.loc x (List.mem_of_getElem? (compNm_none e))
    exact ⟨lookup_relabel_local this.1, this.2⟩
  · obtain ⟨k, p, _, hp, e2⟩ := compNm_some e
    have := (K.cap p (List.mem_of_getElem? hp)).2
    rw [e2] at this
    exact ⟨this.1, this.2.1, this.2.2⟩
  · cases c with
    | none => cases hc
    | some c =>
      cases c' with
      | none => intro z; cases z
      | some c' =>
        obtain ⟨k, p, hk, hp, e2⟩ := compNm_some ei
        obtain ⟨k', p', hk', hp', e2'⟩ := compNm_some ej
        have h1 := (K.cap p (List.mem_of_getElem? hp)).1
        have h2 := (K.cap p' (List.mem_of_getElem? hp')).1
        rw [e2] at h1; rw [e2'] at h2
        have hne : p.1 ≠ p'.1 := nodup_ne K.ndc (i := k) (j := k') (by rw [List.getElem?_map, hp]; rfl) (by rw [List.getElem?_map, hp']; rfl) (by omega)
        exact (I.ok.ndn _ _ _ _ _ _ h1 h2 hne).2 rfl
  · obtain ⟨i, x, e⟩ := cs_mem (mcs c hc)
    obtain ⟨_, ⟨o, e, _⟩, _⟩ := I.fr.cells i x c e
    exact fun z => by rw [show c = C from z, hC] at e; cases e
  · rcases List.mem_cons.mp ha with z | ha
    · rw [show a = C from z]
      cases e : W.g.get? C with
      | none => rfl
      | some o => have := I.base C o e; rw [hC] at this; cases this
    · exact I.ok.own a (List.mem_cons_of_mem _ (mcs a ha))
theorem comp_fr {scope : Scope} {cl : List (Str × Addr)} {tg : List Str} {cp : List (Nat × Str × Addr)} (K : CompOk Γ scope cl tg cp) {ρ : List Addr} {fr : Sl} {h h' : Heap} (F : FR Γ ρ fr h) (k : ∀ b o, h.get? b = some o → h'.get? b = some o) {C : Addr}
    {m : Str → Option Value} (hn : h'.Ns C m) : FR (Γ.comp scope cl tg cp C) ρ (compFr tg.length (cp.map (·.1)) fr) h' := by
  refine ⟨⟨m, hn, fun i x v e q => ?_⟩, fun i x c e => ?_⟩
  · have hi : i < tg.length := (List.getElem?_eq_some_iff.mp (compNm_none e)).1
    unfold compFr at q
    rw [List.getElem?_append_left (by simpa using hi), List.getElem?_replicate] at q
    rw [if_pos hi] at q; cases q
  · obtain ⟨j, p, hj, hp, e2⟩ := compNm_some e
    have h1 := (K.cap p (List.mem_of_getElem? hp)).1
    rw [e2] at h1
    obtain ⟨uo, hc, hv⟩ := F.cells p.1 x c h1
    refine ⟨uo, hc.keeps k, fun v q => hv v ?_⟩
    unfold compFr at q
    rw [List.getElem?_append_right (by simp; omega), List.length_replicate, List.map_map, List.getElem?_map, show i - tg.length = j by omega, hp] at q
    simp only [Option.map_some, Function.comp, Option.some.injEq] at q
    cases z : fr[p.1]? with
    | none => rw [z] at q; cases q
    | some w => rw [z] at q; exact congrArg some q
end


section
variable {W : Wd} {d : Nat} {Γ : Fm}

theorem Step.label {ρ ρ' : List Addr} {hp hp' : Hp} {wr : List Addr} {s s' : Shared} {a : Addr} {o : O} (S : Step ρ hp ρ' hp' wr s s') (n : s.heap.get? a = none) (l : ∀ (j : Nat) (x : O), hp[j]? = some x → j < hp'.length) : Step ρ hp (ρ' ++ [a]) (hp' ++ [o]) wr s s' :=
  ⟨S.sh, S.keep, S.there, S.ext.trans (List.prefix_append _ _), fun b hb => by
    rcases List.mem_append.mp hb with hb | hb
    · exact S.new b hb
    · rw [List.mem_singleton.mp hb]; exact .inr n, fun j x e q => by
      have := S.imm j x e q
      rw [List.getElem?_append_left (List.getElem?_eq_some_iff.mp this).1]; exact this⟩

inductive CS2 (g : AsF) (t : TeF) (f : EvF) (vs ac : List V) (fr3 : Sl) (h3 : Hp) (acc : List V) (hp' : Hp) : Prop
  | keep (h4 : Hp) (y : V) (h5 : Hp) (e4 : t fr3 h3 = some (true, h4)) (e5 : f fr3 h4 = some (y, h5)) (e : compX g t f vs (ac ++ [y]) fr3 h5 = some (acc, hp')) : CS2 g t f vs ac fr3 h3 acc hp'
  | drop (h4 : Hp) (e4 : t fr3 h3 = some (false, h4)) (e : compX g t f vs ac fr3 h4 = some (acc, hp')) : CS2 g t f vs ac fr3 h3 acc hp'
inductive CS1 (g : AsF) (t : TeF) (f : EvF) (v : V) (vs ac : List V) (fr : Sl) (hp : Hp) (acc : List V) (hp' : Hp) : Prop
  | mk (fr3 : Sl) (h3 : Hp) (e3 : g v fr hp = some (fr3, h3)) (r : CS2 g t f vs ac fr3 h3 acc hp') : CS1 g t f v vs ac fr hp acc hp'
theorem compX_cons {g : AsF} {t : TeF} {f : EvF} {v : V} {vs ac : List V} {fr : Sl} {hp : Hp} {acc : List V} {hp' : Hp} (e : compX g t f (v :: vs) ac fr hp = some (acc, hp')) : CS1 g t f v vs ac fr hp acc hp' := by
  unfold compX at e
  refine ob2_elim e fun fr3 h3 e3 e => ?_
  refine ⟨fr3, h3, e3, ?_⟩
  split at e
  · rename_i h4 e4
    refine ob2_elim e fun y h5 e5 e => ?_
    exact .keep h4 y h5 e4 e5 e
  · rename_i h4 e4
    exact .drop h4 e4 e
  · exact nn e
inductive CompI (W : Wd) (d : Nat) (Γ : Fm) (g : AsF) (t : TeF) (f : EvF) (vs acc : List V) (hp' : Hp) (I D : Addr) (fp : List Addr) (St : Nat → Heap → Prop) (ρ : List Addr) (hp : Hp) (s : Shared) (k : Nat) (s' : Shared) : Prop
  | mk (ρ₁ : List Addr) (fr1 : Sl) (hp₁ : Hp) (ac : List V) (us : Array Value) (i : Nat) (S : Step ρ hp ρ₁ hp₁ [D, I, Γ.env.locals] s s') (J : Inv W d Γ ρ₁ fr1 hp₁ s') (K : ItOk W Γ I fp ρ₁ hp₁ s') (st : St i s'.heap) (pl : s'.heap.PlainList D us) (rs : VRs ρ₁ ac us.toList) (hal : ac.length ≤ i)
    (e : compX g t f (vs.drop i) ac fr1 hp₁ = some (acc, hp')) (hi : i ≤ vs.length) (hk : k = vs.length + 1 - i) : CompI W d Γ g t f vs acc hp' I D fp St ρ hp s k s'
theorem comp_core {I D : Addr} {fp : List Addr} {P : Nat → Value → Prop} {St : Nat → Heap → Prop} {vs : List V} (WW : Walks W.prog W.w Γ.A I fp [I] vs.length P St) {x : Str} {px : Pos} {iter elt : Expr} {ifs : List Expr} {scope : Scope} {pos : Pos} {g : AsF} {t : TeF} {f : EvF}
    (hg : AlM W d Γ (assign (.Name x px) Γ.env) g) (ht : TsM W d Γ ifs t) (hf : EvM W d Γ elt f) {ρ : List Addr} {fr : Sl} {hp : Hp} {s : Shared} {acc : List V} {hp' : Hp} (e : compX g t f vs [] fr hp = some (acc, hp')) (J : Inv W d Γ ρ fr hp s)
    {s₀ : Shared} (S₀ : Step ρ hp ρ hp [] s₀ s) (R₀ : RH ρ hp s₀.heap) (nI : s₀.heap.get? I = none) (nD : s₀.heap.get? D = none) (nC : s₀.heap.get? Γ.env.locals = none)
    (K : ItOk W Γ I fp ρ hp s) (hst : St 0 s.heap) (hth : ∀ i h, St i h → ∃ o, h.get? I = some o) (hP : ∀ (i : Nat) (u : Value) (v : V), P i u → vs[i]? = some v → VR ρ v u)
    (hD : s.heap.PlainList D #[]) (rD : D ∉ ρ) (wD : D ∉ Γ.wr) (gD : W.g.get? D = none) (fD : D ∉ fp) (iC : Γ.env.locals ∉ fp) (rC : Γ.env.locals ∉ ρ) (hl : vs.length ≤ 4096) {R : Result → Shared → Prop}
    (hR : ∀ s' ρ' us m, Step ρ hp ρ' hp' [] s₀ s' → RH ρ' hp' s'.heap → s'.heap.PlainList D us → VRs ρ' acc us.toList → s'.heap.Ns Γ.env.locals m → D ∉ ρ' → Γ.env.locals ∉ ρ' → R (.ok .next) s') :
    codeAny (model W.prog W.w) Γ.A (.compLoop (.ListComp elt [⟨.Name x px, iter, ifs, 0⟩] scope pos) 0 (.ref I) (.ref D) Γ.env) R s := by
  have hI : I ∈ fp := WW.sub I (by simp)
  have hDI : D ≠ I := fun q => fD (q ▸ hI)
  have hCw : Γ.env.locals ∈ Γ.wr := List.mem_cons_self
  have hDC : D ≠ Γ.env.locals := fun q => wD (q ▸ hCw)
  have up : ∀ {ρ' : List Addr} {hp' : Hp} {s' : Shared}, Step ρ hp ρ' hp' [D, I, Γ.env.locals] s s' → Step ρ hp ρ' hp' [] s₀ s' := fun S => (((S₀.weaken fun _ h => nomatch h).trans R₀ J.rh S).unwrI nD).unwrI nI |>.unwrI nC
  have w1 : ∀ {ρ ρ' : List Addr} {hp hp' : Hp} {s s' : Shared}, Step ρ hp ρ' hp' [I] s s' → Step ρ hp ρ' hp' [D, I, Γ.env.locals] s s' := fun S => S.weaken fun _ h => by rw [List.mem_singleton.mp h]; simp
  have w2 : ∀ {ρ ρ' : List Addr} {hp hp' : Hp} {s s' : Shared}, Step ρ hp ρ' hp' [Γ.env.locals] s s' → Step ρ hp ρ' hp' [D, I, Γ.env.locals] s s' := fun S => S.weaken fun _ h => by rw [List.mem_singleton.mp h]; simp
  have w3 : ∀ {ρ ρ' : List Addr} {hp hp' : Hp} {s s' : Shared}, Step ρ hp ρ' hp' [D] s s' → Step ρ hp ρ' hp' [D, I, Γ.env.locals] s s' := fun S => S.weaken fun _ h => by rw [List.mem_singleton.mp h]; simp
  have exC : ∃ o, s.heap.get? Γ.env.locals = some o := J.fr.wr_there hCw
  have exD : ∃ o, s.heap.get? D = some o := by obtain ⟨n, e⟩ := hD; exact ⟨_, e⟩
  have off : ∀ {ρ' : List Addr} {hp' : Hp} {wr : List Addr} {s' : Shared}, Step ρ hp ρ' hp' wr s s' → D ∉ ρ' ∧ Γ.env.locals ∉ ρ' := by
    intro ρ' hp' wr s' S
    constructor
    · intro m
      rcases S.new D m with h | h
      · exact rD h
      · obtain ⟨o, e⟩ := exD; rw [h] at e; cases e
    · intro m
      rcases S.new _ m with h | h
      · exact rC h
      · obtain ⟨o, e⟩ := exC; rw [h] at e; cases e
  refine codeAny_compLoop_tests (CompI W d Γ g t f vs acc hp' I D fp St ρ hp s) ?_ (vs.length + 1)
    ⟨ρ, fr, hp, [], #[], 0, .refl, J, K, hst, hD, .nil, Nat.le_refl _, e, Nat.zero_le _, rfl⟩
  rintro k s' ⟨ρ₁, fr1, hp₁, ac, us, i, S₁, J₁, K₁, st, pl, rs, hal, e, hi, rfl⟩
  obtain ⟨rD1, rC1⟩ := off S₁
  by_cases hlt : i < vs.length
  · have hv : vs[i]? = some vs[i] := by simp [hlt]
    have hd : vs.drop i = vs[i] :: vs.drop (i + 1) := by rw [List.drop_eq_getElem_cons hlt]
    rw [hd] at e
    refine WW.item i s' _ _ hlt st fun u h₂ t₂ hu st₂ k₂ => ?_
    obtain ⟨S₂, J₂, K₂⟩ := it_step (t := t₂) J₁ K₁ hI (hth _ _ st₂) k₂
    have S12 := S₁.trans J.rh J₁.rh (w1 S₂)
    have pl2 : h₂.PlainList D us := pl.at fun o e => k₂ D o (by simpa using hDI) e
    obtain ⟨fr3, h3, e3, r⟩ := compX_cons e
    · skip
      refine noE_mono (wpAny_mono (hg _ fr1 hp₁ fr3 h3 ρ₁ _ u e3 J₂ ((hP i u _ hu hv).mono S₁.ext)) (fun _ s₃ p => noE_mono ?_) fun _ _ x => x)
      obtain ⟨S₃, R₃, F₃⟩ := p
      have S₃w : Step ρ₁ hp₁ ρ₁ h3 Γ.wr _ s₃ := S₃.weaken fun _ h => by rw [List.mem_singleton.mp h]; exact hCw
      have J₃ := J₂.stepX S₃w R₃ F₃
      have S13 := S12.trans J.rh J₂.rh (w2 S₃)
      have K₃ := K₂.step hI J₂.rh R₃ S₃
      have kp3 : ∀ b ∈ fp, ∀ o, h₂.get? b = some o → s₃.heap.get? b = some o := fun b hb o e => S₃.keep b o e (fun q => iC (List.mem_singleton.mp q ▸ hb)) (K₂.fp b hb).2.2
      have nolab : ∀ {ρ : List Addr} {hp : Hp}, D ∉ ρ → ∀ (j : Nat) (x : O), ρ[j]? = some D → hp[j]? = some x → x.mut = false := fun n j x ej _ => absurd (List.mem_of_getElem? ej) n
      have pl3 : s₃.heap.PlainList D us := pl2.at fun o e => S₃.keep D o e (fun q => hDC (List.mem_singleton.mp q)) (nolab rD1)
      rcases r with ⟨h4, y, h5, e4, e5, e⟩ | ⟨h4, e4, e⟩
      · skip
        refine wpAny_mono (ht fr3 h3 true h4 ρ₁ s₃ e4 J₃) (fun ok s₄ p => ?_) fun _ _ x => x
        obtain ⟨rfl, ρ₄, S₄, R₄⟩ := p
        refine ite_t ?_
        have J₄ := J₃.step S₄ R₄
        have S14 := S13.trans J.rh R₃ S₄.up
        have K₄ := K₃.step hI R₃ R₄ S₄
        have kp4 : ∀ b ∈ fp, ∀ o, h₂.get? b = some o → s₄.heap.get? b = some o := fun b hb o e => S₄.keep b o (kp3 b hb o e) (fun h => nomatch h) (K₃.fp b hb).2.2
        have pl4 : s₄.heap.PlainList D us := pl3.at fun o e => S₄.keep D o e (fun h => nomatch h) (nolab rD1)
        · skip
          refine noE_mono (wpAny_mono (hf fr3 h4 y h5 ρ₄ s₄ e5 J₄) (fun yv s₅ p => noE_mono ?_) fun _ _ x => x)
          obtain ⟨ρ₅, S₅, R₅, r₅⟩ := p
          have J₅ := J₄.step S₅ R₅
          have S15 := S14.trans J.rh R₄ S₅.up
          have K₅ := K₄.step hI R₄ R₅ S₅
          obtain ⟨rD5, rC5⟩ := off S15
          have kp5 : ∀ b ∈ fp, ∀ o, h₂.get? b = some o → s₅.heap.get? b = some o := fun b hb o e => S₅.keep b o (kp4 b hb o e) (fun h => nomatch h) (K₄.fp b hb).2.2
          have pl5 : s₅.heap.PlainList D us := pl4.at fun o e => S₅.keep D o e (fun h => nomatch h) (nolab (off S14).1)
          have hus : us.size = ac.length := by rw [rs.1]; simp
          refine wpAny_list_append_plain (hsz := by rw [sizeLine_eq]; omega) pl5 fun h₆ pl6 sb => ?_
          obtain ⟨S₆, J₆, K₆⟩ := chg_step (c := D) (t := s₅.toks) (h := h₆) J₅ K₅ rD5 wD gD (by obtain ⟨n, e⟩ := pl6; exact ⟨_, e⟩) fun b o hb e => sameBut_keep sb hb e
          exact ⟨vs.length + 1 - (i + 1), dec_lt hlt, ρ₅, fr3, h5, ac ++ [y], us.push yv, i + 1, S15.trans J.rh R₅ (w3 S₆), J₆, K₆, WW.frame _ _ _ st₂ fun b hb o e => sameBut_keep sb (fun q => fD (q ▸ hb)) (kp5 b hb o e), pl6,
            by rw [Array.toList_push]; exact (rs.mono (S₄.ext.trans S₅.ext)).append (.one r₅), by rw [List.length_append]; exact Nat.add_le_add_right hal 1, e, hlt, rfl⟩
      · skip
        refine wpAny_mono (ht fr3 h3 false h4 ρ₁ s₃ e4 J₃) (fun ok s₄ p => ?_) fun _ _ x => x
        obtain ⟨rfl, ρ₄, S₄, R₄⟩ := p
        refine ite_f ?_
        exact ⟨vs.length + 1 - (i + 1), dec_lt hlt, ρ₄, fr3, h4, ac, us, i + 1, S13.trans J.rh R₃ S₄.up, J₃.step S₄ R₄, K₃.step hI R₃ R₄ S₄, WW.frame _ _ _ st₂ fun b hb o e => S₄.keep b o (kp3 b hb o e) (fun h => nomatch h) (K₃.fp b hb).2.2,
          pl3.at fun o e => S₄.keep D o e (fun h => nomatch h) (nolab rD1), rs.mono S₄.ext, Nat.le_succ_of_le hal, e, hlt, rfl⟩
  · have : i = vs.length := at_end hi hlt
    subst this
    have : vs.drop vs.length = [] := List.drop_eq_nil_of_le (Nat.le_refl _)
    rw [this] at e
    obtain ⟨rfl, rfl⟩ := si2 e
    obtain ⟨m, hn, _⟩ := J₁.fr.ns
    refine WW.done s' _ _ st fun h₂ t₂ k₂ => hR _ ρ₁ us m ((up S₁).fin nI k₂) (J₁.rh.keeps fun a ha x e => k₂ a x (fun q => K₁.ni (List.mem_singleton.mp q ▸ ha)) e) (pl.at fun o e => k₂ D o (by simpa using hDI) e) rs
      (hn.at' fun o e => k₂ _ o (fun q => (K₁.fp I hI).1 (List.mem_singleton.mp q ▸ hCw)) e) rD1 rC1

noncomputable def compE (nt : Nat) (caps : List Nat) (fi : EvF) (g : AsF) (t : TeF) (f : EvF) : EvF := fun fr hp => ob2 (fi fr hp) fun v h1 => (ob2 (walkOf h1 v) fun vs hf => (match Nat.ble vs.length 4096, compX g t f vs [] (compFr nt caps fr) hf with
      | true, some (acc, h2) => some (.own h2.length, thaw h1 v h2 ++ [.list acc])
      | _, _ => none))
theorem thaw_len {h1 h2 : Hp} {v : V} : (thaw h1 v h2).length = h2.length := by
  unfold thaw
  split
  · split
    · simp
    · rfl
  · rfl
theorem comp_block {scope : Scope} {cl : List (Str × Addr)} {tg : List Str} {cp : List (Nat × Str × Addr)} (KC : CompOk Γ scope cl tg cp) {x : Str} {px : Pos} {iter elt : Expr} {ifs : List Expr} {pos : Pos} {g : AsF} {t : TeF} {f : EvF}
    (hg : ∀ C, AlM W d (Γ.comp scope cl tg cp C) (assign (.Name x px) (Γ.comp scope cl tg cp C).env) g) (ht : ∀ C, TsM W d (Γ.comp scope cl tg cp C) ifs t) (hf : ∀ C, EvM W d (Γ.comp scope cl tg cp C) elt f)
    {ρ : List Addr} {fr : Sl} {h1 hfz h2 : Hp} {v : V} {vs acc : List V} {s s₂ : Shared} {I : Addr} {fp : List Addr} {P : Nat → Value → Prop} {St : Nat → Heap → Prop} (ew : walkOf h1 v = some (vs, hfz)) (hl : vs.length ≤ 4096)
    (e : compX g t f vs [] (compFr tg.length (cp.map (·.1)) fr) hfz = some (acc, h2)) (K : Walked W d Γ ρ fr h1 hfz vs s I fp P St s₂) {E : Value → Shared → Prop} {RR : Value → Addr → Result → Shared → Prop}
    (hRR : ∀ D C s' ρ' us m, Step ρ h1 ρ' (thaw h1 v h2) [] s s' → RH ρ' (thaw h1 v h2) s'.heap → s'.heap.PlainList D us → VRs ρ' acc us.toList → s'.heap.Ns C m → D ∉ ρ' → C ∉ ρ' → s.heap.get? D = none → s.heap.get? C = none → D ≠ C → RR (.ref D) C (.ok .next) s') :
    wpAny (model W.prog W.w) Γ.A (newList []) (fun acc s₃ => wpAny (model W.prog W.w) Γ.A (newFunctionEnv scope Γ.env.globals cl [] Γ.env.qual none .none (some Γ.env)) (fun cenv s₄ =>
      codeAny (model W.prog W.w) Γ.A (.compStart (.ListComp elt [⟨.Name x px, iter, ifs, 0⟩] scope pos) 0 (.ref I) acc { cenv with scope := relabel scope Γ.env }) (RR acc cenv.locals) s₄) E s₃) E s₂ := by
  refine wpAny_newObj_type (wpAny_newFunctionEnv KC.nocell (by intro y hy; simp at hy) (fun h₁ hns₁ hsb₁ => ?_) KC.kind)
  dsimp only at hns₁ hsb₁ ⊢
  generalize hH2 : s₂.heap.push { cls := .type "list", dict := none, data := .seq ([] : List Value).toArray } = H2 at hns₁ hsb₁ ⊢
  have hC : H2.objs.size = s₂.heap.objs.size + 1 := by rw [← hH2, Heap.size_push]
  have hDC : s₂.heap.objs.size ≠ H2.objs.size := by rw [hC]; exact Nat.ne_of_lt (Nat.lt_succ_self _)
  have below : ∀ b, b < s₂.heap.objs.size → b ≠ H2.objs.size ∧ b ≠ s₂.heap.objs.size := fun b hb => ⟨by rw [hC]; exact Nat.ne_of_lt (Nat.lt_succ_of_lt hb), Nat.ne_of_lt hb⟩
  have old : ∀ b o, s₂.heap.get? b = some o → h₁.get? b = some o := fun b o e => hsb₁.extBut b o (below b (Heap.lt_size e)).1 (Heap.get?_push_of_some _ (hH2 ▸ Heap.get?_push_of_some _ e))
  have hpl : h₁.PlainList s₂.heap.objs.size #[] := ⟨_, hsb₁.extBut _ _ hDC (Heap.get?_push_of_some _ (hH2 ▸ Heap.get?_push_size _ rfl))⟩
  have none2 : ∀ a, s₂.heap.objs.size ≤ a → s₂.heap.get? a = none := fun a ha => by
    cases e : s₂.heap.get? a with
    | none => rfl
    | some o' => exact absurd (Heap.lt_size e) (Nat.not_lt.mpr ha)
  have none1 : ∀ a, s₂.heap.get? a = none → s.heap.get? a = none := fun a h => by
    cases e : s.heap.get? a with
    | none => rfl
    | some o => obtain ⟨o', e'⟩ := K.still.there a o e; rw [h] at e'; cases e'
  have nD2 := none2 s₂.heap.objs.size (Nat.le_refl _)
  have nC2 : s₂.heap.get? H2.objs.size = none := none2 _ (by rw [hC]; exact Nat.le_succ _)
  have gno : ∀ a, s₂.heap.get? a = none → W.g.get? a = none := fun a h => by
    cases e : W.g.get? a with
    | none => rfl
    | some o => have := K.inv.base a o e; rw [h] at this; cases this
  have rno : ∀ a, s₂.heap.get? a = none → a ∉ ρ := fun a h m => by
    obtain ⟨j, ej⟩ := List.getElem?_of_mem m
    obtain ⟨x, ex⟩ := K.inv.rh.obj ej
    obtain ⟨o, eo⟩ := (K.inv.rh.ob j x a ex ej).there
    rw [h] at eo; cases eo
  have fno : ∀ a, s₂.heap.get? a = none → a ∉ fp := fun a h m => by
    obtain ⟨o, eo⟩ := (K.it.fp a m).2.1
    rw [h] at eo; cases eo
  have wno : ∀ a, s₂.heap.get? a = none → a ∉ Γ.wr := fun a h m => by
    obtain ⟨o, eo⟩ := K.inv.fr.wr_there m
    rw [h] at eo; cases eo
  have wsub : ∀ a ∈ (Γ.comp scope cl tg cp H2.objs.size).wr, a = H2.objs.size ∨ a ∈ Γ.wr := fun a ha => by
    rcases List.mem_cons.mp ha with z | ha
    · exact .inl z
    · obtain ⟨i, x, e⟩ := cs_mem ha
      obtain ⟨k, p, _, hp, e2⟩ := compNm_some e
      have := (KC.cap p (List.mem_of_getElem? hp)).1
      rw [e2] at this
      exact .inr (List.mem_cons_of_mem _ (mem_cs this))
  have loop : ∀ s₃ : Shared, s₃ = { s₂ with heap := h₁, toks := s₂.toks + ([] : List (Str × Value)).length } →
      codeAny (model W.prog W.w) Γ.A (.compLoop (.ListComp elt [⟨.Name x px, iter, ifs, 0⟩] scope pos) 0 (.ref I) (.ref s₂.heap.objs.size) (compEnvC scope cl H2.objs.size Γ.env)) (RR (.ref s₂.heap.objs.size) H2.objs.size) s₃ := by
    rintro s₃ rfl
    have S23 : Step ρ hfz ρ hfz [] s₂ { s₂ with heap := h₁, toks := s₂.toks + ([] : List (Str × Value)).length } := .kept old
    have R3 : RH ρ hfz h₁ := K.inv.rh.keeps fun a _ x e => old a x e
    have F3 := comp_fr KC K.inv.fr old hns₁
    refine comp_core (Γ := Γ.comp scope cl tg cp H2.objs.size) (s₀ := s) K.ww (hg _) (ht _) (hf _) e ⟨comp_ok KC K.inv nC2, R3, F3, fun b o e => old b o (K.inv.base b o e), fun a ha => ⟨fun m => ?_, (K.inv.sep a ha).2⟩⟩
      (K.still.trans K.rf K.inv.rh S23) K.rf K.n0 (none1 _ nD2) (none1 _ nC2) ⟨K.it.ni, K.it.gi, fun b hb => ⟨fun m => ?_, ?_, (K.it.fp b hb).2.2⟩⟩ (K.ww.frame _ _ _ K.st fun b _ o e => old b o e) K.th K.hP hpl (rno _ nD2) (fun m => ?_) (gno _ nD2) (fno _ nD2) (fno _ nC2) (rno _ nC2) hl
      fun s' ρ' us m S R pl rs hn h1' h2' => ?_
    · rcases wsub a m with z | z
      · exact rno _ nC2 (z ▸ ha)
      · exact (K.inv.sep a ha).1 z
    · rcases wsub b m with z | z
      · exact fno _ nC2 (z ▸ hb)
      · exact (K.it.fp b hb).1 z
    · obtain ⟨o, eo⟩ := (K.it.fp b hb).2.1
      exact ⟨o, old b o eo⟩
    · rcases wsub _ m with z | z
      · exact hDC z
      · exact wno _ nD2 z
    · obtain ⟨S', R'⟩ := thawed ew S R
      exact hRR _ _ s' ρ' us m S' R' pl rs hn h1' h2' (none1 _ nD2) (none1 _ nC2) hDC
  exact codeAny_compStart_list (loop _ rfl) (K.ww.self 0 _ _ _ (K.ww.frame _ _ _ K.st fun b _ o e => old b o e) (loop _ rfl))

theorem ev_comp {scope : Scope} {cl : List (Str × Addr)} (tg : List Str) (cp : List (Nat × Str × Addr)) (KC : CompOk Γ scope cl tg cp) {x : Str} {px : Pos} {iter elt : Expr} {ifs : List Expr} {pos : Pos} {fi : EvF} {g : AsF} {t : TeF} {f : EvF}
    (hi : EvM W d Γ iter fi) (hg : ∀ C, AlM W d (Γ.comp scope cl tg cp C) (assign (.Name x px) (Γ.comp scope cl tg cp C).env) g) (ht : ∀ C, TsM W d (Γ.comp scope cl tg cp C) ifs t) (hf : ∀ C, EvM W d (Γ.comp scope cl tg cp C) elt f)
    (hs : ∀ x, foldedSetIterable iter Γ.env x = pure x) :
    EvM W d Γ (.ListComp elt [⟨.Name x px, iter, ifs, 0⟩] scope pos) (compE tg.length (cp.map (·.1)) fi g t f) := by
  intro fr hp v' hp' ρ s e I
  unfold compE at e
  refine ob2_elim e fun v h1 e1 e => ?_
  refine ob2_elim e fun vs hfz ew e => ?_
  split at e
  · rename_i acc h2 hl ec
    obtain ⟨rfl, rfl⟩ := si2 e
    rw [eval_ListComp]
    refine wpAny_comprehension_free (use := none) rfl hs KC.clos KC.kind KC.names (wpAny_mono (hi fr hp v h1 ρ s e1 I) (fun u s₁ p => ?_) fun _ _ x => x)
    obtain ⟨ρ₁, S₁, R₁, r₁⟩ := p
    have I₁ := I.step S₁ R₁
    refine walk_iter ew I₁ r₁ fun a fp P St s₂ K => ?_
    refine comp_block KC hg ht hf ew (Nat.le_of_ble_eq_true hl) ec K (RR := fun acc' C => compPost (model W.prog W.w) Γ.A NoE none _ acc' C) fun D C s' ρ' us m S R pl rs hn rD rC nD nC hDC => ?_
    refine ⟨m, hn, fun h'' sb => ?_⟩
    have k : ∀ b o, b ∉ [C] → s'.heap.get? b = some o → h''.get? b = some o := fun b o hb e => sameBut_keep sb (by simpa using hb) e
    have S' := S.fin (t := s'.toks) nC k
    have R' : RH ρ' (thaw h1 v h2) h'' := R.keeps fun a ha x e => k a x (fun q => rC (List.mem_singleton.mp q ▸ ha)) e
    obtain ⟨n, pl'⟩ : h''.PlainList D us := pl.at fun o e => k D o (by simpa using hDC) e
    have hlen : ρ'.length = h2.length := by rw [R'.len, thaw_len]
    have hmono : ∀ (j : Nat) (x : O), h1[j]? = some x → j < (thaw h1 v h2).length := fun j x e => by
      rw [← R'.len]
      obtain ⟨q, rfl⟩ := S'.ext
      have := (List.getElem?_eq_some_iff.mp e).1
      rw [← R₁.len] at this
      simp; omega
    refine EvP.trans I.rh S₁ R₁ ⟨ρ' ++ [D], S'.label (s' := { s' with heap := h'' }) nD hmono, R'.alloc (fun _ _ _ e => e) rD ⟨us, n, pl', rs.mono (List.prefix_append _ _)⟩, D, ?_, rfl⟩
    rw [← hlen]; simp
  · exact nn e
end


noncomputable abbrev FnF := List V → Hp → Option (V × Hp)
noncomputable def CallM (W : Wd) (d : Nat) (f : Value) (F : FnF) : Prop :=
  ∀ (Γ : Fm) fr hp vs v hp' ρ s us, F vs hp = some (v, hp') → Inv W d Γ ρ fr hp s → VRs ρ vs us → wpAny (model W.prog W.w) Γ.A (call f us) (EvP ρ hp v hp' s) NoE s
noncomputable def CallC (W : Wd) (d : Nat) (f : Value) (F : FnF) : Prop :=
  ∀ (Γ : Fm) fr hp vs v hp' ρ s us, F vs hp = some (v, hp') → Inv W d Γ ρ fr hp s → VRs ρ vs us →
    codeAny (model W.prog W.w) Γ.A (.call f ⟨us, []⟩) (fun r s' => match r with | .ok (.ret u) => EvP ρ hp v hp' s u s' | .ok _ => False | .error _ => False) s
theorem CallC.m {W : Wd} {d : Nat} {f : Value} {F : FnF} (h : CallC W d f F) : CallM W d f F := by
  intro Γ fr hp vs v hp' ρ s us e I r
  exact wpAny_call (codeAny_mono (h Γ fr hp vs v hp' ρ s us e I r) fun r s' z => by rcases r with e | (u | _ | _ | _) <;> exact z)

noncomputable def Callee (W : Wd) (f : Value) : Prop := (∃ id, f = .builtin id) ∨ (∃ T, f = .type T) ∨ keepIn W.K f = true
noncomputable def cstF (f : Value) : EvF := fun _ hp => some (.cst f, hp)
noncomputable def callE (g : EvsF) (F : FnF) : EvF := fun fr hp => ob2 (g fr hp) fun vs h1 => F vs h1
section
variable {W : Wd} {d : Nat} {Γ : Fm}

theorem Inv.down {d' : Nat} {ρ : List Addr} {fr : Sl} {hp : Hp} {s : Shared} (I : Inv W d Γ ρ fr hp s) (h : d' ≤ d) : Inv W d' Γ ρ fr hp s :=
  ⟨⟨I.ok.kind, I.ok.glob, I.ok.blt, I.ok.hand, mul_up I.ok.room h, mul_up I.ok.units h, I.ok.loc, I.ok.cel, I.ok.ndn, I.ok.sepc, I.ok.own⟩, I.rh, I.fr, I.base, I.sep⟩
theorem CallM.up {d' : Nat} {f : Value} {F : FnF} (h : CallM W d' f F) (hd : d' ≤ d) : CallM W d f F :=
  fun Γ fr hp vs v hp' ρ s us e I r => h Γ fr hp vs v hp' ρ s us e (I.down hd) r

theorem ev_call {func e : Expr} {rest : List Expr} {pos : Pos} {f : Value} {g : EvsF} {F : FnF} (hf : EvM W d Γ func (cstF f)) (hc : CallM W d f F) (hg : EvsM W d Γ (e :: rest) g) (hk : Callee W f)
    (he : eval (.Call func (e :: rest) [] pos) Γ.env = (do callWith pos (← eval func Γ.env) [] (backTo pos (starEach (e :: rest) Γ.env)) (backToKw pos (keywordEach [] Γ.env))))
    (hst : starEach (e :: rest) Γ.env = (false, eval e Γ.env) :: starEach rest Γ.env) (hpl : (backTo pos (starEach rest Γ.env)).any (·.1) = false) :
    EvM W d Γ (.Call func (e :: rest) [] pos) (callE g F) := by
  intro fr hp v hp' ρ s q I
  unfold callE at q
  refine ob2_elim q fun vs h1 e1 q => ?_
  refine Call_ (wpAny_mono (hf fr hp (.cst f) hp ρ s rfl I) (fun u s₁ p => ?_) fun _ _ x => x) he
  obtain ⟨ρ₁, S₁, R₁, r₁⟩ := p
  cases (r₁ : u = f)
  have I₁ := I.step S₁ R₁
  have go : ∀ (K : Shared → Prop), (∀ ρ' hp' s', Inv W d Γ ρ' fr hp' s' → K s') → wpAny (model W.prog W.w) Γ.A (spliced (backTo pos (starEach (e :: rest) Γ.env))) (fun us s₂ => K s₂ ∧ wpAny (model W.prog W.w) Γ.A (call f us) (EvP ρ hp v hp' s) NoE s₂) NoE s₁ := by
    intro K hK
    refine wpAny_mono (hg pos fr hp vs h1 ρ₁ s₁ e1 I₁) (fun us s₂ p => ?_) fun _ _ x => x
    obtain ⟨ρ₂, S₂, R₂, r₂⟩ := p
    have I₂ := I₁.step S₂ R₂
    exact ⟨hK _ _ _ I₂, wpAny_mono (hc Γ fr h1 vs v hp' ρ₂ s₂ us q I₂ r₂) (fun u s₃ p => (p.trans R₁ S₂ R₂).trans I.rh S₁ R₁) fun _ _ x => x⟩
  rcases hk with ⟨id, rfl⟩ | ⟨T, rfl⟩ | hk
  · exact callWith_builtin1 (wpAny_mono (go (fun _ => True) fun _ _ _ _ => trivial) (fun _ _ z => z.2) fun _ _ x => x) hst hpl
  · exact PyProof.Rows.callWith_type1 (wpAny_mono (go (fun _ => True) fun _ _ _ _ => trivial) (fun _ _ z => z.2) fun _ _ x => x) hst hpl
  · exact callWith_K (h₀ := s₁.heap) (W.X.keeps I₁.base) hk (wpAny_mono (go (fun s => W.K.In s.heap) fun _ _ _ J => W.X.keeps J.base) (fun _ _ z => z) fun _ _ x => x) hst hpl
theorem ev_call0 {func : Expr} {pos : Pos} {f : Value} {F : FnF} (hf : EvM W d Γ func (cstF f)) (hc : CallM W d f F) (hk : keepIn W.K f = true)
    (he : eval (.Call func [] [] pos) Γ.env = (do callWith pos (← eval func Γ.env) [] (backTo pos (starEach [] Γ.env)) (backToKw pos (keywordEach [] Γ.env)))) :
    EvM W d Γ (.Call func [] [] pos) (callE nilF F) := by
  intro fr hp v hp' ρ s q I
  refine Call_ (wpAny_mono (hf fr hp (.cst f) hp ρ s rfl I) (fun u s₁ p => ?_) fun _ _ x => x) he
  obtain ⟨ρ₁, S₁, R₁, r₁⟩ := p
  cases (r₁ : u = f)
  have I₁ := I.step S₁ R₁
  exact callWith_K0 (W.X.keeps I₁.base) hk (wpAny_mono (hc Γ fr hp [] v hp' ρ₁ s₁ [] q I₁ .nil) (fun u s₃ p => p.trans I.rh S₁ R₁) fun _ _ x => x)

noncomputable def lenFn : FnF := fun vs hp => match vs with
  | [v] => (match v with
    | .str x => (obB (Nat.ble x.length 100000) (some (.int x.length, hp)))
    | .own _ => (ob1 (itemsOf hp v) fun ws => (obB (Nat.ble ws.length 100000) (some (.int ws.length, hp))))
    | _ => none)
  | _ => none
theorem c_len : CallM W d (.builtin "len") lenFn := by
  intro Γ fr hp vs v hp' ρ s us e I r
  unfold lenFn at e
  split at e
  · rename_i w
    obtain ⟨u, us', rfl, ru, rs⟩ := r.uncons
    cases rs.unnil
    split at e
    · rename_i x
      refine obB_elim e fun hl e => ?_
      obtain ⟨rfl, rfl⟩ := si2 e
      obtain ⟨t, rfl⟩ := ru
      have hl := Nat.le_of_ble_eq_true hl
      have hx : (⟨x.toArray⟩ : Str).length = x.length := by simp [Str.length]
      refine PySem.P.len_str (by rw [hx]; omega) ?_
      rw [hx]
      exact .same I.rh ⟨_, rfl⟩
    · refine ob1_elim e fun ws hi e => ?_
      refine obB_elim e fun hl e => ?_
      obtain ⟨rfl, rfl⟩ := si2 e
      have hl := Nat.le_of_ble_eq_true hl
      obtain ⟨ad, us, rfl, rs, hg⟩ := items_at I.rh hi ru
      have hsz : us.size = ws.length := by rw [rs.1]; simp
      rcases hg with ⟨k, hg⟩ | hg
      · refine call_len_list ⟨_, hg, rfl, k, rfl⟩ (by omega) ?_
        rw [hsz]
        exact .same I.rh ⟨_, rfl⟩
      · refine PySem.P.len_tuple (n := 0) hg (by omega) ?_
        rw [hsz]
        exact .same I.rh ⟨_, rfl⟩
    · exact nn e
  · exact nn e
noncomputable def rangeFn : FnF := fun vs hp => match vs with
  | [.int b] => some (.own hp.length, hp ++ [.rng 0 b 1])
  | [.int a, .int b] => some (.own hp.length, hp ++ [.rng a b 1])
  | _ => none
theorem c_range : CallM W d (.type "range") rangeFn := by
  intro Γ fr hp vs v hp' ρ s us e I r
  unfold rangeFn at e
  split at e
  · cases e
    obtain ⟨u, us', rfl, ⟨t, rfl⟩, rs⟩ := r.uncons
    cases rs.unnil
    exact call_range_1 (.fresh I.rh (fun _ _ e => Heap.get?_push_of_some _ e) (get_size_none _) ⟨_, _, _, Heap.get?_push_size _ rfl⟩)
  · cases e
    obtain ⟨u, us', rfl, ⟨t, rfl⟩, rs⟩ := r.uncons
    obtain ⟨u2, us2, rfl, ⟨t', rfl⟩, rs2⟩ := rs.uncons
    cases rs2.unnil
    exact call_range_2 (.fresh I.rh (fun _ _ e => Heap.get?_push_of_some _ e) (get_size_none _) ⟨_, _, _, Heap.get?_push_size _ rfl⟩)
  · exact nn e
noncomputable def tupleFn : FnF := fun vs hp => match vs with
  | [.own j] => (match hp[j]? with
    | some (.list ws) => (obB (Nat.ble ws.length 4096) (some (.own hp.length, hp ++ [.tup ws])))
    | _ => none)
  | _ => none
theorem c_tuple : CallM W d (.type "tuple") tupleFn := by
  intro Γ fr hp vs v hp' ρ s us e I r
  unfold tupleFn at e
  split at e
  · rename_i j
    obtain ⟨u, us', rfl, ⟨a, ea, rfl⟩, rs⟩ := r.uncons
    cases rs.unnil
    split at e
    · rename_i ws hj
      refine obB_elim e fun hl e => ?_
      obtain ⟨rfl, rfl⟩ := si2 e
      obtain ⟨us, n, hg, rs⟩ := I.rh.ob j _ a hj ea
      have hsz : us.size = ws.length := by rw [rs.1]; simp
      refine call_tuple_list (hsz := by rw [hsz]; exact line_of hl) ⟨_, hg, rfl, n, rfl⟩ fun h' hk => ?_
      have nn : s.heap.get? h'.objs.size = none := by
        cases q : s.heap.get? h'.objs.size with
        | none => rfl
        | some o => exact absurd (Heap.lt_size (hk _ _ q)) (Nat.lt_irrefl _)
      exact .fresh (t := s.toks) I.rh (fun b o e => Heap.get?_push_of_some _ (hk b o e)) nn ⟨us, Heap.get?_push_size _ rfl, rs.mono (List.prefix_append _ _)⟩
    · exact nn e
  · exact nn e

noncomputable abbrev MeF := V → List V → Hp → Option (V × Hp)
noncomputable def MethM (W : Wd) (d : Nat) (id : String) (G : MeF) : Prop :=
  ∀ (Γ : Fm) fr hp v vs w hp' ρ s u us, G v vs hp = some (w, hp') → Inv W d Γ ρ fr hp s → VR ρ v u → VRs ρ vs us → wpAny (model W.prog W.w) Γ.A (call (.builtin id) (u :: us)) (EvP ρ hp w hp' s) NoE s
noncomputable def TyF (T : String) (chk : V → Hp → Bool) : Prop := ∀ (ρ : List Addr) (hp : Hp) (s : Shared) (v : V) (u : Value), chk v hp = true → RH ρ hp s.heap → VR ρ v u → s.TypeIs u T ∧ ∀ a, u = .ref a → ∃ ob, s.heap.get? a = some ob ∧ ob.dict = none
noncomputable def isL (v : V) (hp : Hp) : Bool := match v with
  | .own j => (match hp[j]? with
    | some (.list _) => true
    | _ => false)
  | _ => false
noncomputable def isS (v : V) (_ : Hp) : Bool := match v with
  | .str _ => true
  | _ => false
theorem ty_list : TyF "list" isL := by
  intro ρ hp s v u h R r
  unfold isL at h
  split at h
  · rename_i j
    obtain ⟨a, ea, rfl⟩ := r
    split at h
    · rename_i vs hj
      obtain ⟨us, n, hg, _⟩ := R.ob j _ a hj ea
      exact ⟨⟨_, hg, rfl⟩, fun b hb => by cases hb; exact ⟨_, hg, rfl⟩⟩
    · cases h
  · cases h
theorem ty_str : TyF "str" isS := by
  intro ρ hp s v u h R r
  unfold isS at h
  split at h
  · obtain ⟨t, rfl⟩ := r
    exact ⟨typeIs_str _ _ _, fun a h => by cases h⟩
  · cases h
noncomputable def methE (chk : V → Hp → Bool) (fo : EvF) (g : EvsF) (G : MeF) : EvF := fun fr hp => ob2 (fo fr hp) fun v h1 => (obB (chk v h1) ((ob2 (g fr h1) fun vs h2 => G v vs h2)))
theorem ev_meth {T id : String} {chk : V → Hp → Bool} {o e : Expr} {rest : List Expr} {name : Str} {apos pos : Pos} {fo : EvF} {g : EvsF} {G : MeF} (ht : TyF T chk) (hm : MethM W d id G) (pa : PlainAttrs T) (slot : Slot T name id) (hty : typeOf (.builtin id) = pure (.type "method_descriptor"))
    (ho : EvM W d Γ o fo) (hg : EvsM W d Γ (e :: rest) g) (hbase : attributeBase o name Γ.env (eval o Γ.env) = eval o Γ.env)
    (hfew : ((backTo pos (starEach (e :: rest) Γ.env)).all (fun x => !x.1) && (backToKw pos (keywordEach [] Γ.env)).all (fun x => x.1.isSome)
      && decide ((e :: rest).length + ([] : List Keyword).length + (if ([] : List Keyword).isEmpty then 0 else 1) < 30)) = true)
    (hline : (apos.endLine == pos.line) = true)
    (hst : starEach (e :: rest) Γ.env = (false, eval e Γ.env) :: starEach rest Γ.env) (hpl : (backTo pos (starEach rest Γ.env)).any (·.1) = false) :
    EvM W d Γ (.Call (.Attribute o name apos) (e :: rest) [] pos) (methE chk fo g G) := by
  intro fr hp v hp' ρ s q I
  unfold methE at q
  refine ob2_elim q fun w h1 e1 q => ?_
  refine obB_elim q fun hc q => ?_
  refine ob2_elim q fun vs h2 e2 q => ?_
  refine wpAny_Call_method hbase hfew hline pa slot hty (wpAny_mono (ho fr hp w h1 ρ s e1 I) (fun u s₁ p => ?_) fun _ _ x => x)
  obtain ⟨ρ₁, S₁, R₁, r₁⟩ := p
  have I₁ := I.step S₁ R₁
  obtain ⟨hT, hd⟩ := ht ρ₁ h1 s₁ w u hc R₁ r₁
  refine ⟨hT, hd, callWith_method1 (wpAny_mono (hg pos fr h1 vs h2 ρ₁ s₁ e2 I₁) (fun us s₂ p => ?_) fun _ _ x => x) hst hpl⟩
  obtain ⟨ρ₂, S₂, R₂, r₂⟩ := p
  exact wpAny_mono (hm Γ fr h2 w vs v hp' ρ₂ s₂ u us q (I₁.step S₂ R₂) (r₁.mono S₂.ext) r₂) (fun u s₃ p => (p.trans R₁ S₂ R₂).trans I.rh S₁ R₁) fun _ _ x => x

noncomputable def appendMe : MeF := fun v vs hp => match v, vs with
  | .own j, [x] => (match hp[j]? with
    | some (.list ws) => (obB (Nat.ble ws.length 4096) (some (.none, hp.set j (.list (ws ++ [x])))))
    | _ => none)
  | _, _ => none
theorem Inv.put {ρ : List Addr} {fr : Sl} {hp : Hp} {s : Shared} (I : Inv W d Γ ρ fr hp s) {j : Nat} {a : Addr} {o o' : O} (ea : ρ[j]? = some a) (eo : hp[j]? = some o) (hm : o.mut = true) {h : Heap} (k : ∀ b x, b ≠ a → s.heap.get? b = some x → h.get? b = some x)
    (r : OR ρ h a o') (v : V) (u : Value) (hv : VR ρ v u) (t : Nat) : EvP ρ hp v (hp.set j o') s u { s with heap := h, toks := t } := by
  obtain ⟨S, R⟩ := wr_put (t := t) (wr := []) I.rh ea eo hm (fun b x hne _ e => k b x hne e) (fun _ h => nomatch h) (fun _ _ h => nomatch h) r
  exact ⟨ρ, S, R, hv⟩
theorem m_append : MethM W d "list.append" appendMe := by
  intro Γ fr hp v vs w hp' ρ s u us e I rv rs
  unfold appendMe at e
  split at e
  · rename_i j x
    obtain ⟨a, ea, rfl⟩ := rv
    obtain ⟨y, us', rfl, ry, rn⟩ := rs.uncons
    cases rn.unnil
    split at e
    · rename_i ws hj
      refine obB_elim e fun hl e => ?_
      obtain ⟨rfl, rfl⟩ := si2 e
      obtain ⟨its, n, hg, rs⟩ := I.rh.ob j _ a hj ea
      have hsz : its.size = ws.length := by rw [rs.1]; simp
      refine wpAny_list_append_plain (hsz := by rw [hsz]; exact line_of hl) ⟨n, hg⟩ fun h' pl sb => ?_
      obtain ⟨n', pl⟩ := pl
      exact I.put (o' := .list (ws ++ [x])) ea hj rfl (fun b x hne e => sameBut_keep sb hne e) ⟨_, n', pl, by rw [Array.toList_push]; exact rs.append (.one ry)⟩ .none .none rfl s.toks
    · exact nn e
  · exact nn e
end


section
variable {W : Wd} {d : Nat} {Γ : Fm}

noncomputable def countMe : MeF := fun v vs hp => match v, vs with
  | .own j, [.int k] => (match hp[j]? with
    | some (.list ws) => (obB (ws.all (fun w => match w with | .int _ => true | _ => false)) (some (.int (ws.countP (fun w => match w with | .int i => i == k | _ => false) : Nat), hp)))
    | _ => none)
  | _, _ => none
theorem count_vrs {ρ : List Addr} {k : Int} : ∀ {ws : List V} {us : List Value}, VRs ρ ws us → ws.all (fun w => match w with | .int _ => true | _ => false) = true →
    (us.countP (fun u => match u with | .int i _ => i == k | _ => false)) = (ws.countP (fun w => match w with | .int i => i == k | _ => false)) ∧ ∀ u ∈ us, ∃ i t, u = .int i t
  | [], us, r, _ => by rw [r.unnil]; exact ⟨rfl, fun _ h => nomatch h⟩
  | w :: ws, us, r, h => by
    obtain ⟨u, us', rfl, ru, rs⟩ := r.uncons
    rw [List.all_cons, Bool.and_eq_true] at h
    obtain ⟨a, b⟩ := count_vrs (k := k) rs h.2
    cases w with
    | int i =>
      obtain ⟨t, rfl⟩ := ru
      refine ⟨?_, fun u hu => ?_⟩
      · simp only [List.countP_cons, a]
      · rcases List.mem_cons.mp hu with rfl | hu
        · exact ⟨_, _, rfl⟩
        · exact b u hu
    | _ => simp at h
theorem m_count : MethM W d "list.count" countMe := by
  intro Γ fr hp v vs w hp' ρ s u us e I rv rs
  unfold countMe at e
  split at e
  · rename_i j k
    obtain ⟨a, ea, rfl⟩ := rv
    obtain ⟨y, us', rfl, ⟨t, rfl⟩, rn⟩ := rs.uncons
    cases rn.unnil
    split at e
    · rename_i ws hj
      refine obB_elim e fun hal e => ?_
      obtain ⟨rfl, rfl⟩ := si2 e
      obtain ⟨its, n, hg, rs⟩ := I.rh.ob j _ a hj ea
      obtain ⟨c1, c2⟩ := count_vrs (k := k) rs hal
      refine call_meets F.slot_list_count ⟨_, hg, rfl⟩ F.entry_list_count (F.args_list_count_2 _ _) (PySem.MeetsSeq.list_count a its n (.int k t) (fun u => match u with | .int i _ => i == k | _ => false) fun y hy => ?_) ⟨hg, ?_⟩
      · obtain ⟨i, t', rfl⟩ := c2 y (by simpa using hy)
        exact PySem.MeetsSeq.EqGives.int i k t' t
      · rw [c1]; exact .same I.rh ⟨_, rfl⟩
    · exact nn e
  · exact nn e
noncomputable def strCountMe : MeF := fun v vs hp => match v, vs with
  | .str x, [.str y] => some (.int ((PySem.Builtin.Str.occurrences ⟨x.toArray⟩ ⟨y.toArray⟩ 0 x.length (x.length + 1)).length : Nat), hp)
  | _, _ => none
theorem m_strcount : MethM W d "str.count" strCountMe := by
  intro Γ fr hp v vs w hp' ρ s u us e I rv rs
  unfold strCountMe at e
  split at e
  · rename_i x y
    obtain ⟨rfl, rfl⟩ := si2 e
    obtain ⟨t, rfl⟩ := rv
    obtain ⟨z, us', rfl, ⟨t', rfl⟩, rn⟩ := rs.uncons
    cases rn.unnil
    refine call_gives F.slot_str_count (typeIs_str _ _ _) F.entry_str_count (F.args_str_count_2 _ _) (gives_str_count _ _ _ _) ?_
    have hx : (⟨x.toArray⟩ : Str).length = x.length := by simp [Str.length]
    show EvP ρ _ _ _ s (.int _ s.toks) { s with toks := s.toks + 1 }
    rw [hx]
    exact .same I.rh ⟨_, rfl⟩
  · exact nn e

noncomputable def addL : OpF := fun a b hp => match a, b with
  | .own i, .own j => (match hp[i]?, hp[j]? with
    | some (.list x), some (.list y) => (obB (Nat.ble x.length 4096 && Nat.ble y.length 4096) (some (.own hp.length, hp ++ [.list (x ++ y)])))
    | _, _ => none)
  | _, _ => none
theorem op_addL : OpM W d Γ (binaryOp .Add) addL := by
  intro fr hp a b v hp' ρ s u₁ u₂ e I ra rb
  unfold addL at e
  split at e
  · rename_i i j
    split at e
    · rename_i x y hi hj
      refine obB_elim e fun hl e => ?_
      obtain ⟨rfl, rfl⟩ := si2 e
      obtain ⟨l1, l2⟩ := Bool.and_eq_true_iff.mp hl
      obtain ⟨a1, e1, rfl⟩ := ra
      obtain ⟨a2, e2, rfl⟩ := rb
      obtain ⟨x1, n1, g1, r1⟩ := I.rh.ob i _ a1 hi e1
      obtain ⟨x2, n2, g2, r2⟩ := I.rh.ob j _ a2 hj e2
      have h1 : x1.size = x.length := by rw [r1.1]; simp
      have h2 : x2.size = y.length := by rw [r2.1]; simp
      have := Nat.le_of_ble_eq_true l1
      have := Nat.le_of_ble_eq_true l2
      refine PySem.P.add_list (n := n1) (n2 := n2) (hsz := by rw [sizeLine_eq]; omega) g1 g2 (.fresh (t := s.toks) I.rh (fun _ _ e => Heap.get?_push_of_some _ e) (get_size_none _) ⟨x1 ++ x2, 0, Heap.get?_push_size _ rfl, ?_⟩)
      rw [Array.toList_append]
      exact (r1.append r2).mono (List.prefix_append _ _)
    · exact nn e
  · exact nn e
noncomputable def mulL : OpF := fun a b hp => match a, b with
  | .own i, .int (.ofNat k) => (match hp[i]? with
    | some (.list x) => (obB (Nat.ble (x.length * k) 4096 && Nat.ble k 4096) (some (.own hp.length, hp ++ [.list (List.replicate k x).flatten])))
    | _ => none)
  | _, _ => none
theorem vrs_rep {ρ : List Addr} {x : List V} {us : List Value} (r : VRs ρ x us) : ∀ k : Nat, VRs ρ (List.replicate k x).flatten (List.replicate k us).flatten
  | 0 => .nil
  | k + 1 => by
    rw [List.replicate_succ, List.replicate_succ, List.flatten_cons, List.flatten_cons]
    exact r.append (vrs_rep r k)
theorem mul_list_raw {prog : Program} {w : World} {A : Around} {E : Value → Shared → Prop} {s : Shared} {l : Addr} {its : Array Value} {n : Nat} {x : Int} {t : Tok} {Q : Value → Shared → Prop} (hg : s.heap.get? l = some { cls := .type "list", data := .seq its n })
    (h0 : 0 ≤ x) (h1 : x ≤ 4096) (h2 : its.size * x.toNat ≤ 4096)
    (h : Q (.ref s.heap.objs.size) { s with heap := s.heap.push { cls := .type "list", data := .seq (List.foldl (fun x1 x2 => x1 ++ x2) #[] (List.replicate (if its.isEmpty = true then 0 else x.toNat) its)) }, toks := s.toks }) :
    wpAny (model prog w) A (binaryOp .Mult (.ref l) (.int x t)) Q E s :=
  PySem.wpAny_binaryOp_repeat_ref (T := "list") (U := "int") (by decide) ⟨_, hg, rfl⟩ (fun s' => typeIs_int s' x t) noFill_list_mul F.fills_int_mul F.slot_int_rmul repeat_list F.slot_int_index.lookup
    (call_meets F.slot_int_rmul (typeIs_int s x t) F.entry_int_rmul (F.args_int_rmul_2 _ _) (int___rmul___int_list x t l its n)
      ⟨hg, rfl, ⟨_, hg, rfl⟩, call_meets F.slot_list_mul ⟨_, hg, rfl⟩ F.entry_list_mul (F.args_list_mul_2 _ _)
        (AutoListH.list___mul___list_int_3 l its n x t (by simp [Builtin.List.listFitsIndex]; omega) (by omega) (by simp [Builtin.List.listTooLong, sizeLine]; omega)) ⟨hg, h⟩⟩)
theorem op_mulL : OpM W d Γ (binaryOp .Mult) mulL := by
  intro fr hp a b v hp' ρ s u₁ u₂ e I ra rb
  unfold mulL at e
  split at e
  · rename_i i k
    split at e
    · rename_i x hi
      refine obB_elim e fun hl e => ?_
      obtain ⟨rfl, rfl⟩ := si2 e
      obtain ⟨l1, l2⟩ := Bool.and_eq_true_iff.mp hl
      have l1 := Nat.le_of_ble_eq_true l1
      have l2 := Nat.le_of_ble_eq_true l2
      obtain ⟨a1, e1, rfl⟩ := ra
      obtain ⟨t, rfl⟩ := rb
      obtain ⟨x1, n1, g1, r1⟩ := I.rh.ob i _ a1 hi e1
      have h1 : x1.size = x.length := by rw [r1.1]; simp
      have hz : (Int.ofNat k).toNat = k := rfl
      refine mul_list_raw g1 (Int.natCast_nonneg k) (by simp only [Int.ofNat_eq_natCast]; omega) (by rw [h1, hz]; exact l1) (.fresh (t := s.toks) I.rh (fun _ _ e => Heap.get?_push_of_some _ e) (get_size_none _) ⟨_, 0, Heap.get?_push_size _ rfl, ?_⟩)
      rw [listMul_foldl, hz]
      by_cases hz : x1.isEmpty = true
      · rw [if_pos hz]
        have : x1.toList = [] := by
          have := Array.isEmpty_iff.mp hz
          rw [this]
        rw [this] at r1
        have hx : x = [] := by have := r1.1; simpa using this
        subst hx
        have : (List.replicate k ([] : List V)).flatten = [] := by simp
        rw [this]
        exact .nil
      · rw [if_neg hz]
        simpa using (vrs_rep r1 k).mono (List.prefix_append _ _)
    · exact nn e
  · exact nn e
noncomputable def isOwn : V → Bool
  | .own _ => true
  | _ => false
noncomputable def orF (g1 g2 : OpF) : OpF := fun a b hp => match isOwn a with
  | true => g1 a b hp
  | false => g2 a b hp
theorem op_or {t : Value → Value → Sem Value} {g1 g2 : OpF} (h1 : OpM W d Γ t g1) (h2 : OpM W d Γ t g2) : OpM W d Γ t (orF g1 g2) := by
  intro fr hp a b v hp' ρ s u₁ u₂ e I ra rb
  unfold orF at e
  split at e
  · exact h1 fr hp a b v hp' ρ s u₁ u₂ e I ra rb
  · exact h2 fr hp a b v hp' ρ s u₁ u₂ e I ra rb
theorem op_addA : OpM W d Γ (binaryOp .Add) (orF addL addF) := op_or op_addL op_add
theorem op_mulA : OpM W d Γ (binaryOp .Mult) (orF mulL mulF) := op_or op_mulL op_mul

noncomputable def defNm (ls : List Str) (cs : List (Str × Nat)) (L : Addr) : List (Str × Option Addr) := ls.map (fun x => (x, none)) ++ cs.map (fun p => (p.1, some (L + 1 + p.2)))
noncomputable def defFm (A : Around) (fd : FuncData) (f : Addr) (ls : List Str) (cs : List (Str × Nat)) (L : Addr) : Fm := ⟨A.deeper (callEnvC fd L f), callEnvC fd L f, defNm ls cs L⟩
noncomputable def initFr (np n : Nat) (vs : List V) : Option Sl := obB (Nat.beq vs.length np) (some (vs.map some ++ List.replicate n none))
noncomputable def defF (np n : Nat) (b : ExF) : FnF := fun vs hp => ob1 (initFr np n vs) fun fr => (match b fr hp with
    | some (.ret v, _, h) => some (v, h)
    | some (.next, _, h) => some (.none, h)
    | _ => none)
inductive DefS (np n : Nat) (b : ExF) (vs : List V) (hp : Hp) (v : V) (hp' : Hp) : Prop
  | ret (hl : vs.length = np) (fr2 : Sl) (e : b (vs.map some ++ List.replicate n none) hp = some (.ret v, fr2, hp')) : DefS np n b vs hp v hp'
  | next (hl : vs.length = np) (fr2 : Sl) (e : b (vs.map some ++ List.replicate n none) hp = some (.next, fr2, hp')) (hv : v = .none) : DefS np n b vs hp v hp'
theorem defF_some {np n : Nat} {b : ExF} {vs : List V} {hp : Hp} {v : V} {hp' : Hp} (e : defF np n b vs hp = some (v, hp')) : DefS np n b vs hp v hp' := by
  unfold defF at e
  refine ob1_elim e fun fr0 ei e => ?_
  unfold initFr at ei
  refine obB_elim ei fun hl ei => ?_
  cases ei
  have hl := Nat.eq_of_beq_eq_true hl
  split at e
  · rename_i w fr2 h2 eb
    obtain ⟨rfl, rfl⟩ := si2 e
    exact .ret hl fr2 eb
  · rename_i fr2 h2 eb
    obtain ⟨rfl, rfl⟩ := si2 e
    exact .next hl fr2 eb rfl
  · exact nn e
theorem DefS.len {np n : Nat} {b : ExF} {vs : List V} {hp : Hp} {v : V} {hp' : Hp} (e : DefS np n b vs hp v hp') : vs.length = np := by
  cases e <;> assumption
structure DefOk (W : Wd) (f : Addr) (fd : FuncData) (body : List Stmt) (ps ls : List Str) (cs : List (Str × Nat)) : Prop where
  at' : ∃ o, W.K.lookup f = some o ∧ o.data = .func fd
  code : codeIn W.K fd.code fd.qualname = true
  body : fd.body = .stmts body
  bind : ∀ us : List Value, us.length = ps.length → bindArgs fd ⟨us, []⟩ = pure (ps.zip us)
  clo : fd.closure = []
  glob : fd.globals = mainGlobals
  blt : fd.builtins = builtinsNs
  kind : fd.scope.kind = .function
  co : fd.scope.isCoroutine = false
  gen : fd.scope.isGenerator = false
  loc : ∀ x ∈ ps ++ ls, fd.scope.names.lookup x = some .local ∧ noDebug x
  cel : ∀ (L : Addr) (p : Str × Nat), p ∈ cs → fd.scope.names.lookup p.1 = some .cell ∧ (cellsFrom (L + 1) fd.scope.names []).lookup p.1 = some (L + 1 + p.2) ∧ noDebug p.1
  nd : ((ps ++ ls) ++ cs.map (·.1)).Nodup
  ndc : (cs.map (·.2)).Nodup

theorem defNm_none {ls : List Str} {cs : List (Str × Nat)} {L : Addr} {i : Nat} {x : Str} (h : (defNm ls cs L)[i]? = some (x, none)) : ls[i]? = some x := by
  unfold defNm at h
  by_cases hi : i < ls.length
  · rw [List.getElem?_append_left (by simpa using hi), List.getElem?_map] at h
    cases q : ls[i]? with
    | none => rw [q] at h; cases h
    | some y => rw [q] at h; cases h; rfl
  · rw [List.getElem?_append_right (by simpa using hi), List.getElem?_map] at h
    cases q : cs[i - (ls.map (fun x => ((x, none) : Str × Option Addr))).length]? with
    | none => rw [q] at h; cases h
    | some y => rw [q] at h; cases h
theorem defNm_some {ls : List Str} {cs : List (Str × Nat)} {L : Addr} {i : Nat} {x : Str} {c : Addr} (h : (defNm ls cs L)[i]? = some (x, some c)) : ∃ k p, i = ls.length + k ∧ cs[k]? = some p ∧ x = p.1 ∧ c = L + 1 + p.2 := by
  unfold defNm at h
  by_cases hi : i < ls.length
  · rw [List.getElem?_append_left (by simpa using hi), List.getElem?_map] at h
    cases q : ls[i]? with
    | none => rw [q] at h; cases h
    | some y => rw [q] at h; cases h
  · rw [List.getElem?_append_right (by simpa using hi), List.getElem?_map, List.length_map] at h
    cases q : cs[i - ls.length]? with
    | none => rw [q] at h; cases h
    | some y => rw [q] at h; cases h; exact ⟨i - ls.length, y, by omega, q, rfl, rfl⟩
theorem defNm_name {ls : List Str} {cs : List (Str × Nat)} {L : Addr} {i : Nat} {x : Str} {o : Option Addr} (h : (defNm ls cs L)[i]? = some (x, o)) : (ls ++ cs.map (·.1))[i]? = some x := by
  have : (ls ++ cs.map (·.1)) = (defNm ls cs L).map (·.1) := by unfold defNm; simp [Function.comp_def]
  rw [this, List.getElem?_map, h]; rfl
theorem bindL_miss {k : Str → Option NameKind} {x : Str} : ∀ {ps : List Str} {us : List Value} {m : Str → Option Value}, x ∉ ps → bindL k (ps.zip us) m x = m x
  | [], _, _, _ => by simp [bindL]
  | _ :: _, [], _, _ => by simp [bindL]
  | p :: ps, u :: us, m, h => by
    rw [List.zip_cons_cons, bindL, bindL_miss (fun q => h (List.mem_cons_of_mem _ q))]
    split
    · show (if x = p then some u else m x) = m x
      exact if_neg fun q => h (by rw [q]; exact List.mem_cons_self)
    · rfl
theorem bindL_get {k : Str → Option NameKind} : ∀ {ps : List Str} {us : List Value} {m : Str → Option Value} {i : Nat} {x : Str} {u : Value}, ps.Nodup → (∀ y ∈ ps, k y = some .local) → ps[i]? = some x → us[i]? = some u → bindL k (ps.zip us) m x = some u
  | [], _, _, _, _, _, _, _, h, _ => by simp at h
  | _ :: _, [], _, _, _, _, _, _, _, h => by simp at h
  | p :: ps, v :: us, m, i, x, u, nd, hk, hp, hu => by
    rw [List.zip_cons_cons, bindL, if_pos (hk p List.mem_cons_self)]
    cases i with
    | zero =>
      simp at hp hu
      subst hp; subst hu
      rw [bindL_miss (List.nodup_cons.mp nd).1]
      simp
    | succ i =>
      exact bindL_get (List.nodup_cons.mp nd).2 (fun y h => hk y (List.mem_cons_of_mem _ h)) (by simpa using hp) (by simpa using hu)

structure InvC (W : Wd) (d : Nat) (A : Around) (ρ : List Addr) (hp : Hp) (s : Shared) : Prop where
  hand : A.handled = none
  room : A.depth + 3 * d + 2 < recursionLimit
  units : A.units + 12 * d + 100 < cLine
  rh : RH ρ hp s.heap
  base : ∀ b o, W.g.get? b = some o → s.heap.get? b = some o
  sep : ∀ a ∈ ρ, W.g.get? a = none
theorem Inv.c {ρ : List Addr} {fr : Sl} {hp : Hp} {s : Shared} (I : Inv W d Γ ρ fr hp s) : InvC W d Γ.A ρ hp s := ⟨I.ok.hand, I.ok.room, I.ok.units, I.rh, I.base, fun a h => (I.sep a h).2⟩
theorem call_raw {f : Addr} {fd : FuncData} {body : List Stmt} {ps ls : List Str} {cs : List (Str × Nat)} {b : ExF} (D : DefOk W f fd body ps ls cs) {A : Around} (hb : ∀ L, StM W d (defFm A fd f (ps ++ ls) cs L) body b)
    {hp : Hp} {vs : List V} {v : V} {hp' : Hp} {ρ : List Addr} {s : Shared} {us : List Value} (e : defF ps.length (ls.length + cs.length) b vs hp = some (v, hp')) (I : InvC W (d + 1) A ρ hp s) (r : VRs ρ vs us) :
    codeAny (model W.prog W.w) A (.call (.ref f) ⟨us, []⟩) (fun r s' => match r with | .ok (.ret u) => EvP ρ hp v hp' s u s' | .ok _ => False | .error _ => False) s := by
  have e := defF_some e
  have hl := e.len
  have hul : us.length = ps.length := by rw [← r.1, hl]
  obtain ⟨o, ho, hd⟩ := D.at'
  have XX : W.K.In s.heap := W.X.keeps I.base
  have psl : ∀ y ∈ ps, fd.scope.names.lookup y = some .local := fun y hy => (D.loc y (List.mem_append_left _ hy)).1
  refine codeAny_call_cells (binds := ps.zip us) (Nat.lt_of_le_of_lt (Nat.le_trans (Nat.le_add_right _ _) (Nat.le_add_right _ _)) I.room) (XX _ _ ho) hd (W.lim.keeps I.base) (codeRec_of XX D.code) D.body (D.bind us hul) D.clo (fun x hx => .inl (psl x.1 (List.of_mem_zip hx).1)) (fun s₁ C => ?_) D.co D.gen D.kind
  have keep := C.toInCall.keep
  have nL : s.heap.get? s.heap.objs.size = none := get_size_none _
  have nA : ∀ a, s.heap.objs.size ≤ a → s.heap.get? a = none := fun a h => Heap.get?_none_of_le h
  have nW : ∀ a, s.heap.get? a = none → W.g.get? a = none := fun a h => by
    cases e : W.g.get? a with
    | none => rfl
    | some o => have := I.base a o e; rw [h] at this; cases this
  have wrn : ∀ a ∈ (defFm A fd f (ps ++ ls) cs s.heap.objs.size).wr, s.heap.get? a = none := fun a ha => by
    rcases List.mem_cons.mp ha with z | ha
    · rw [show a = s.heap.objs.size from z]; exact nL
    · obtain ⟨i, x, e⟩ := cs_mem ha
      obtain ⟨k, p, _, _, _, rfl⟩ := defNm_some e
      exact nA _ (by omega)
  have hok : (defFm A fd f (ps ++ ls) cs s.heap.objs.size).Ok W d := by
    refine ⟨D.kind, D.glob, D.blt, I.hand, room_dn I.room (Nat.le_refl _), units_dn I.units (Nat.add_le_add_left (by decide) _), fun i x e => D.loc x (List.mem_of_getElem? (defNm_none e)), fun i x c e => ?_,
      fun i j x y c c' ei ej hij => ⟨nodup_ne D.nd (defNm_name ei) (defNm_name ej) hij, fun hc => ?_⟩, fun c hc => ?_, fun a ha => nW a (wrn a ha)⟩
    · obtain ⟨k, p, _, hp, rfl, rfl⟩ := defNm_some e
      obtain ⟨a1, a2, a3⟩ := D.cel s.heap.objs.size p (List.mem_of_getElem? hp)
      exact ⟨.inl a1, a2, a3⟩
    · cases c with
      | none => cases hc
      | some c =>
        cases c' with
        | none => intro z; cases z
        | some c' =>
          obtain ⟨k, p, hk, hp, _, rfl⟩ := defNm_some ei
          obtain ⟨k', p', hk', hp', _, rfl⟩ := defNm_some ej
          have : p.2 ≠ p'.2 := nodup_ne D.ndc (i := k) (j := k') (by rw [List.getElem?_map, hp]; rfl) (by rw [List.getElem?_map, hp']; rfl) (by omega)
          intro z
          exact this (Nat.add_left_cancel (Option.some.inj z).symm).symm
    · obtain ⟨i, x, e⟩ := cs_mem hc
      obtain ⟨k, p, _, hp, _, rfl⟩ := defNm_some e
      show s.heap.objs.size + 1 + p.2 ≠ s.heap.objs.size
      omega
  have R₁ : RH ρ hp s₁.heap := I.rh.keeps fun a _ x e => keep a x e
  have F₁ : FR (defFm A fd f (ps ++ ls) cs s.heap.objs.size) ρ (vs.map some ++ List.replicate (ls.length + cs.length) none) s₁.heap := by
    refine ⟨⟨_, C.toInCall.ns, fun i x w ei hw => ?_⟩, fun i x c ei => ?_⟩
    · by_cases hi : i < vs.length
      · rw [List.getElem?_append_left (by simpa using hi), List.getElem?_map] at hw
        cases q : vs[i]? with
        | none => rw [q] at hw; cases hw
        | some w' =>
          rw [q] at hw; cases hw
          obtain ⟨u, eu, ru⟩ := r.2 i w q
          have hx := defNm_none ei
          rw [List.getElem?_append_left (by rw [← hl]; exact hi)] at hx
          exact ⟨u, bindL_get (List.nodup_append.mp (List.nodup_append.mp D.nd).1).1 psl hx eu, ru⟩
      · rw [List.getElem?_append_right (by simpa using hi), List.getElem?_replicate] at hw
        split at hw <;> cases hw
    · obtain ⟨k, p, hk, hp, rfl, rfl⟩ := defNm_some ei
      refine ⟨_, C.cell _ _ (D.cel s.heap.objs.size p (List.mem_of_getElem? hp)).2.1, fun w hw => ?_⟩
      rw [List.getElem?_append_right (by simp at hk ⊢; omega), List.getElem?_replicate] at hw
      split at hw <;> cases hw
  have nin : ∀ a ∈ ρ, a ∉ (defFm A fd f (ps ++ ls) cs s.heap.objs.size).wr := fun a ha m => by
    obtain ⟨j, ej⟩ := List.getElem?_of_mem ha
    obtain ⟨x, ex⟩ := I.rh.obj ej
    obtain ⟨o', eo'⟩ := (I.rh.ob j x a ex ej).there
    rw [wrn a m] at eo'
    cases eo'
  have I₁ : Inv W d (defFm A fd f (ps ++ ls) cs s.heap.objs.size) ρ (vs.map some ++ List.replicate (ls.length + cs.length) none) hp s₁ :=
    ⟨hok, R₁, F₁, fun b o e => keep b o (I.base b o e), fun a ha => ⟨nin a ha, I.sep a ha⟩⟩
  have S₁ : Step ρ hp ρ hp [] s s₁ := by
    obtain ⟨h, t, rfl⟩ := C.toInCall.same
    exact .kept keep
  have fin : ∀ fl fr2 (val : Flow) (s' : Shared), ExP (defFm A fd f (ps ++ ls) cs s.heap.objs.size) ρ hp fl fr2 hp' s₁ val s' → ∃ ρ', Step ρ hp ρ' hp' [] s s' ∧ RH ρ' hp' s'.heap ∧ FlR ρ' fl val := fun fl fr2 val s' p => by
    obtain ⟨ρ₂, S₂, R₂, _, z⟩ := p
    exact ⟨ρ₂, (S₁.up.trans I.rh R₁ S₂).unwr wrn, R₂, z⟩
  rcases e with ⟨_, fr2, eb⟩ | ⟨_, fr2, eb, rfl⟩
  · refine wpAny_mono (hb s.heap.objs.size _ _ _ _ _ ρ s₁ eb I₁) (fun fl s' p => ?_) fun _ _ x => x.elim
    obtain ⟨ρ₂, S₂, R₂, u, rfl, ru⟩ := fin _ _ _ _ p
    exact ⟨ρ₂, S₂, R₂, ru⟩
  · refine wpAny_mono (hb s.heap.objs.size _ _ _ _ _ ρ s₁ eb I₁) (fun fl s' p => ?_) fun _ _ x => x.elim
    obtain ⟨ρ₂, S₂, R₂, rfl⟩ := fin _ _ _ _ p
    exact ⟨ρ₂, S₂, R₂, rfl⟩
theorem call_def {f : Addr} {fd : FuncData} {body : List Stmt} {ps ls : List Str} {cs : List (Str × Nat)} {b : ExF} (D : DefOk W f fd body ps ls cs) (hb : ∀ A L, StM W d (defFm A fd f (ps ++ ls) cs L) body b) :
    CallC W (d + 1) (.ref f) (defF ps.length (ls.length + cs.length) b) :=
  fun Γ _ _ _ _ _ _ _ _ e I r => call_raw D (hb Γ.A) e I.c r
end


section
variable {W : Wd} {d : Nat} {Γ : Fm}

noncomputable def clsF (C : Addr) (Fi : FnF) : FnF := fun vs hp => match Fi (.own (hp.length + 1) :: vs) (hp ++ [.attrs [], .inst C hp.length]) with
  | some (.none, h) => some (.own (hp.length + 1), h)
  | _ => none
theorem call_cls' {C fI : Addr} {Fi : FnF} (hm : makesIn W.K C = true) (hi : findIn W.K (.ref C) "__init__" = some (some (.ref fI))) (hf : typeIn W.K (.ref fI) = some (.type "function")) (hF : CallC W d (.ref fI) Fi) :
    CallC W (d + 1) (.ref C) (clsF C Fi) := by
  intro Γ fr hp vs v hp' ρ s us e I r
  unfold clsF at e
  split at e
  · rename_i h2 e2
    obtain ⟨rfl, rfl⟩ := si2 e
    have XX : W.K.In s.heap := W.X.keeps I.base
    obtain ⟨hh, g, dd, t, os⟩ := s
    have k1 : ∀ b o, hh.get? b = some o → (hh.push emptyDict).get? b = some o := fun b o e => Heap.get?_push_of_some _ e
    have k2 : ∀ b o, (hh.push emptyDict).get? b = some o → ((hh.push emptyDict).push (instObj C hh.objs.size)).get? b = some o := fun b o e => Heap.get?_push_of_some _ e
    have nD : hh.get? hh.objs.size = none := get_size_none _
    have nX : (hh.push emptyDict).get? (hh.objs.size + 1) = none := by rw [← Heap.size_push hh emptyDict]; exact get_size_none _
    have nX0 : hh.get? (hh.objs.size + 1) = none := Heap.get?_none_of_le (Nat.le_succ _)
    have rno : hh.objs.size ∉ ρ := fun m => Nat.lt_irrefl _ (I.rh.lt m)
    have rno1 : hh.objs.size + 1 ∉ ρ := fun m => absurd (I.rh.lt m) (by show ¬ (hh.objs.size + 1 < hh.objs.size); omega)
    have R1 : RH (ρ ++ [hh.objs.size]) (hp ++ [.attrs []]) (hh.push emptyDict) := I.rh.alloc (fun b _ x e => k1 b x e) rno ⟨[], 0, Heap.get?_push_size _ rfl, rfl, fun i v h => by simp at h⟩
    have rno2 : hh.objs.size + 1 ∉ ρ ++ [hh.objs.size] := fun m => by
      rcases List.mem_append.mp m with m | m
      · exact rno1 m
      · have := List.mem_singleton.mp m; omega
    have hx : ((hh.push emptyDict).push (instObj C hh.objs.size)).get? (hh.objs.size + 1) = some (instObj C hh.objs.size) := by rw [← Heap.size_push hh emptyDict]; exact Heap.get?_push_size _ rfl
    have R2 : RH (ρ ++ [hh.objs.size] ++ [hh.objs.size + 1]) (hp ++ [.attrs []] ++ [.inst C hp.length]) ((hh.push emptyDict).push (instObj C hh.objs.size)) :=
      R1.alloc (fun b _ x e => k2 b x e) rno2 ⟨hh.objs.size, by rw [← I.rh.len]; simp, hx⟩
    have S1 : Step ρ hp (ρ ++ [hh.objs.size]) (hp ++ [.attrs []]) [] (⟨hh, g, dd, t, os⟩ : Shared) ⟨hh.push emptyDict, g, dd, t, os⟩ := .alloc k1 nD
    have S2 : Step (ρ ++ [hh.objs.size]) (hp ++ [.attrs []]) (ρ ++ [hh.objs.size] ++ [hh.objs.size + 1]) (hp ++ [.attrs []] ++ [.inst C hp.length]) [] (⟨hh.push emptyDict, g, dd, t, os⟩ : Shared) ⟨(hh.push emptyDict).push (instObj C hh.objs.size), g, dd, t, os⟩ := .alloc k2 nX
    have S12 := S1.trans I.rh R1 S2
    have hxl : (ρ ++ [hh.objs.size] ++ [hh.objs.size + 1])[hp.length + 1]? = some (hh.objs.size + 1) := by rw [← I.rh.len]; simp
    have J := I.step S12 R2
    refine make_core (makes_of XX hm) (looks_findIn XX hi) (fun self => bind_fn XX self hf) (.inl rfl) ?_
    have J' : Inv W d ⟨Γ.A.under (.builtin "type.__call__" ⟨.ref C :: us, []⟩), Γ.env, Γ.nm⟩ (ρ ++ [hh.objs.size] ++ [hh.objs.size + 1]) fr (hp ++ [.attrs []] ++ [.inst C hp.length]) ⟨(hh.push emptyDict).push (instObj C hh.objs.size), g, dd, t, os⟩ := by
      refine ⟨⟨J.ok.kind, J.ok.glob, J.ok.blt, J.ok.hand, ?_, ?_, J.ok.loc, J.ok.cel, J.ok.ndn, J.ok.sepc, J.ok.own⟩, J.rh, ⟨J.fr.ns, J.fr.cells⟩, J.base, J.sep⟩
      · exact room_dn I.ok.room (Nat.le_refl _)
      · have := I.ok.units
        have e : (Γ.A.under (.builtin "type.__call__" ⟨.ref C :: us, []⟩)).units ≤ Γ.A.units + 5 := by
          show Γ.A.units + _ ≤ _
          exact Nat.add_le_add_left (by with_unfolding_all exact Nat.le_of_ble_eq_true rfl) _
        exact units_dn I.ok.units e
    refine codeAny_mono (hF _ fr _ _ _ _ _ _ (.ref (hh.objs.size + 1) :: us) (by simpa using e2) J' (VRs.cons (v := .own (hp.length + 1)) ⟨_, hxl, rfl⟩ (r.mono S12.ext))) fun r s' z => ?_
    rcases r with e | (u | _ | _ | _) <;> try exact z.elim
    obtain ⟨ρ₃, S₃, R₃, rfl⟩ := z
    exact ⟨rfl, ρ₃, S12.trans I.rh R2 S₃, R₃, hh.objs.size + 1, pre_get S₃.ext hxl, rfl⟩
  · exact nn e

theorem get_miss : ∀ {es : List DictEntry} {k : Nat} {x : Str}, keysAt es k → x ∉ fldNames → getL x es = some none
  | [], _, _, _, _ => rfl
  | e :: es, k, x, hk, hx => by
    obtain ⟨y, t, hy, ey⟩ := hk 0 e (by simp)
    have ne : (y == x) = false := by
      have : y ≠ x := fun q => hx (q ▸ List.mem_of_getElem? hy)
      simpa using this
    have a := get_miss (es := es) (k := k + 1) (x := x) hk.tail hx
    unfold getL at a ⊢
    rw [List.find?_cons, isStr_key ey, ne, List.any_cons]
    have : e.refKey = false := by
      unfold DictEntry.refKey; rw [ey]
    rw [this]
    exact a

noncomputable def ownE (C : Addr) (fo : EvF) (g : EvsF) (F : FnF) : EvF := fun fr hp => match fo fr hp with
  | some (.own j, h1) => (match h1[j]? with
    | some (.inst C' dd) => (match Nat.beq C' C, h1[dd]? with
      | true, some (.attrs _) => (ob2 (g fr h1) fun vs h2 => F (.own j :: vs) h2)
      | _, _ => none)
    | _ => none)
  | _ => none
theorem own_core {C f : Addr} (K : ClsOk W C) {o : Expr} {args : List Expr} {name : Str} {apos pos : Pos} {fo : EvF} {g : EvsF} {F : FnF} (hf : findIn W.K (.ref C) name = some (some (.ref f))) (ht : typeIn W.K (.ref f) = some (.type "function")) (hx : name ∉ fldNames)
    (ho : EvM W d Γ o fo) (hc : CallM W d (.ref f) F) (pl : Sem Bool)
    (cw : ∀ (x : Addr) (s₁ : Shared) ρ₁ fr h1 v hp' vs h2 (Q : Value → Shared → Prop), Inv W d Γ ρ₁ fr h1 s₁ → g fr h1 = some (vs, h2) →
      (∀ ρ₂ s₂ us, Step ρ₁ h1 ρ₂ h2 [] s₁ s₂ → RH ρ₂ h2 s₂.heap → VRs ρ₂ vs us → wpAny (model W.prog W.w) Γ.A (call (.ref f) (.ref x :: us)) Q NoE s₂) → VR ρ₁ v (.ref x) → F (v :: vs) h2 = some hp' →
      wpAny (model W.prog W.w) Γ.A (callWith pos (.ref f) [.ref x] (backTo pos (starEach args Γ.env)) []) Q NoE s₁)
    (he : eval (.Call (.Attribute o name apos) args [] pos) Γ.env = (do
      let ov ← eval o Γ.env
      standAt apos.atName
      let (f, first) ← holding [ov] (getMethod ov name pl)
      callWith pos f first (backTo pos (starEach args Γ.env)) [])) :
    EvM W d Γ (.Call (.Attribute o name apos) args [] pos) (ownE C fo g F) := by
  intro fr hp v hp' ρ s q I
  unfold ownE at q
  split at q
  · rename_i j h1 e1
    split at q
    · rename_i C' dd hj
      split at q
      · rename_i ws hC hd
        refine ob2_elim q fun vs h2 e2 q => ?_
        cases Nat.eq_of_beq_eq_true hC
        refine MethodCall_ (pl := pl) (wpAny_mono (ho fr hp _ h1 ρ s e1 I) (fun u s₁ p => ?_) fun _ _ x => x) he
        obtain ⟨ρ₁, S₁, R₁, r₁⟩ := p
        have I₁ := I.step S₁ R₁
        have r1 := r₁
        obtain ⟨a, ea, rfl⟩ := r₁
        obtain ⟨dx, edx, hg⟩ := R₁.ob j _ a hj ea
        obtain ⟨es, n, hgd, l, qq⟩ := R₁.ob dd _ dx hd edx
        refine method_fn (W.X.keeps I₁.base) (⟨hg, rfl, rfl, hgd⟩ : InstAt s₁.heap a (instObj C dx) C (some (dictOf es n))) K.ga.1 K.ga.2 hf ht (by show (lookIn name (dictOf es n)).map _ = _; rw [lookIn_dict, get_miss (keys_of l qq) hx]; rfl) ?_
        refine cw a s₁ ρ₁ fr h1 _ _ vs h2 _ I₁ e2 (fun ρ₂ s₂ us S₂ R₂ r₂ => ?_) r1 q
        exact wpAny_mono (hc Γ fr h2 _ v hp' ρ₂ s₂ _ q (I₁.step S₂ R₂) (.cons (r1.mono S₂.ext) r₂)) (fun u s₃ p => (p.trans R₁ S₂ R₂).trans I.rh S₁ R₁) fun _ _ x => x
      · exact nn q
    · exact nn q
  · exact nn q
theorem ev_own {C f : Addr} (K : ClsOk W C) {o e : Expr} {rest : List Expr} {name : Str} {apos pos : Pos} {fo : EvF} {g : EvsF} {F : FnF} (hf : findIn W.K (.ref C) name = some (some (.ref f))) (ht : typeIn W.K (.ref f) = some (.type "function")) (hk : keepIn W.K (.ref f) = true) (hx : name ∉ fldNames)
    (ho : EvM W d Γ o fo) (hg : EvsM W d Γ (e :: rest) g) (hc : CallM W d (.ref f) F) {pl : Sem Bool}
    (he : eval (.Call (.Attribute o name apos) (e :: rest) [] pos) Γ.env = (do
      let ov ← eval o Γ.env
      standAt apos.atName
      let (f, first) ← holding [ov] (getMethod ov name pl)
      callWith pos f first (backTo pos (starEach (e :: rest) Γ.env)) []))
    (hst : starEach (e :: rest) Γ.env = (false, eval e Γ.env) :: starEach rest Γ.env) (hpl : (backTo pos (starEach rest Γ.env)).any (·.1) = false) :
    EvM W d Γ (.Call (.Attribute o name apos) (e :: rest) [] pos) (ownE C fo g F) := by
  refine own_core K hf ht hx ho hc pl (fun x s₁ ρ₁ fr h1 v hp' vs h2 Q I₁ e2 go _ _ => ?_) he
  refine callWith_K (h₀ := s₁.heap) (W.X.keeps I₁.base) hk (wpAny_mono (hg pos fr h1 vs h2 ρ₁ s₁ e2 I₁) (fun us s₂ p => ?_) fun _ _ x => x) hst hpl
  obtain ⟨ρ₂, S₂, R₂, r₂⟩ := p
  exact ⟨W.X.keeps (I₁.step S₂ R₂).base, go ρ₂ s₂ us S₂ R₂ r₂⟩
theorem ev_catt {C : Addr} {mc a : Value} {value : Expr} {x : Str} {pos : Pos} (v : V) (hb : EvM W d Γ value (cstF (.ref C))) (hr : readsIn W.K C mc = true) (e : findCls W.K (.ref C) mc x = some (.val a)) (hh : handedIn a = true) (hv : VR [] v a)
    (he : eval (.Attribute value x pos) Γ.env = (do
      let o ← eval value Γ.env
      standAt pos.atName
      let r ← holding [o] (getAttr o x true)
      letTemporaryGo value o r
      pure r)) : EvM W d Γ (.Attribute value x pos) (fun _ hp => some (v, hp)) := by
  intro fr hp v' hp' ρ s q I
  obtain ⟨rfl, rfl⟩ := si2 q
  refine Attribute_any_ (wpAny_mono (hb fr hp _ _ ρ s rfl I) (fun u s₁ p => ?_) fun _ _ x => x) he
  obtain ⟨ρ₁, S₁, R₁, r₁⟩ := p
  cases (r₁ : u = .ref C)
  exact cls_value (W.X.keeps (I.step S₁ R₁).base) hr e hh (EvP.trans I.rh S₁ R₁ (.same R₁ (hv.mono (List.nil_prefix))))
end

theorem lk {K : Frag} {a : Addr} {o : Obj} {fd : FuncData} (h : K.lookup a = some o) (h2 : o.data = .func fd) : ∃ o, K.lookup a = some o ∧ o.data = .func fd := ⟨o, h, h2⟩
theorem bind0 {fd : FuncData} (h : bindArgs fd ⟨[], []⟩ = pure []) : ∀ us : List Value, us.length = ([] : List Str).length → bindArgs fd ⟨us, []⟩ = pure (([] : List Str).zip us) := by
  intro us e
  rw [List.length_eq_zero_iff.mp e]
  exact h
theorem bind1 {fd : FuncData} {p : Str} (h : ∀ a, bindArgs fd ⟨[a], []⟩ = pure [(p, a)]) : ∀ us : List Value, us.length = [p].length → bindArgs fd ⟨us, []⟩ = pure ([p].zip us) := by
  intro us e
  obtain ⟨a, r, rfl, e1⟩ := len_cons e
  rw [List.length_eq_zero_iff.mp e1]
  exact h a
theorem bind2 {fd : FuncData} {p q : Str} (h : ∀ a b, bindArgs fd ⟨[a, b], []⟩ = pure [(p, a), (q, b)]) : ∀ us : List Value, us.length = [p, q].length → bindArgs fd ⟨us, []⟩ = pure ([p, q].zip us) := by
  intro us e
  obtain ⟨a, b, rfl⟩ := len_2 e
  exact h a b
section
variable {W : Wd} {d : Nat} {Γ : Fm}
theorem gf {K : Frag} {x : Str} {pos : Pos} {c : Value} (hW : W.K = K) (hx : nsIn K mainGlobals x = some (some c)) (hk : Γ.env.kindOf x = some .globalImplicit) (hd : noDebug x) : EvM W d Γ (.Name x pos) (cstF c) :=
  ev_glob (.cst c) (hW ▸ hx) hk rfl hd
theorem gb {K : Frag} {x : Str} {pos : Pos} {c : Value} (hW : W.K = K) (hx : nsIn K mainGlobals x = some none) (hb : bootBuiltins x = some c) (hk : Γ.env.kindOf x = some .globalImplicit) (hn : x ≠ "__name__") (hd : noDebug x) : EvM W d Γ (.Name x pos) (cstF c) :=
  ev_blt (hW ▸ hx) hb hk hn hd
end
section
variable {W : Wd} {d : Nat} {Γ : Fm}
noncomputable def intAt (K : Frag) (x : Str) : Option Int := match nsIn K mainGlobals x with
  | some (some (.int i _)) => some i
  | _ => none
theorem gli {K : Frag} {x : Str} {pos : Pos} (hW : W.K = K) (i : Int) (hx : intAt K x = some i) (hk : Γ.env.kindOf x = some .globalImplicit) (hd : noDebug x) : EvM W d Γ (.Name x pos) (fun _ hp => some (.int i, hp)) := by
  subst hW
  unfold intAt at hx
  split at hx
  · rename_i j t e
    cases hx
    exact ev_glob (.int i) e hk ⟨t, rfl⟩ hd
  · exact nn hx
theorem keep_of {K : Frag} {f : Value} (hW : W.K = K) (h : keepIn K f = true) : Callee W f := .inr (.inr (hW ▸ h))
noncomputable def strIn (K : Frag) (C : Addr) (x : Str) : Option (List Nat) := match findCls K (.ref C) (.type "type") x with
  | some (.val (.str s _)) => some s.cps.toList
  | _ => none
theorem ev_cattS {K : Frag} {C : Addr} {value : Expr} {x : Str} {pos : Pos} (hW : W.K = K) (c : List Nat) (hb : EvM W d Γ value (cstF (.ref C))) (hr : readsIn K C (.type "type") = true) (e : strIn K C x = some c)
    (he : eval (.Attribute value x pos) Γ.env = (do
      let o ← eval value Γ.env
      standAt pos.atName
      let r ← holding [o] (getAttr o x true)
      letTemporaryGo value o r
      pure r)) : EvM W d Γ (.Attribute value x pos) (fun _ hp => some (.str c, hp)) := by
  subst hW
  unfold strIn at e
  split at e
  · rename_i s t q
    cases e
    exact ev_catt (.str s.cps.toList) hb hr q rfl ⟨t, by simp⟩ he
  · exact nn e
noncomputable def tabIs (K : Frag) (D : Addr) (tb : List (List Nat × Option Int)) : Bool := tb.all fun p => match nsIn K D ⟨p.1.toArray⟩, p.2 with
  | some (some (.int i _)), some j => i == j
  | some none, none => true
  | _, _ => false
theorem tab_ok {K : Frag} {D : Addr} {tb : List (List Nat × Option Int)} {es : Array DictEntry} {n : Nat} (hW : W.K = K) (hl : K.lookup D = some ⟨.type "dict", none, .dict es n, #[]⟩) (hk : KeysLit W.w.params es.toList) (hs : (D == sysModules) = false) (h : tabIs K D tb = true) : TabOk W D tb := by
  subst hW
  refine ⟨⟨es, n, hl, hk⟩, hs, fun p hp => ?_⟩
  have := List.all_eq_true.mp h p hp
  split at this
  · rename_i i t j e1 e2
    refine ⟨_, e1, ?_⟩
    rw [e2]
    exact ⟨t, by rw [show i = j from by simpa using this]⟩
  · rename_i e1 e2
    refine ⟨_, e1, ?_⟩
    rw [e2]
  · cases this
theorem cls_ok {K : Frag} {C : Addr} (hW : W.K = K) (h1 : findIn K (.ref C) "__setattr__" = some (some (.builtin "object.__setattr__"))) (h2 : plainOver K C = true) (h3 : hasDictIn K C = true)
    (h4 : findIn K (.ref C) "__getattribute__" = some (some (.builtin "object.__getattribute__"))) (h5 : findIn K (.ref C) "__getattr__" = some none) (h6 : ∀ x ∈ fldNames, takerIn K C x = some none ∧ findIn K (.ref C) x = some none ∧ noGet K none = true) : ClsOk W C := by
  subst hW
  exact ⟨h1, h2, h3, ⟨h4, h5⟩, fun x hx => ⟨(h6 x hx).1, none, (h6 x hx).2⟩⟩
theorem fld_all {p : Str → Prop} (h0 : p (Str.ofString "raw")) (h1 : p (Str.ofString "n")) (h2 : p (Str.ofString "nt")) (h3 : p (Str.ofString "norm")) (h4 : p (Str.ofString "is_simple")) : ∀ x ∈ fldNames, p x := by
  intro x hx
  simp only [fldNames, List.mem_cons, List.not_mem_nil, or_false] at hx
  rcases hx with rfl | rfl | rfl | rfl | rfl <;> assumption
theorem own' {K : Frag} {C f : Addr} {o e : Expr} {rest : List Expr} {name : Str} {apos pos : Pos} {fo : EvF} {g : EvsF} {F : FnF} (hW : W.K = K) (Z : ClsOk W C) (hf : findIn K (.ref C) name = some (some (.ref f))) (ht : typeIn K (.ref f) = some (.type "function")) (hk : keepIn K (.ref f) = true) (hx : name ∉ fldNames)
    (hc : CallM W d (.ref f) F) (ho : EvM W d Γ o fo) (hg : EvsM W d Γ (e :: rest) g) {pl : Sem Bool}
    (he : eval (.Call (.Attribute o name apos) (e :: rest) [] pos) Γ.env = (do
      let ov ← eval o Γ.env
      standAt apos.atName
      let (f, first) ← holding [ov] (getMethod ov name pl)
      callWith pos f first (backTo pos (starEach (e :: rest) Γ.env)) []))
    (hst : starEach (e :: rest) Γ.env = (false, eval e Γ.env) :: starEach rest Γ.env) (hpl : (backTo pos (starEach rest Γ.env)).any (·.1) = false) :
    EvM W d Γ (.Call (.Attribute o name apos) (e :: rest) [] pos) (ownE C fo g F) := by
  subst hW
  exact ev_own Z hf ht hk hx ho hg hc he hst hpl
theorem cls' {K : Frag} {C fI : Addr} {Fi : FnF} (hW : W.K = K) (hm : makesIn K C = true) (hi : findIn K (.ref C) "__init__" = some (some (.ref fI))) (hf : typeIn K (.ref fI) = some (.type "function")) (hF : CallC W d (.ref fI) Fi) : CallC W (d + 1) (.ref C) (clsF C Fi) := by
  subst hW
  exact call_cls' hm hi hf hF
theorem sub_nm {value : Expr} {x : Str} {p pos : Pos} {fa fb : EvF} (ha : EvM W d Γ value fa) (hb : EvM W d Γ (.Name x p) fb) : EvM W d Γ (.Subscript value (.Name x p) pos) (op2 fa fb idxF) := ev_sub ha hb rfl
theorem sub_ct {value : Expr} {c : Const} {k : Nat} {p pos : Pos} {fa fb : EvF} (ha : EvM W d Γ value fa) (hb : EvM W d Γ (.Constant c k p) fb) : EvM W d Γ (.Subscript value (.Constant c k p) pos) (op2 fa fb idxF) := ev_sub ha hb rfl
theorem sub_bn {value a b : Expr} {o : Operator} {p pos : Pos} {fa fb : EvF} (ha : EvM W d Γ value fa) (hb : EvM W d Γ (.BinOp a o b p) fb) : EvM W d Γ (.Subscript value (.BinOp a o b p) pos) (op2 fa fb idxF) := ev_sub ha hb rfl
theorem sub_sb {value a b : Expr} {p pos : Pos} {fa fb : EvF} (ha : EvM W d Γ value fa) (hb : EvM W d Γ (.Subscript a b p) fb) : EvM W d Γ (.Subscript value (.Subscript a b p) pos) (op2 fa fb idxF) := ev_sub ha hb rfl
theorem tab_sb {D : Addr} {tb : List (List Nat × Option Int)} (T : TabOk W D tb) {value a b : Expr} {p pos : Pos} {fa fb : EvF} (ha : EvM W d Γ value fa) (hb : EvM W d Γ (.Subscript a b p) fb) : EvM W d Γ (.Subscript value (.Subscript a b p) pos) (op2 fa fb (tabF D tb)) := ev_tab T ha hb rfl
theorem callee_b {id : String} : Callee W (.builtin id) := .inl ⟨id, rfl⟩
theorem callee_t {T : String} : Callee W (.type T) := .inr (.inl ⟨T, rfl⟩)
theorem names2 {i j : Nat} {x y : Str} {ox oy : Option Addr} {p q : Pos} (hx : Γ.nm[i]? = some (x, ox)) (hy : Γ.nm[j]? = some (y, oy)) : NamesAt Γ [i, j] [.Name x p, .Name y q] := ⟨⟨_, hx⟩, ⟨_, hy⟩, trivial⟩
theorem ex_raise {e c : Option Expr} {pos : Pos} : ExM W d Γ (.Raise e c pos) (fun _ _ => none) := by
  intro fr hp fl fr' hp' ρ s q I
  cases q
end
theorem s_empty : Str.ofString "" = ⟨([] : List Nat).toArray⟩ := by decide +kernel
theorem s_257 : Str.ofString "257" = ⟨[50, 53, 55].toArray⟩ := by decide +kernel
theorem s_sq : Str.ofString " \"" = ⟨[32, 34].toArray⟩ := by decide +kernel
theorem s_q : Str.ofString "\"" = ⟨[34].toArray⟩ := by decide +kernel
theorem s_dot : Str.ofString "." = ⟨[46].toArray⟩ := by decide +kernel
theorem s_comma : Str.ofString "," = ⟨[44].toArray⟩ := by decide +kernel
theorem s_x : Str.ofString "x" = ⟨[120].toArray⟩ := by decide +kernel
theorem s_257q : Str.ofString "257 \"" = ⟨[50, 53, 55, 32, 34].toArray⟩ := by decide +kernel
theorem s_xq : Str.ofString "x\"" = ⟨[120, 34].toArray⟩ := by decide +kernel
theorem s_blank : Str.ofString " " = ⟨[32].toArray⟩ := by decide +kernel
theorem s_tab : Str.ofString "\t" = ⟨[9].toArray⟩ := by decide +kernel

noncomputable def notList (o : Obj) : Bool := match o.cls with
  | .type n => n != "list"
  | _ => true
theorem lookup_mem {K : Frag} {a : Addr} {o : Obj} (h : K.lookup a = some o) : (a, o) ∈ K := by
  induction K with
  | nil => cases h
  | cons p r ih =>
    obtain ⟨b, x⟩ := p
    rw [List.lookup_cons] at h
    split at h
    · rename_i q
      cases h
      rw [beq_iff_eq] at q; subst q
      exact List.mem_cons_self
    · exact List.mem_cons_of_mem _ (ih h)
theorem ns_ne {h : Heap} {a l : Addr} {m : Str → Option Value} {its : Array Value} (hn : h.Ns a m) (hL : h.IsList l its) : a ≠ l := by
  rintro rfl
  obtain ⟨o, es, ep, e, hd, _⟩ := hn
  obtain ⟨o', e', _, n, hd'⟩ := hL
  rw [e] at e'; cases e'
  rw [hd] at hd'; cases hd'
theorem ns_hide {h : Heap} {a l : Addr} {m : Str → Option Value} {its : Array Value} (hn : h.Ns a m) (hL : h.IsList l its) : (hideAll h [l]).Ns a m :=
  hn.at' fun o e => hideAll_get [l] e (fun q => ns_ne hn hL (List.mem_singleton.mp q))
noncomputable def mkW {prog : Program} {w : World} {K : Frag} {mg mb : Str → Option Value} {h : Heap} {l : Addr} {its : Array Value} (KX : K.In h) (nl : K.all (fun p => notList p.2) = true) (hg : h.Ns mainGlobals mg) (hb : h.Ns builtinsNs mb) (bb : ∀ x : Str, x ≠ "__name__" → mb x = bootBuiltins x) (lim : h.NoLimit) (hL : h.IsList l its) : Wd where
  prog := prog
  w := w
  K := K
  mg := mg
  mb := mb
  g := hideAll h [l]
  X := fun a o e => hideAll_get [l] (KX a o e) fun q => by
    have := List.mem_singleton.mp q
    subst this
    have e2 := KX _ _ e
    obtain ⟨o', e', hc, _⟩ := hL
    rw [e2] at e'; cases e'
    have := List.all_eq_true.mp nl _ (lookup_mem e)
    unfold notList at this
    rw [hc] at this
    exact absurd this (by decide)
  ns := ns_hide hg hL
  bs := ns_hide hb hL
  bb := bb
  lim := let ⟨mc, h1, h2⟩ := lim; ⟨mc, ns_hide h1 hL, h2⟩
theorem vrs_ints {ρ : List Addr} : ∀ {its : List Value} {ns : List Int}, IntsAre its ns → VRs ρ (ns.map V.int) its
  | _, _, .nil => .nil
  | _, _, .cons _ t r => .cons ⟨t, rfl⟩ (vrs_ints r)
theorem enter {prog : Program} {w : World} {K : Frag} {mg mb : Str → Option Value} {s : Shared} {l : Addr} {its : List Value} {ns : List Int} (KX : K.In s.heap) (nl : K.all (fun p => notList p.2) = true) (hg : s.heap.Ns mainGlobals mg) (hb : s.heap.Ns builtinsNs mb)
    (bb : ∀ x : Str, x ≠ "__name__" → mb x = bootBuiltins x) (lim : s.heap.NoLimit) (hL : s.heap.IsList l its.toArray) (hI : IntsAre its ns) (hz : its.length ≤ 4096) {d : Nat} {A : Around} (hh : A.handled = none) (hr : A.depth + 3 * d + 2 < recursionLimit) (hu : A.units + 12 * d + 100 < cLine) :
    InvC (mkW (prog := prog) (w := w) KX nl hg hb bb lim hL) d A [l] [.arg (ns.map V.int)] s where
  hand := hh
  room := hr
  units := hu
  rh := ⟨rfl, by simp, fun j o a eo ea => by
    match j with
    | 0 =>
      simp at eo ea
      subst eo; subst ea
      exact ⟨its.toArray, hL, by simpa using vrs_ints hI, by simpa using hz⟩
    | j + 1 => simp at eo⟩
  base := fun b o e => of_hideAll [l] e
  sep := fun a ha => by
    rw [List.mem_singleton.mp ha]
    exact hideAll_none [l] (List.mem_singleton.mpr rfl)
theorem kept_all {l : Addr} {vs : List V} {ρ' : List Addr} {hp' : Hp} {s s' : Shared} (S : Step [l] [.arg vs] ρ' hp' [] s s') : (∀ b o, s.heap.get? b = some o → s'.heap.get? b = some o) ∧ s'.os = s.os ∧ s'.gens = s.gens := by
  refine ⟨fun b o e => S.keep b o e (fun h => nomatch h) fun j x ej ex => ?_, ?_, ?_⟩
  · match j with
    | 0 => simp at ex; subst ex; rfl
    | j + 1 => simp at ex
  · obtain ⟨h, t, rfl⟩ := S.sh; rfl
  · obtain ⟨h, t, rfl⟩ := S.sh; rfl


structure G (W : Wd) (d : Nat) (Γ : Fm) (s₀ : Shared) (X Y : List Addr) (ρ : List Addr) (fr : Sl) (hp : Hp) (s : Shared) : Prop where
  inv : Inv W d Γ ρ fr hp s
  sh : ∃ h t, s = { s₀ with heap := h, toks := t }
  keep : ∀ b o, s₀.heap.get? b = some o → b ∉ X → s.heap.get? b = some o
  there : ∀ b o, s₀.heap.get? b = some o → ∃ o', s.heap.get? b = some o'
  fresh : ∀ (j : Nat) (x : O) (a : Addr), hp[j]? = some x → x.mut = true → ρ[j]? = some a → s₀.heap.get? a = none ∨ a ∈ X
  wr : ∀ a ∈ Γ.wr, s₀.heap.get? a = none ∨ a ∈ X
  lab : ∀ a ∈ ρ, s₀.heap.get? a = none ∨ a ∈ Y

section
variable {W : Wd} {d : Nat} {Γ : Fm} {s₀ : Shared} {X Y : List Addr}

theorem G.step {ρ ρ' : List Addr} {fr fr' : Sl} {hp hp' : Hp} {s s' : Shared} (g : G W d Γ s₀ X Y ρ fr hp s) (S : Step ρ hp ρ' hp' Γ.wr s s') (R : RH ρ' hp' s'.heap) (F : FR Γ ρ' fr' s'.heap) : G W d Γ s₀ X Y ρ' fr' hp' s' where
  inv := g.inv.stepX S R F
  sh := by
    obtain ⟨h, t, rfl⟩ := g.sh
    obtain ⟨h', t', rfl⟩ := S.sh
    exact ⟨h', t', rfl⟩
  keep := fun b o e n => S.keep b o (g.keep b o e n) (fun m => by
    rcases g.wr b m with h | h
    · rw [e] at h; cases h
    · exact n h) fun j x ej ex => by
      cases hm : x.mut with
      | false => rfl
      | true =>
        rcases g.fresh j x b ex hm ej with h | h
        · rw [e] at h; cases h
        · exact absurd h n
  there := fun b o e => by obtain ⟨o', e'⟩ := g.there b o e; exact S.there b o' e'
  fresh := fun j x a ex hm ea => by
    by_cases hj : j < ρ.length
    · have e0 : ρ[j]? = some ρ[j] := by simp [hj]
      have e1 := pre_get S.ext e0
      rw [ea] at e1
      rw [← Option.some.inj e1] at e0
      obtain ⟨x0, h0⟩ := g.inv.rh.obj e0
      cases hm0 : x0.mut with
      | true => exact g.fresh j x0 a h0 hm0 e0
      | false =>
        have := S.imm j x0 h0 hm0
        rw [ex] at this; cases this
        rw [hm] at hm0; cases hm0
    · rcases S.new a (List.mem_of_getElem? ea) with h | h
      · obtain ⟨i, ei⟩ := List.getElem?_of_mem h
        have := nodup_idx R.nd (pre_get S.ext ei) ea
        subst this
        exact absurd (List.getElem?_eq_some_iff.mp ei).1 hj
      · left
        cases e : s₀.heap.get? a with
        | none => rfl
        | some o => obtain ⟨o', e'⟩ := g.there a o e; rw [h] at e'; cases e'
  wr := g.wr
  lab := fun a ha => by
    rcases S.new a ha with h | h
    · exact g.lab a h
    · left
      cases e : s₀.heap.get? a with
      | none => rfl
      | some o => obtain ⟨o', e'⟩ := g.there a o e; rw [h] at e'; cases e'
noncomputable def gcV (sel : List Nat) (v : V) : Option V := match v with
  | .own j => (ob1 (sel.findIdx? (fun k => Nat.beq k j)) fun i => some (.own i))
  | v => some v
noncomputable def gcVs (sel : List Nat) : List V → Option (List V)
  | [] => some []
  | v :: vs => match gcV sel v, gcVs sel vs with
    | some v', some vs' => some (v' :: vs')
    | _, _ => none
noncomputable def gcO (sel : List Nat) (o : O) : Option O := match o with
  | .list vs => (gcVs sel vs).map .list
  | .frz vs => (gcVs sel vs).map .frz
  | .tup vs => (gcVs sel vs).map .tup
  | .inst C j => (match gcV sel (.own j) with
    | some (.own i) => some (.inst C i)
    | _ => none)
  | .attrs vs => (gcVs sel vs).map .attrs
  | .rng a b c => some (.rng a b c)
  | .arg vs => (gcVs sel vs).map .arg
noncomputable def gcFr (sel : List Nat) (fr : Sl) : Sl := fr.map fun o => ob1 (o) fun v => gcV sel v
noncomputable def gcHp (sel : List Nat) (hp : Hp) : List Nat → Option Hp
  | [] => some []
  | j :: js => ob1 (hp[j]?) fun o => (match gcO sel o, gcHp sel hp js with
      | some o', some os => some (o' :: os)
      | _, _ => none)
theorem gcV_VR {ρ ρs : List Addr} {sel : List Nat} (hs : ∀ (i j : Nat), sel[i]? = some j → ∃ a, ρ[j]? = some a ∧ ρs[i]? = some a) {v v' : V} {u : Value} (e : gcV sel v = some v') (r : VR ρ v u) : VR ρs v' u := by
  unfold gcV at e
  split at e
  · rename_i j
    refine ob1_elim e fun i hi e => ?_
    cases e
    obtain ⟨a, ea, rfl⟩ := r
    rw [List.findIdx?_eq_some_iff_getElem] at hi
    obtain ⟨h1, h2, _⟩ := hi
    have : sel[i]? = some j := by rw [List.getElem?_eq_getElem h1, Nat.eq_of_beq_eq_true h2]
    obtain ⟨b, e1, e2⟩ := hs i j this
    rw [ea] at e1; cases e1
    exact ⟨a, e2, rfl⟩
  · rename_i hn
    cases e
    cases v with
    | own j => exact absurd rfl (hn j)
    | _ => exact r
theorem gcVs_VRs {ρ ρs : List Addr} {sel : List Nat} (hs : ∀ (i j : Nat), sel[i]? = some j → ∃ a, ρ[j]? = some a ∧ ρs[i]? = some a) : ∀ {vs vs' : List V} {us : List Value}, gcVs sel vs = some vs' → VRs ρ vs us → VRs ρs vs' us
  | [], vs', us, e, r => by cases e; rw [r.unnil]; exact .nil
  | v :: vs, vs', us, e, r => by
    unfold gcVs at e
    split at e
    · rename_i v1 vs1 e1 e2
      cases e
      obtain ⟨u, us', rfl, ru, rs⟩ := r.uncons
      exact .cons (gcV_VR hs e1 ru) (gcVs_VRs hs e2 rs)
    · exact nn e
theorem gcO_OR {ρ ρs : List Addr} {sel : List Nat} (hs : ∀ (i j : Nat), sel[i]? = some j → ∃ a, ρ[j]? = some a ∧ ρs[i]? = some a) {o o' : O} {h : Heap} {a : Addr} (e : gcO sel o = some o') (r : OR ρ h a o) : OR ρs h a o' ∧ o'.mut = o.mut := by
  cases o with
  | list vs =>
    obtain ⟨vs', e1, rfl⟩ := Option.map_eq_some_iff.mp e
    obtain ⟨us, n, q, rs⟩ := r
    exact ⟨⟨us, n, q, gcVs_VRs hs e1 rs⟩, rfl⟩
  | frz vs =>
    obtain ⟨vs', e1, rfl⟩ := Option.map_eq_some_iff.mp e
    obtain ⟨us, n, q, rs⟩ := r
    exact ⟨⟨us, n, q, gcVs_VRs hs e1 rs⟩, rfl⟩
  | tup vs =>
    obtain ⟨vs', e1, rfl⟩ := Option.map_eq_some_iff.mp e
    obtain ⟨us, q, rs⟩ := r
    exact ⟨⟨us, q, gcVs_VRs hs e1 rs⟩, rfl⟩
  | inst C j =>
    unfold gcO at e
    dsimp only at e
    split at e
    · rename_i i e1
      cases e
      obtain ⟨dx, ed, q⟩ := r
      obtain ⟨b, eb, z⟩ := gcV_VR (u := .ref dx) hs e1 ⟨dx, ed, rfl⟩
      cases z
      exact ⟨⟨dx, eb, q⟩, rfl⟩
    · exact nn e
  | attrs vs =>
    obtain ⟨vs', e1, rfl⟩ := Option.map_eq_some_iff.mp e
    obtain ⟨es, n, q, l, z⟩ := r
    have V1 : VRs ρ vs (es.map (·.val)) := ⟨by simp [l], fun i v hv => by
      obtain ⟨en, x, t, a1, a2, a3, a4⟩ := z i v hv
      exact ⟨en.val, by rw [List.getElem?_map, a1]; rfl, a4⟩⟩
    have V2 := gcVs_VRs hs e1 V1
    refine ⟨⟨es, n, q, by have := V2.1; simp at this; omega, fun i v hv => ?_⟩, rfl⟩
    obtain ⟨u, eu, ru⟩ := V2.2 i v hv
    have hi : i < vs.length := by have h1 := V2.1; have h2 := (List.getElem?_eq_some_iff.mp hv).1; simp at h1; omega
    obtain ⟨en, x, t, a1, a2, a3, a4⟩ := z i vs[i] (by simp [hi])
    rw [List.getElem?_map, a1] at eu
    cases eu
    exact ⟨en, x, t, a1, a2, a3, ru⟩
  | rng x y z => cases e; exact ⟨r, rfl⟩
  | arg vs =>
    obtain ⟨vs', e1, rfl⟩ := Option.map_eq_some_iff.mp e
    obtain ⟨us, q, rs, z⟩ := r
    exact ⟨⟨us, q, gcVs_VRs hs e1 rs, z⟩, rfl⟩
theorem gcHp_get {sel : List Nat} {hp : Hp} : ∀ {js : List Nat} {hs : Hp}, gcHp sel hp js = some hs → hs.length = js.length ∧ ∀ (i : Nat) (o' : O), hs[i]? = some o' → ∃ j o, js[i]? = some j ∧ hp[j]? = some o ∧ gcO sel o = some o'
  | [], hs, e => by cases e; exact ⟨rfl, fun i o' h => by simp at h⟩
  | j :: js, hs, e => by
    unfold gcHp at e
    refine ob1_elim e fun o eo e => ?_
    split at e
    · rename_i o1 os e1 e2
      cases e
      obtain ⟨a, b⟩ := gcHp_get e2
      refine ⟨by simp [a], fun i o' h => ?_⟩
      cases i with
      | zero => simp at h; subst h; exact ⟨j, o, by simp, eo, e1⟩
      | succ i => simpa using b i o' (by simpa using h)
    · exact nn e
theorem G.pick {ρ : List Addr} {fr : Sl} {hp : Hp} {s : Shared} (g : G W d Γ s₀ X Y ρ fr hp s) (sel : List Nat) {hs : Hp} (nd : sel.Nodup) (e : gcHp sel hp sel = some hs) : ∃ ρs, G W d Γ s₀ X Y ρs (gcFr sel fr) hs s ∧ (∀ (i : Nat) (x : O) (a : Addr), hs[i]? = some x → ρs[i]? = some a → ∃ (j : Nat) (o : O), ρ[j]? = some a ∧ hp[j]? = some o ∧ o.mut = x.mut) := by
  obtain ⟨hl, hg⟩ := gcHp_get e
  have inr : ∀ j ∈ sel, ∃ a, ρ[j]? = some a := fun j hj => by
    obtain ⟨i, ei⟩ := List.getElem?_of_mem hj
    have hi : i < hs.length := by rw [hl]; exact (List.getElem?_eq_some_iff.mp ei).1
    obtain ⟨j', o, e1, e2, _⟩ := hg i hs[i] (by simp [hi])
    rw [ei] at e1; cases e1
    obtain ⟨a, ea, _⟩ := g.inv.rh.addr e2
    exact ⟨a, ea⟩
  let ρs := sel.map fun j => (ρ[j]?).getD 0
  have at' : ∀ (i j : Nat), sel[i]? = some j → ∃ a, ρ[j]? = some a ∧ ρs[i]? = some a := fun i j ei => by
    obtain ⟨a, ea⟩ := inr j (List.mem_of_getElem? ei)
    exact ⟨a, ea, by show (sel.map _)[i]? = _; rw [List.getElem?_map, ei]; simp [ea]⟩
  have back : ∀ (i : Nat) (a : Addr), ρs[i]? = some a → ∃ j, sel[i]? = some j ∧ ρ[j]? = some a := fun i a ea => by
    have hi : i < sel.length := by have := (List.getElem?_eq_some_iff.mp ea).1; simpa [ρs] using this
    obtain ⟨b, e1, e2⟩ := at' i sel[i] (by simp [hi])
    rw [ea] at e2; cases e2
    exact ⟨sel[i], by simp [hi], e1⟩
  have mem : ∀ a ∈ ρs, ∃ j ∈ sel, ρ[j]? = some a := fun a ha => by
    obtain ⟨i, ei⟩ := List.getElem?_of_mem ha
    obtain ⟨j, e1, e2⟩ := back i a ei
    exact ⟨j, List.mem_of_getElem? e1, e2⟩
  refine ⟨ρs, ⟨⟨g.inv.ok, ⟨by simp [ρs, hl], ?_, fun i o' a eo ea => ?_⟩, ⟨?_, fun i x c hi => ?_⟩, g.inv.base, fun a ha => ?_⟩, g.sh, g.keep, g.there, fun i x a ex hm ea => ?_, g.wr, fun a ha => ?_⟩, fun i x a ex ea => ?_⟩
  · refine List.pairwise_iff_getElem.mpr fun i j hi hj hij => ?_
    obtain ⟨k, e1, e2⟩ := back i ρs[i] (by simp [hi])
    obtain ⟨k', e1', e2'⟩ := back j ρs[j] (by simp [hj])
    intro q
    rw [q] at e2
    have := nodup_idx g.inv.rh.nd e2 e2'
    subst this
    exact nodup_ne nd e1 e1' (by omega) rfl
  · obtain ⟨j, o, e1, e2, e3⟩ := hg i o' eo
    obtain ⟨k, e4, e5⟩ := back i a ea
    rw [e1] at e4; cases e4
    exact (gcO_OR at' e3 (g.inv.rh.ob j o a e2 e5)).1
  · obtain ⟨m, hn, hm⟩ := g.inv.fr.ns
    refine ⟨m, hn, fun i x v hi q => ?_⟩
    unfold gcFr at q
    rw [List.getElem?_map] at q
    cases z : fr[i]? with
    | none => rw [z] at q; cases q
    | some o =>
      rw [z] at q
      cases o with
      | none => cases q
      | some w =>
        obtain ⟨u, a1, a2⟩ := hm i x w hi z
        exact ⟨u, a1, gcV_VR at' (Option.some.inj q) a2⟩
  · obtain ⟨uo, hc, hv⟩ := g.inv.fr.cells i x c hi
    refine ⟨uo, hc, fun v q => ?_⟩
    unfold gcFr at q
    rw [List.getElem?_map] at q
    cases z : fr[i]? with
    | none => rw [z] at q; cases q
    | some o =>
      rw [z] at q
      cases o with
      | none => cases q
      | some w =>
        obtain ⟨u, a1, a2⟩ := hv w z
        exact ⟨u, a1, gcV_VR at' (Option.some.inj q) a2⟩
  · obtain ⟨j, _, e2⟩ := mem a ha
    exact g.inv.sep a (List.mem_of_getElem? e2)
  · obtain ⟨j, o, e1, e2, e3⟩ := hg i x ex
    obtain ⟨k, e4, e5⟩ := back i a ea
    rw [e1] at e4; cases e4
    exact g.fresh j o a e2 (by rw [← (gcO_OR at' e3 (g.inv.rh.ob j o a e2 e5)).2]; exact hm) e5
  · obtain ⟨j, _, e2⟩ := mem a ha
    exact g.lab a (List.mem_of_getElem? e2)
  · obtain ⟨j, o, e1, e2, e3⟩ := hg i x ex
    obtain ⟨k, e4, e5⟩ := back i a ea
    rw [e1] at e4; cases e4
    exact ⟨j, o, e5, e2, (gcO_OR at' e3 (g.inv.rh.ob j o a e2 e5)).2.symm⟩

noncomputable def noOwn : V → Bool
  | .own _ => false
  | _ => true
theorem vr_free {ρ ρ' : List Addr} {v : V} {u : Value} (h : noOwn v = true) (r : VR ρ v u) : VR ρ' v u := by
  cases v with
  | own j => cases h
  | _ => exact r
theorem G.off {ρ : List Addr} {fr : Sl} {hp : Hp} {s : Shared} {h : Heap} {t : Nat} {I : Addr} (g : G W d Γ s₀ X Y ρ fr hp s) (nI : s₀.heap.get? I = none) (rI : I ∉ ρ) (wI : I ∉ Γ.wr) (gI : W.g.get? I = none) (k : ∀ b o, b ∉ [I] → s.heap.get? b = some o → h.get? b = some o) :
    G W d Γ s₀ X Y ρ fr hp { s with heap := h, toks := t } where
  inv := ⟨g.inv.ok, g.inv.rh.keeps fun a ha x e => k a x (fun q => rI (List.mem_singleton.mp q ▸ ha)) e, g.inv.fr.keeps (List.prefix_refl _) fun a ha o e => k a o (fun q => wI (List.mem_singleton.mp q ▸ ha)) e,
    fun b o e => k b o (fun q => by rw [List.mem_singleton.mp q, gI] at e; cases e) (g.inv.base b o e), g.inv.sep⟩
  sh := by obtain ⟨h', t', rfl⟩ := g.sh; exact ⟨h, t, rfl⟩
  keep := fun b o e n => k b o (fun q => by rw [List.mem_singleton.mp q, nI] at e; cases e) (g.keep b o e n)
  there := fun b o e => by
    obtain ⟨o', e'⟩ := g.there b o e
    exact ⟨o', k b o' (fun q => by rw [List.mem_singleton.mp q, nI] at e; cases e) e'⟩
  fresh := g.fresh
  wr := g.wr
  lab := g.lab
noncomputable def mutsOf : List Addr → Hp → List Addr
  | a :: ρ, o :: hp => if o.mut = true then a :: mutsOf ρ hp else mutsOf ρ hp
  | _, _ => []
theorem mem_muts : ∀ {ρ : List Addr} {hp : Hp} {a : Addr}, a ∈ mutsOf ρ hp ↔ ∃ (j : Nat) (o : O), ρ[j]? = some a ∧ hp[j]? = some o ∧ o.mut = true
  | [], hp, a => by
    constructor
    · intro h; cases h
    · rintro ⟨j, o, h, _⟩; simp at h
  | b :: ρ, [], a => by
    constructor
    · intro h; cases h
    · rintro ⟨j, o, _, h, _⟩; simp at h
  | b :: ρ, x :: hp, a => by
    unfold mutsOf
    have ih := mem_muts (ρ := ρ) (hp := hp) (a := a)
    constructor
    · intro h
      split at h
      · rename_i hm
        rcases List.mem_cons.mp h with rfl | h
        · exact ⟨0, x, by simp, by simp, hm⟩
        · obtain ⟨j, o, h1, h2, h3⟩ := ih.mp h
          exact ⟨j + 1, o, by simpa using h1, by simpa using h2, h3⟩
      · obtain ⟨j, o, h1, h2, h3⟩ := ih.mp h
        exact ⟨j + 1, o, by simpa using h1, by simpa using h2, h3⟩
    · rintro ⟨j, o, h1, h2, h3⟩
      cases j with
      | zero =>
        simp at h1 h2
        subst h1; subst h2
        rw [if_pos h3]; exact List.mem_cons_self
      | succ j =>
        have := ih.mpr ⟨j, o, by simpa using h1, by simpa using h2, h3⟩
        split
        · exact List.mem_cons_of_mem _ this
        · exact this
theorem G.here {ρ : List Addr} {fr : Sl} {hp : Hp} {s : Shared} (I : Inv W d Γ ρ fr hp s) : G W d Γ s (mutsOf ρ hp ++ Γ.wr) ρ ρ fr hp s :=
  ⟨I, ⟨_, _, rfl⟩, fun _ _ e _ => e, fun _ o e => ⟨o, e⟩, fun j x a ex hm ea => .inr (List.mem_append_left _ (mem_muts.mpr ⟨j, x, ea, ex, hm⟩)), fun a h => .inr (List.mem_append_right _ h), fun _ h => .inr h⟩
theorem G.trans {ρ ρ' : List Addr} {fr fr' : Sl} {hp hp' : Hp} {s s' : Shared} (g : G W d Γ s₀ X Y ρ fr hp s) (g' : G W d Γ s (mutsOf ρ hp ++ Γ.wr) ρ ρ' fr' hp' s') : G W d Γ s₀ X Y ρ' fr' hp' s' where
  inv := g'.inv
  sh := by
    obtain ⟨h, t, rfl⟩ := g.sh
    obtain ⟨h', t', rfl⟩ := g'.sh
    exact ⟨h', t', rfl⟩
  keep := fun b o e n => g'.keep b o (g.keep b o e n) fun m => by
    rcases List.mem_append.mp m with m | m
    · obtain ⟨j, x, h1, h2, h3⟩ := mem_muts.mp m
      rcases g.fresh j x b h2 h3 h1 with h | h
      · rw [e] at h; cases h
      · exact n h
    · rcases g.wr b m with h | h
      · rw [e] at h; cases h
      · exact n h
  there := fun b o e => by obtain ⟨o', e'⟩ := g.there b o e; exact g'.there b o' e'
  fresh := fun j x a ex hm ea => by
    rcases g'.fresh j x a ex hm ea with h | m
    · left
      cases e : s₀.heap.get? a with
      | none => rfl
      | some o => obtain ⟨o', e'⟩ := g.there a o e; rw [h] at e'; cases e'
    · rcases List.mem_append.mp m with m | m
      · obtain ⟨j, x, h1, h2, h3⟩ := mem_muts.mp m
        exact g.fresh j x a h2 h3 h1
      · exact g.wr a m
  wr := g.wr
  lab := fun a ha => by
    rcases g'.lab a ha with h | m
    · left
      cases e : s₀.heap.get? a with
      | none => rfl
      | some o => obtain ⟨o', e'⟩ := g.there a o e; rw [h] at e'; cases e'
    · exact g.lab a m
theorem G.weak {ρ : List Addr} {fr fr' : Sl} {hp : Hp} {s : Shared} (g : G W d Γ s₀ X Y ρ fr hp s) (h : ∀ (i : Nat) (v : V), fr'[i]? = some (some v) → fr[i]? = some (some v)) : G W d Γ s₀ X Y ρ fr' hp s :=
  ⟨⟨g.inv.ok, g.inv.rh, ⟨let ⟨m, hn, hm⟩ := g.inv.fr.ns; ⟨m, hn, fun i x v a b => hm i x v a (h i v b)⟩, fun i x c a => let ⟨uo, hc, hv⟩ := g.inv.fr.cells i x c a; ⟨uo, hc, fun v b => hv v (h i v b)⟩⟩, g.inv.base, g.inv.sep⟩, g.sh, g.keep, g.there, g.fresh, g.wr, g.lab⟩
noncomputable def clr (ks : List Nat) : Nat → Sl → Sl
  | _, [] => []
  | n, o :: fr => (if ks.contains n then o else none) :: clr ks (n + 1) fr
theorem clr_get {ks : List Nat} : ∀ {fr : Sl} {n i : Nat} {v : V}, (clr ks n fr)[i]? = some (some v) → fr[i]? = some (some v)
  | [], _, _, _, h => by simp [clr] at h
  | o :: fr, n, i, v, h => by
    cases i with
    | zero =>
      simp only [clr, List.getElem?_cons_zero, Option.some.injEq] at h ⊢
      split at h
      · exact h
      · exact nn h
    | succ i => simpa using clr_get (fr := fr) (n := n + 1) (by simpa [clr] using h)
noncomputable def runGc (f : ExF) (sel ks : List Nat) (fr : Sl) (hp : Hp) : Option (Sl × Hp) := match f fr hp with
  | some (.next, fr1, hp1) => (ob1 (gcHp sel hp1 sel) fun hs => some (clr ks 0 (gcFr sel fr1), hs))
  | _ => none
noncomputable def PreM (W : Wd) (d : Nat) (Γ : Fm) (ss rest : List Stmt) (f : ExF) : Prop :=
  ∀ fr hp fr' hp' ρ s (Q : Flow → Shared → Prop), f fr hp = some (.next, fr', hp') → Inv W d Γ ρ fr hp s →
    (∀ ρ' s', Step ρ hp ρ' hp' Γ.wr s s' → RH ρ' hp' s'.heap → FR Γ ρ' fr' s'.heap → wpAny (model W.prog W.w) Γ.A (execs rest Γ.env) Q NoE s') → wpAny (model W.prog W.w) Γ.A (execs ss Γ.env) Q NoE s
theorem pre_nil {rest : List Stmt} : PreM W d Γ rest rest nilX := by
  intro fr hp fr' hp' ρ s Q e I k
  cases e
  exact k ρ s .refl I.rh I.fr
theorem pre_cons {st : Stmt} {ss rest : List Stmt} {f g : ExF} (h : ExM W d Γ st f) (hs : PreM W d Γ ss rest g) : PreM W d Γ (st :: ss) rest (seqX f g) := by
  intro fr hp fr' hp' ρ s Q e I k
  unfold seqX at e
  split at e
  · rename_i fr1 h1 e1
    refine wpAny_execs_cons (wpAny_mono (h fr hp .next fr1 h1 ρ s e1 I) (fun f s₁ p => ?_) fun _ _ x => x)
    obtain ⟨ρ₁, S₁, R₁, F₁, rfl⟩ := p
    exact hs fr1 h1 fr' hp' ρ₁ s₁ Q e (I.stepX S₁ R₁ F₁) fun ρ' s' S R F => k ρ' s' (S₁.trans I.rh R₁ S) R F
  · rename_i hn
    exact absurd e (hn _ _)
theorem g_pre {ss rest : List Stmt} {f : ExF} (hs : PreM W d Γ ss rest f) {sel ks : List Nat} (nd : sel.Nodup) {ρ : List Addr} {fr fr' : Sl} {hp hp' : Hp} {s : Shared} {Q : Flow → Shared → Prop} (g : G W d Γ s₀ X Y ρ fr hp s) (e : runGc f sel ks fr hp = some (fr', hp'))
    (k : ∀ ρ' s', G W d Γ s₀ X Y ρ' fr' hp' s' → wpAny (model W.prog W.w) Γ.A (execs rest Γ.env) Q NoE s') : wpAny (model W.prog W.w) Γ.A (execs ss Γ.env) Q NoE s := by
  unfold runGc at e
  split at e
  · rename_i fr1 hp1 e1
    refine ob1_elim e fun hs2 e2 e => ?_
    obtain ⟨rfl, rfl⟩ := si2 e
    refine hs fr hp fr1 hp1 ρ s Q e1 g.inv fun ρ' s' S R F => ?_
    obtain ⟨ρs, g2, _⟩ := (g.step S R F).pick sel nd e2
    exact k ρs s' (g2.weak fun i v h => clr_get h)
  · exact nn e
theorem stm_of {ss : List Stmt} {b : ExF} (h : ∀ fr hp fl fr' hp' ρ s, b fr hp = some (fl, fr', hp') → Inv W d Γ ρ fr hp s → (∃ v, fl = .ret v ∧ noOwn v = true) ∧ fr' = [] ∧ hp' = hp ∧
      wpAny (model W.prog W.w) Γ.A (execs ss Γ.env) (fun flow s' => ∃ u, flow = .ret u ∧ (∃ v, fl = .ret v ∧ VR [] v u) ∧ ∃ ρ' fr2 hp2, G W d Γ s (mutsOf ρ hp ++ Γ.wr) ρ ρ' fr2 hp2 s') NoE s) (imm : ∀ fr hp r, b fr hp = some r → ∀ x ∈ hp, x.mut = false) : StM W d Γ ss b := by
  intro fr hp fl fr' hp' ρ s e I
  obtain ⟨⟨v, rfl, hv⟩, rfl, rfl, h⟩ := h fr hp fl fr' hp' ρ s e I
  have im := imm fr hp' _ e
  refine wpAny_mono h (fun flow s' p => ?_) fun _ _ x => x
  obtain ⟨u, rfl, ⟨v', hv', r⟩, ρ', fr2, hp2, g⟩ := p
  cases hv'
  have kp : ∀ b o, s.heap.get? b = some o → b ∉ Γ.wr → s'.heap.get? b = some o := fun b o e n => g.keep b o e fun m => by
    rcases List.mem_append.mp m with m | m
    · obtain ⟨j, x, _, q2, q3⟩ := mem_muts.mp m
      rw [im x (List.mem_of_getElem? q2)] at q3; cases q3
    · exact n m
  refine ⟨ρ, ⟨g.sh, fun b o e n _ => kp b o e n, g.there, List.prefix_refl _, fun _ h => .inl h, fun _ _ e _ => e⟩, I.rh.keeps fun a ha x e => kp a x e (I.sep a ha).1, ⟨?_, fun i x c hc => ?_⟩, u, rfl, vr_free hv r⟩
  · obtain ⟨m, hn, _⟩ := g.inv.fr.ns
    exact ⟨m, hn, fun i x v _ q => by simp at q⟩
  · obtain ⟨uo, hc', _⟩ := g.inv.fr.cells i x c hc
    exact ⟨uo, hc', fun v q => by simp at q⟩
inductive GFI (W : Wd) (d : Nat) (Γ : Fm) (s₀ : Shared) (X Y : List Addr) (I : Addr) (fp : List Addr) (St : Nat → Sl × Hp) (Wst : Nat → Heap → Prop) (n : Nat) (c : Nat) (s' : Shared) : Prop
  | mk (ρ' : List Addr) (k : Nat) (g : G W d Γ s₀ X Y ρ' (St k).1 (St k).2 s') (K : ItOk W Γ I fp ρ' (St k).2 s') (st : Wst k s'.heap) (hk : k ≤ n) (hc : c = n + 1 - k) : GFI W d Γ s₀ X Y I fp St Wst n c s'
noncomputable def forStart (fi : EvF) (sel ks : List Nat) (fr : Sl) (hp : Hp) : Option (List V × Sl × Hp) := ob2 (fi fr hp) fun v h1 => (ob2 (walkOf h1 v) fun vs hf => (ob1 (gcHp sel hf sel) fun hs => some (vs, clr ks 0 (gcFr sel fr), hs)))
theorem g_for {target iter : Expr} {body : List Stmt} {pos : Pos} {fi : EvF} (hi : EvM W d Γ iter fi)
    {ρ : List Addr} {fr : Sl} {hp : Hp} {s : Shared} (gg : G W d Γ s₀ X Y ρ fr hp s) {vs : List V} (hno : ∀ w ∈ vs, noOwn w = true) (sel ks : List Nat) (nd : sel.Nodup) (St : Nat → Sl × Hp) (e : forStart fi sel ks fr hp = some (vs, St 0))
    (turn : ∀ (k : Nat) (w : V), vs[k]? = some w → ∀ (s₁ : Shared) (X₁ Y₁ ρ : List Addr) (s : Shared) (u : Value), G W d Γ s₁ X₁ Y₁ ρ (St k).1 (St k).2 s → VR ρ w u →
      wpAny (model W.prog W.w) Γ.A (assign target Γ.env u) (fun _ s' => wpAny (model W.prog W.w) Γ.A (execs body Γ.env) (fun f s'' => f = .next ∧ ∃ ρ', G W d Γ s₁ X₁ Y₁ ρ' (St (k + 1)).1 (St (k + 1)).2 s'') NoE s') NoE s)
    (hs : ∀ x, foldedSetIterable iter Γ.env x = pure x) (ht : ∀ it v, letOwnedTupleGo target it v = pure ()) :
    wpAny (model W.prog W.w) Γ.A (exec (.For target iter body [] pos) Γ.env) (fun flow s' => flow = .next ∧ ∃ ρ', G W d Γ s₀ X Y ρ' (St vs.length).1 (St vs.length).2 s') NoE s := by
  unfold forStart at e
  refine ob2_elim e fun v h1 e1 e => ?_
  refine ob2_elim e fun vs' hf e2 e => ?_
  refine ob1_elim e fun hs3 e3 e => ?_
  obtain ⟨rfl, e4⟩ := Prod.mk.inj (Option.some.inj e)
  refine wpAny_For (wpAny_mono (hi fr hp v h1 ρ s e1 gg.inv) (fun u s₁ p => ?_) fun _ _ x => x) hs
  obtain ⟨ρ₁, S₁, R₁, r₁⟩ := p
  have g1 := gg.step S₁.up R₁ (gg.inv.step S₁ R₁).fr
  refine walk_iter e2 g1.inv r₁ fun I fp P Wst s₂ K => ?_
  have g2 := g1.step K.step.up K.inv.rh K.inv.fr
  have nI : s₀.heap.get? I = none := by
    cases e : s₀.heap.get? I with
    | none => rfl
    | some o => obtain ⟨o', e'⟩ := g1.there I o e; rw [K.n0] at e'; cases e'
  have hI : I ∈ fp := K.ww.sub I (by simp)
  have wI : I ∉ Γ.wr := (K.it.fp I hI).1
  have gI := K.it.gi
  obtain ⟨ρs, g3, pk⟩ := g2.pick sel nd e3
  replace g3 := g3.weak (fr' := clr ks 0 (gcFr sel fr)) fun i v h => clr_get h
  have K3 : ItOk W Γ I fp ρs hs3 s₂ := by
    refine ⟨fun m => ?_, gI, fun b hb => ⟨(K.it.fp b hb).1, (K.it.fp b hb).2.1, fun i x ei ex => ?_⟩⟩
    · obtain ⟨i, ei⟩ := List.getElem?_of_mem m
      obtain ⟨x, ex⟩ := g3.inv.rh.obj ei
      obtain ⟨j, o, ej, _, _⟩ := pk i x I ex ei
      exact K.it.ni (List.mem_of_getElem? ej)
    · obtain ⟨j, o, ej, eo, hm⟩ := pk i x b ex ei
      rw [← hm]
      exact (K.it.fp b hb).2.2 j o ej eo
  have z1 : clr ks 0 (gcFr sel fr) = (St 0).1 := by rw [← e4]
  have z2 : hs3 = (St 0).2 := by rw [← e4]
  rw [z1, z2] at g3
  rw [z2] at K3
  refine codeAny_forLoop (GFI W d Γ s₀ X Y I fp St Wst vs'.length) ?_ (vs'.length + 1) ⟨ρs, 0, g3, K3, K.st, Nat.zero_le _, rfl⟩ (ht _)
  rintro c s' ⟨ρ', k, g, KK, st, hk, rfl⟩
  by_cases hlt : k < vs'.length
  · have hv : vs'[k]? = some vs'[k] := by simp [hlt]
    refine K.ww.item k s' _ _ hlt st fun u h₂ t₂ hu st₂ k₂ => ?_
    obtain ⟨S₂, J₂, K₂⟩ := it_step (t := t₂) g.inv KK hI (K.th _ _ st₂) k₂
    have g' := g.off (t := t₂) nI KK.ni wI gI k₂
    refine noE_mono (wpAny_mono (turn k _ hv _ _ _ ρ' _ u (G.here g'.inv) (vr_free (hno _ (List.mem_of_getElem? hv)) (K.hP k u _ hu hv))) (fun _ s₃ p => noE_mono (wpAny_mono p (fun f s₄ q => ?_) fun _ _ x => x)) fun _ _ x => x)
    obtain ⟨rfl, ρ₅, g5⟩ := q
    have nX : ∀ b ∈ fp, b ∉ mutsOf ρ' (St k).2 ++ Γ.wr := fun b hb m => by
      rcases List.mem_append.mp m with m | m
      · obtain ⟨j, x, q1, q2, q3⟩ := mem_muts.mp m
        rw [(K₂.fp b hb).2.2 j x q1 q2] at q3; cases q3
      · exact (K₂.fp b hb).1 m
    refine ⟨vs'.length + 1 - (k + 1), dec_lt hlt, ρ₅, k + 1, g'.trans g5, ⟨fun m => ?_, gI, fun b hb => ⟨(K₂.fp b hb).1, ?_, fun j x ej ex => ?_⟩⟩, K.ww.frame _ _ _ st₂ fun b hb o e => g5.keep b o e (nX b hb), hlt, rfl⟩
    · rcases g5.lab I m with q | q
      · obtain ⟨o, e⟩ := (K₂.fp I hI).2.1; rw [q] at e; cases e
      · exact K₂.ni q
    · obtain ⟨o, e⟩ := (K₂.fp b hb).2.1
      exact g5.there b o e
    · cases hm : x.mut with
      | false => rfl
      | true =>
        rcases g5.fresh j x b ex hm ej with q | q
        · obtain ⟨o, e⟩ := (K₂.fp b hb).2.1; rw [q] at e; cases e
        · exact absurd q (nX b hb)
  · have : k = vs'.length := at_end hk hlt
    subst this
    exact K.ww.done s' _ _ st fun h₂ t₂ k₂ => wpAny_execs_nil ⟨rfl, ρ', g.off (t := t₂) nI KK.ni wI gI k₂⟩
end

noncomputable def isIntV : V → Bool
  | .int _ => true
  | _ => false
theorem isIntV_no {w : V} (h : isIntV w = true) : noOwn w = true := by cases w <;> first | rfl | (cases h)
theorem isIntV_ex {w : V} (h : isIntV w = true) : ∃ z, w = .int z := by
  cases w with
  | int z => exact ⟨z, rfl⟩
  | _ => cases h
noncomputable def headF (f : ExF) (fi : EvF) (sel ks : List Nat) (fr : Sl) (hp : Hp) : Option (List V × Sl × Hp) := match f fr hp with
  | some (.next, fr1, hp1) => forStart fi sel ks fr1 hp1
  | _ => none
section
variable {W : Wd} {d : Nat} {Γ : Fm} {s₀ : Shared} {X Y : List Addr}
theorem g_head {ss rest : List Stmt} {f : ExF} {target iter : Expr} {body : List Stmt} {pos : Pos} {fi : EvF} (hs1 : PreM W d Γ ss (.For target iter body [] pos :: rest) f) (hi : EvM W d Γ iter fi)
    {ρ : List Addr} {fr : Sl} {hp : Hp} {s : Shared} {Q : Flow → Shared → Prop} (gg : G W d Γ s₀ X Y ρ fr hp s) (sel ks : List Nat) (nd : sel.Nodup) (St : Sl × Hp) (e : (headF f fi sel ks fr hp).map (fun r => (r.1.all isIntV, r.2)) = some (true, St))
    (turn : ∀ (z : Int) (s₁ : Shared) (X₁ Y₁ ρ : List Addr) (s : Shared) (u : Value), G W d Γ s₁ X₁ Y₁ ρ St.1 St.2 s → VR ρ (.int z) u →
      wpAny (model W.prog W.w) Γ.A (assign target Γ.env u) (fun _ s' => wpAny (model W.prog W.w) Γ.A (execs body Γ.env) (fun f s'' => f = .next ∧ ∃ ρ', G W d Γ s₁ X₁ Y₁ ρ' St.1 St.2 s'') NoE s') NoE s)
    (k : ∀ ρ' s', G W d Γ s₀ X Y ρ' St.1 St.2 s' → wpAny (model W.prog W.w) Γ.A (execs rest Γ.env) Q NoE s')
    (hs : ∀ x, foldedSetIterable iter Γ.env x = pure x) (ht : ∀ it v, letOwnedTupleGo target it v = pure ()) :
    wpAny (model W.prog W.w) Γ.A (execs ss Γ.env) Q NoE s := by
  obtain ⟨⟨vs, St'⟩, e', h⟩ := Option.map_eq_some_iff.mp e
  obtain ⟨h1, rfl⟩ := Prod.mk.inj h
  unfold headF at e'
  split at e'
  · rename_i fr1 hp1 e1
    refine hs1 fr hp fr1 hp1 ρ s Q e1 gg.inv fun ρ' s' S R F => ?_
    have g1 := gg.step S R F
    refine wpAny_execs_cons (wpAny_mono (g_for hi g1 (fun w hw => isIntV_no (List.all_eq_true.mp h1 w hw)) sel ks nd (fun _ => St') e' (fun k w hw s₁ X₁ Y₁ ρ s u g r => ?_) hs ht) (fun flow s'' p => ?_) fun _ _ x => x)
    · obtain ⟨z, rfl⟩ := isIntV_ex (List.all_eq_true.mp h1 w (List.mem_of_getElem? hw))
      exact turn z s₁ X₁ Y₁ ρ s u g r
    · obtain ⟨rfl, ρ'', g''⟩ := p
      exact k ρ'' s'' g''
  · cases e'
theorem g_as {x : Str} {oc : Option Addr} {pos : Pos} (i : Nat) (hi : Γ.nm[i]? = some (x, oc)) {ρ : List Addr} {fr : Sl} {hp : Hp} {s : Shared} {v : V} {u : Value} {Q : Shared → Prop} (g : G W d Γ s₀ X Y ρ fr hp s) (r : VR ρ v u)
    (k : ∀ ρ' s', G W d Γ s₀ X Y ρ' (fr.set i (some v)) hp s' → Q s') : wpAny (model W.prog W.w) Γ.A (assign (.Name x pos) Γ.env u) (fun _ s' => Q s') NoE s :=
  wpAny_mono (as_name (pos := pos) i hi v fr hp _ _ ρ s u rfl g.inv r) (fun _ s' p => by
    obtain ⟨ρ', S, R, F⟩ := p
    exact k ρ' s' (g.step S R F)) fun _ _ x => x
theorem keep0 {K : Frag} {f : Value} (hW : W.K = K) (h : keepIn K f = true) : keepIn W.K f = true := hW ▸ h
theorem fmod_lt (z : Int) (n : Nat) (h : 0 < n) : ∃ k : Nat, k < n ∧ z.fmod n = (k : Int) := by
  have h1 := Int.fmod_nonneg_of_pos z (b := (n : Int)) (by omega)
  have h2 := Int.fmod_lt_of_pos z (b := (n : Int)) (by omega)
  exact ⟨(z.fmod n).toNat, by omega, by omega⟩
end

end Mine
namespace Mine
noncomputable abbrev K2 (W : Wd) : Frag := K2o W.w.params
theorem tab2 {W : Wd} (hW : W.K = K2 W) : TabOk W 120 [([46, 46, 46], some 52), ([46, 46, 44], none), ([46, 46], none), ([46, 44], none), ([46], some 23), ([44], some 12)] := by
  refine tab_ok (es := ?es) (n := ?n) hW ?h1 ?h2 (by kernel_rfl) (by kernel_rfl)
  case h1 => with_unfolding_all rfl
  case h2 => repeat (first | exact trivial | refine And.intro ⟨_, _, rfl, rfl⟩ ?_)
theorem cls2 {W : Wd} (hW : W.K = K2 W) : ClsOk W 83 :=
  cls_ok hW (by kernel_rfl) (by kernel_rfl) (by kernel_rfl) (by kernel_rfl) (by kernel_rfl) (fld_all ⟨by kernel_rfl, by kernel_rfl, by kernel_rfl⟩ ⟨by kernel_rfl, by kernel_rfl, by kernel_rfl⟩ ⟨by kernel_rfl, by kernel_rfl, by kernel_rfl⟩ ⟨by kernel_rfl, by kernel_rfl, by kernel_rfl⟩ ⟨by kernel_rfl, by kernel_rfl, by kernel_rfl⟩)

noncomputable def mISEOF  : { b : ExF // ∀ (W : Wd), W.K = K2 W → CallC W (0 + 1) (.ref 129) (defF 1 0 b) } := by
  refine' ⟨_, fun W hW => ?main⟩
  rotate_left
  refine call_def (fd := ?fd) (body := ?body) (ps := [Str.ofString "x"]) (ls := []) (cs := []) ⟨lk (o := ?o) ?h1 ?h2, ?code, ?hb, bind1 ?bd, ?clo, ?gl, ?bl, ?kd, ?co, ?ge, ?lc, fun _ _ h => (nomatch h), ?nd, ?ndc⟩ ?bod
  case h1 => rw [hW]; with_unfolding_all rfl
  case h2 => with_unfolding_all rfl
  case hb => rfl
  case code => rw [hW]; kernel_rfl
  case bd => intro a; kernel_rfl
  case clo => rfl
  case gl => kernel_rfl
  case bl => kernel_rfl
  case kd => rfl
  case co => rfl
  case ge => rfl
  case lc => decide +kernel
  case nd => decide +kernel
  case ndc => decide +kernel
  case bod =>
    intro A L
    repeat' (first
      | ((with_reducible show EvM _ _ _ (Expr.Name (Str.ofString "x") _) _); with_reducible refine' ev_loc (x := Str.ofString "x") 0 (by with_unfolding_all rfl))
      | ((with_reducible show EvM _ _ _ (Expr.Name (Str.ofString "ENDMARKER") _) _); with_reducible exact gli (x := Str.ofString "ENDMARKER") (by assumption) 0 (by kernel_rfl) (by kernel_rfl) (by kernel_rfl))
      | ((with_reducible show EvM _ _ _ (Expr.Compare _ [CmpOp.Eq] _ _) _); with_reducible refine' ev_cmp ?_ ?_ op_eq (by with_unfolding_all rfl))
      | (with_reducible exact st_nil)
      | (with_reducible refine' st_cons ?_ ?_)
      | (with_reducible refine' ex_ret ?_))

noncomputable def mParse  : { b : ExF // ∀ (W : Wd), W.K = K2 W → CallC W (0 + 1) (.ref 119) (defF 1 4 b) } := by
  refine' ⟨_, fun W hW => ?main⟩
  rotate_left
  refine call_def (fd := ?fd) (body := ?body) (ps := [Str.ofString "resp"]) (ls := [Str.ofString "dirname", Str.ofString "i", Str.ofString "n", Str.ofString "c"]) (cs := []) ⟨lk (o := ?o) ?h1 ?h2, ?code, ?hb, bind1 ?bd, ?clo, ?gl, ?bl, ?kd, ?co, ?ge, ?lc, fun _ _ h => (nomatch h), ?nd, ?ndc⟩ ?bod
  case h1 => rw [hW]; with_unfolding_all rfl
  case h2 => with_unfolding_all rfl
  case hb => rfl
  case code => rw [hW]; kernel_rfl
  case bd => intro a; kernel_rfl
  case clo => rfl
  case gl => kernel_rfl
  case bl => kernel_rfl
  case kd => rfl
  case co => rfl
  case ge => rfl
  case lc => decide +kernel
  case nd => decide +kernel
  case ndc => decide +kernel
  case bod =>
    intro A L
    repeat' (first
      | ((with_reducible show EvM _ _ _ (Expr.Name (Str.ofString "resp") _) _); with_reducible refine' ev_loc (x := Str.ofString "resp") 0 (by with_unfolding_all rfl))
      | ((with_reducible show EvM _ _ _ (Expr.Name (Str.ofString "dirname") _) _); with_reducible refine' ev_loc (x := Str.ofString "dirname") 1 (by with_unfolding_all rfl))
      | ((with_reducible show ExM _ _ _ (Stmt.Assign [Expr.Name (Str.ofString "dirname") _] _ _) _); with_reducible refine' ex_assign (x := Str.ofString "dirname") 1 ?_ (by with_unfolding_all rfl) (by with_unfolding_all rfl))
      | ((with_reducible show EvM _ _ _ (Expr.Name (Str.ofString "i") _) _); with_reducible refine' ev_loc (x := Str.ofString "i") 2 (by with_unfolding_all rfl))
      | ((with_reducible show ExM _ _ _ (Stmt.Assign [Expr.Name (Str.ofString "i") _] _ _) _); with_reducible refine' ex_assign (x := Str.ofString "i") 2 ?_ (by with_unfolding_all rfl) (by with_unfolding_all rfl))
      | ((with_reducible show EvM _ _ _ (Expr.Name (Str.ofString "n") _) _); with_reducible refine' ev_loc (x := Str.ofString "n") 3 (by with_unfolding_all rfl))
      | ((with_reducible show ExM _ _ _ (Stmt.Assign [Expr.Name (Str.ofString "n") _] _ _) _); with_reducible refine' ex_assign (x := Str.ofString "n") 3 ?_ (by with_unfolding_all rfl) (by with_unfolding_all rfl))
      | ((with_reducible show EvM _ _ _ (Expr.Name (Str.ofString "c") _) _); with_reducible refine' ev_loc (x := Str.ofString "c") 4 (by with_unfolding_all rfl))
      | ((with_reducible show ExM _ _ _ (Stmt.Assign [Expr.Name (Str.ofString "c") _] _ _) _); with_reducible refine' ex_assign (x := Str.ofString "c") 4 ?_ (by with_unfolding_all rfl) (by with_unfolding_all rfl))
      | ((with_reducible show EvM _ _ _ (Expr.Constant (Const.int _) _ _) _); with_reducible exact ev_int _)
      | ((with_reducible show EvM _ _ _ (Expr.Constant (Const.str (Str.ofString "257")) _ _) _); with_reducible exact ev_str (x := Str.ofString "257") _ s_257)
      | ((with_reducible show EvM _ _ _ (Expr.Constant (Const.str (Str.ofString " \"")) _ _) _); with_reducible exact ev_str (x := Str.ofString " \"") _ s_sq)
      | ((with_reducible show EvM _ _ _ (Expr.Constant (Const.str (Str.ofString "\"")) _ _) _); with_reducible exact ev_str (x := Str.ofString "\"") _ s_q)
      | ((with_reducible show EvM _ _ _ (Expr.Constant (Const.str (Str.ofString "")) _ _) _); with_reducible exact ev_str (x := Str.ofString "") _ s_empty)
      | ((with_reducible show TeM _ _ _ (Expr.Compare _ [CmpOp.Eq] _ _) _); with_reducible refine' te_cmp ?_ ?_ op_eq (by with_unfolding_all rfl))
      | ((with_reducible show TeM _ _ _ (Expr.Compare _ [CmpOp.NotEq] _ _) _); with_reducible refine' te_cmp ?_ ?_ op_ne (by with_unfolding_all rfl))
      | ((with_reducible show TeM _ _ _ (Expr.Compare _ [CmpOp.Lt] _ _) _); with_reducible refine' te_cmp ?_ ?_ op_lt (by with_unfolding_all rfl))
      | ((with_reducible show TeM _ _ _ (Expr.Compare _ [CmpOp.GtE] _ _) _); with_reducible refine' te_cmp ?_ ?_ op_ge (by with_unfolding_all rfl))
      | (with_reducible refine' te_or ?_ ?_)
      | ((with_reducible show EvM _ _ _ (Expr.BinOp _ Operator.Add _ _) _); with_reducible refine' ev_bin ?_ ?_ op_addA)
      | (with_reducible refine' ev_slTo ?_ ?_)
      | (with_reducible refine' ev_slFt ?_ ?_ ?_)
      | (with_reducible refine' sub_nm ?_ ?_)
      | (with_reducible refine' evs_cons ?_ ?_ (by with_unfolding_all rfl))
      | (with_reducible exact evs_nil)
      | ((with_reducible show EvM _ _ _ (Expr.Call (Expr.Name (Str.ofString "len") _) _ _ _) _); with_reducible refine' ev_call (gb (x := Str.ofString "len") (c := .builtin "len") (by assumption) (by kernel_rfl) (by kernel_rfl) (by kernel_rfl) (by decide +kernel) (by kernel_rfl)) c_len ?_ callee_b (by with_unfolding_all rfl) (by with_unfolding_all rfl) (by with_unfolding_all rfl))
      | (with_reducible exact st_nil)
      | (with_reducible refine' st_cons ?_ ?_)
      | (with_reducible refine' ex_ret ?_)
      | (with_reducible exact ex_brk)
      | (with_reducible exact ex_raise)
      | (with_reducible refine' ex_if ?_ ?_ ?_)
      | (with_reducible refine' ex_while 400 ?_ ?_))

noncomputable def mPieces  : { b : ExF // ∀ (W : Wd), W.K = K2 W → CallC W (0 + 1) (.ref 136) (defF 1 3 b) } := by
  refine' ⟨_, fun W hW => ?main⟩
  rotate_left
  refine call_def (fd := ?fd) (body := ?body) (ps := [Str.ofString "text"]) (ls := [Str.ofString "numbers", Str.ofString "place", Str.ofString "size"]) (cs := []) ⟨lk (o := ?o) ?h1 ?h2, ?code, ?hb, bind1 ?bd, ?clo, ?gl, ?bl, ?kd, ?co, ?ge, ?lc, fun _ _ h => (nomatch h), ?nd, ?ndc⟩ ?bod
  case h1 => rw [hW]; with_unfolding_all rfl
  case h2 => with_unfolding_all rfl
  case hb => rfl
  case code => rw [hW]; kernel_rfl
  case bd => intro a; kernel_rfl
  case clo => rfl
  case gl => kernel_rfl
  case bl => kernel_rfl
  case kd => rfl
  case co => rfl
  case ge => rfl
  case lc => decide +kernel
  case nd => decide +kernel
  case ndc => decide +kernel
  case bod =>
    intro A L
    repeat' (first
      | ((with_reducible show EvM _ _ _ (Expr.Name (Str.ofString "text") _) _); with_reducible refine' ev_loc (x := Str.ofString "text") 0 (by with_unfolding_all rfl))
      | ((with_reducible show EvM _ _ _ (Expr.Name (Str.ofString "numbers") _) _); with_reducible refine' ev_loc (x := Str.ofString "numbers") 1 (by with_unfolding_all rfl))
      | ((with_reducible show ExM _ _ _ (Stmt.Assign [Expr.Name (Str.ofString "numbers") _] _ _) _); with_reducible refine' ex_assign (x := Str.ofString "numbers") 1 ?_ (by with_unfolding_all rfl) (by with_unfolding_all rfl))
      | ((with_reducible show EvM _ _ _ (Expr.Name (Str.ofString "place") _) _); with_reducible refine' ev_loc (x := Str.ofString "place") 2 (by with_unfolding_all rfl))
      | ((with_reducible show ExM _ _ _ (Stmt.Assign [Expr.Name (Str.ofString "place") _] _ _) _); with_reducible refine' ex_assign (x := Str.ofString "place") 2 ?_ (by with_unfolding_all rfl) (by with_unfolding_all rfl))
      | ((with_reducible show EvM _ _ _ (Expr.Name (Str.ofString "size") _) _); with_reducible refine' ev_loc (x := Str.ofString "size") 3 (by with_unfolding_all rfl))
      | ((with_reducible show ExM _ _ _ (Stmt.Assign [Expr.Name (Str.ofString "size") _] _ _) _); with_reducible refine' ex_assign (x := Str.ofString "size") 3 ?_ (by with_unfolding_all rfl) (by with_unfolding_all rfl))
      | ((with_reducible show EvM _ _ _ (Expr.Constant (Const.int _) _ _) _); with_reducible exact ev_int _)
      | ((with_reducible show TeM _ _ _ (Expr.Compare _ [CmpOp.NotIn] [Expr.Name (Str.ofString "EXACT_TOKEN_TYPES") _] _) _); with_reducible refine' te_cmp ?_ (gf (x := Str.ofString "EXACT_TOKEN_TYPES") (c := .ref 120) (by assumption) (by kernel_rfl) (by kernel_rfl) (by kernel_rfl)) (op_ninTab (tab2 (by assumption))) (by with_unfolding_all rfl))
      | ((with_reducible show TeM _ _ _ (Expr.Compare _ [CmpOp.Lt] _ _) _); with_reducible refine' te_cmp ?_ ?_ op_lt (by with_unfolding_all rfl))
      | ((with_reducible show TeM _ _ _ (Expr.Compare _ [CmpOp.Gt] _ _) _); with_reducible refine' te_cmp ?_ ?_ op_gt (by with_unfolding_all rfl))
      | (with_reducible refine' te_and ?_ ?_)
      | ((with_reducible show EvM _ _ _ (Expr.BinOp _ Operator.Add _ _) _); with_reducible refine' ev_bin ?_ ?_ op_addA)
      | ((with_reducible show EvM _ _ _ (Expr.BinOp _ Operator.Sub _ _) _); with_reducible refine' ev_bin ?_ ?_ op_sub)
      | ((with_reducible show EvM _ _ _ (Expr.Subscript (Expr.Name (Str.ofString "EXACT_TOKEN_TYPES") _) _ _) _); with_reducible refine' tab_sb (tab2 (by assumption)) (gf (x := Str.ofString "EXACT_TOKEN_TYPES") (c := .ref 120) (by assumption) (by kernel_rfl) (by kernel_rfl) (by kernel_rfl)) ?_)
      | (with_reducible refine' ev_slFt ?_ ?_ ?_)
      | (with_reducible refine' ev_list ?_)
      | (with_reducible refine' evs_cons ?_ ?_ (by with_unfolding_all rfl))
      | (with_reducible exact evs_nil)
      | ((with_reducible show EvM _ _ _ (Expr.Call (Expr.Name (Str.ofString "len") _) _ _ _) _); with_reducible refine' ev_call (gb (x := Str.ofString "len") (c := .builtin "len") (by assumption) (by kernel_rfl) (by kernel_rfl) (by kernel_rfl) (by decide +kernel) (by kernel_rfl)) c_len ?_ callee_b (by with_unfolding_all rfl) (by with_unfolding_all rfl) (by with_unfolding_all rfl))
      | ((with_reducible show EvM _ _ _ (Expr.Call (Expr.Attribute _ (Str.ofString "append") _) _ _ _) _); with_reducible refine' ev_meth (name := Str.ofString "append") (id := "list.append") ty_list m_append PySem.F.plainAttrs_list PySem.F.slot_list_append PySem.F.type_list_append ?_ ?_ (by with_unfolding_all rfl) (by with_unfolding_all rfl) (by with_unfolding_all rfl) (by with_unfolding_all rfl) (by with_unfolding_all rfl))
      | (with_reducible exact st_nil)
      | (with_reducible refine' st_cons ?_ ?_)
      | (with_reducible refine' ex_ret ?_)
      | (with_reducible refine' ex_expr ?_ (by with_unfolding_all rfl) (by with_unfolding_all rfl))
      | (with_reducible refine' ex_while 400 ?_ ?_))

noncomputable def mInit  : { b : ExF // ∀ (W : Wd), W.K = K2 W → CallC W (0 + 1) (.ref 38) (defF 2 7 b) } := by
  refine' ⟨_, fun W hW => ?main⟩
  rotate_left
  refine call_def (fd := ?fd) (body := ?body) (ps := [Str.ofString "self", Str.ofString "ws"]) (ls := [Str.ofString "S", Str.ofString "T", Str.ofString "count", Str.ofString "b", Str.ofString "n", Str.ofString "nt", Str.ofString "ch"]) (cs := []) ⟨lk (o := ?o) ?h1 ?h2, ?code, ?hb, bind2 ?bd, ?clo, ?gl, ?bl, ?kd, ?co, ?ge, ?lc, fun _ _ h => (nomatch h), ?nd, ?ndc⟩ ?bod
  case h1 => rw [hW]; with_unfolding_all rfl
  case h2 => with_unfolding_all rfl
  case hb => rfl
  case code => rw [hW]; kernel_rfl
  case bd => intro a b; kernel_rfl
  case clo => rfl
  case gl => kernel_rfl
  case bl => kernel_rfl
  case kd => rfl
  case co => rfl
  case ge => rfl
  case lc => decide +kernel
  case nd => decide +kernel
  case ndc => decide +kernel
  case bod =>
    intro A L
    repeat' (first
      | ((with_reducible refine' ex_swap2 (x := Str.ofString "S") (y := Str.ofString "T") 2 3 ?_ (by with_unfolding_all rfl) (by with_unfolding_all rfl) (by decide) ?h1 ?h2); (case h1 => rfl); (case h2 => rfl))
      | (with_reducible refine' ex_assign3 (x := Str.ofString "b") (y := Str.ofString "n") (z := Str.ofString "nt") 5 6 7 ?_ (by with_unfolding_all rfl) (by with_unfolding_all rfl) (by with_unfolding_all rfl) (by with_unfolding_all rfl) (by with_unfolding_all rfl))
      | ((with_reducible show EvM _ _ _ (Expr.Name (Str.ofString "self") _) _); with_reducible refine' ev_loc (x := Str.ofString "self") 0 (by with_unfolding_all rfl))
      | ((with_reducible show EvM _ _ _ (Expr.Name (Str.ofString "ws") _) _); with_reducible refine' ev_loc (x := Str.ofString "ws") 1 (by with_unfolding_all rfl))
      | ((with_reducible show EvM _ _ _ (Expr.Name (Str.ofString "S") _) _); with_reducible refine' ev_loc (x := Str.ofString "S") 2 (by with_unfolding_all rfl))
      | ((with_reducible show EvM _ _ _ (Expr.Name (Str.ofString "T") _) _); with_reducible refine' ev_loc (x := Str.ofString "T") 3 (by with_unfolding_all rfl))
      | ((with_reducible show EvM _ _ _ (Expr.Name (Str.ofString "count") _) _); with_reducible refine' ev_loc (x := Str.ofString "count") 4 (by with_unfolding_all rfl))
      | ((with_reducible show ExM _ _ _ (Stmt.Assign [Expr.Name (Str.ofString "count") _] _ _) _); with_reducible refine' ex_assign (x := Str.ofString "count") 4 ?_ (by with_unfolding_all rfl) (by with_unfolding_all rfl))
      | ((with_reducible show EvM _ _ _ (Expr.Name (Str.ofString "b") _) _); with_reducible refine' ev_loc (x := Str.ofString "b") 5 (by with_unfolding_all rfl))
      | ((with_reducible show ExM _ _ _ (Stmt.Assign [Expr.Name (Str.ofString "b") _] _ _) _); with_reducible refine' ex_assign (x := Str.ofString "b") 5 ?_ (by with_unfolding_all rfl) (by with_unfolding_all rfl))
      | ((with_reducible show EvM _ _ _ (Expr.Name (Str.ofString "n") _) _); with_reducible refine' ev_loc (x := Str.ofString "n") 6 (by with_unfolding_all rfl))
      | ((with_reducible show ExM _ _ _ (Stmt.Assign [Expr.Name (Str.ofString "n") _] _ _) _); with_reducible refine' ex_assign (x := Str.ofString "n") 6 ?_ (by with_unfolding_all rfl) (by with_unfolding_all rfl))
      | ((with_reducible show EvM _ _ _ (Expr.Name (Str.ofString "nt") _) _); with_reducible refine' ev_loc (x := Str.ofString "nt") 7 (by with_unfolding_all rfl))
      | ((with_reducible show ExM _ _ _ (Stmt.Assign [Expr.Name (Str.ofString "nt") _] _ _) _); with_reducible refine' ex_assign (x := Str.ofString "nt") 7 ?_ (by with_unfolding_all rfl) (by with_unfolding_all rfl))
      | ((with_reducible show EvM _ _ _ (Expr.Name (Str.ofString "ch") _) _); with_reducible refine' ev_loc (x := Str.ofString "ch") 8 (by with_unfolding_all rfl))
      | ((with_reducible show ExM _ _ _ (Stmt.For (Expr.Name (Str.ofString "ch") _) _ _ _ _) _); with_reducible refine' ex_for ?_ (as_name (x := Str.ofString "ch") 8 (by with_unfolding_all rfl)) ?_ (by intro _; with_unfolding_all rfl) (by intro _ _; with_unfolding_all rfl))
      | ((with_reducible show EvM _ _ _ (Expr.Constant (Const.int _) _ _) _); with_reducible exact ev_int _)
      | ((with_reducible show TeM _ _ _ (Expr.Compare _ [CmpOp.Eq] _ _) _); with_reducible refine' te_cmp ?_ ?_ op_eq (by with_unfolding_all rfl))
      | ((with_reducible show TeM _ _ _ (Expr.Compare _ [CmpOp.GtE] _ _) _); with_reducible refine' te_cmp ?_ ?_ op_ge (by with_unfolding_all rfl))
      | ((with_reducible show EvM _ _ _ (Expr.Compare _ [CmpOp.LtE] _ _) _); with_reducible refine' ev_cmp ?_ ?_ op_le (by with_unfolding_all rfl))
      | ((with_reducible show EvM _ _ _ (Expr.BinOp _ Operator.Add _ _) _); with_reducible refine' ev_bin ?_ ?_ op_addA)
      | ((with_reducible show EvM _ _ _ (Expr.BinOp _ Operator.Sub _ _) _); with_reducible refine' ev_bin ?_ ?_ op_sub)
      | ((with_reducible show EvM _ _ _ (Expr.BinOp _ Operator.Mult _ _) _); with_reducible refine' ev_bin ?_ ?_ op_mulA)
      | (with_reducible refine' sub_nm ?_ ?_)
      | (with_reducible refine' ev_list ?_)
      | (with_reducible refine' ev_tup ?_)
      | (with_reducible refine' evs_cons ?_ ?_ (by with_unfolding_all rfl))
      | (with_reducible exact evs_nil)
      | ((with_reducible show EvM _ _ _ (Expr.Call (Expr.Name (Str.ofString "len") _) _ _ _) _); with_reducible refine' ev_call (gb (x := Str.ofString "len") (c := .builtin "len") (by assumption) (by kernel_rfl) (by kernel_rfl) (by kernel_rfl) (by decide +kernel) (by kernel_rfl)) c_len ?_ callee_b (by with_unfolding_all rfl) (by with_unfolding_all rfl) (by with_unfolding_all rfl))
      | ((with_reducible show EvM _ _ _ (Expr.Call (Expr.Name (Str.ofString "tuple") _) _ _ _) _); with_reducible refine' ev_call (gb (x := Str.ofString "tuple") (c := .type "tuple") (by assumption) (by kernel_rfl) (by kernel_rfl) (by kernel_rfl) (by decide +kernel) (by kernel_rfl)) c_tuple ?_ callee_t (by with_unfolding_all rfl) (by with_unfolding_all rfl) (by with_unfolding_all rfl))
      | ((with_reducible show EvM _ _ _ (Expr.Attribute _ (Str.ofString "raw") _) _); with_reducible refine' ev_att (x := Str.ofString "raw") (cls2 (by assumption)) 0 ?_ (by with_unfolding_all rfl) (by with_unfolding_all rfl))
      | ((with_reducible show EvM _ _ _ (Expr.Attribute _ (Str.ofString "S") _) _); with_reducible refine' ev_cattS (x := Str.ofString "S") (C := 83) (by assumption) [32] (gf (x := Str.ofString "Whitespace") (c := .ref 83) (by assumption) (by kernel_rfl) (by kernel_rfl) (by kernel_rfl)) (by kernel_rfl) (by kernel_rfl) (by with_unfolding_all rfl))
      | ((with_reducible show EvM _ _ _ (Expr.Attribute _ (Str.ofString "T") _) _); with_reducible refine' ev_cattS (x := Str.ofString "T") (C := 83) (by assumption) [9] (gf (x := Str.ofString "Whitespace") (c := .ref 83) (by assumption) (by kernel_rfl) (by kernel_rfl) (by kernel_rfl)) (by kernel_rfl) (by kernel_rfl) (by with_unfolding_all rfl))
      | (with_reducible exact st_nil)
      | (with_reducible refine' st_cons ?_ ?_)
      | (with_reducible exact ex_brk)
      | (with_reducible refine' ex_if ?_ ?_ ?_)
      | (with_reducible refine' ex_setitem ?_ ?_ ?_ (by with_unfolding_all rfl))
      | ((with_reducible show ExM _ _ _ (Stmt.Assign [Expr.Attribute _ (Str.ofString "raw") _] _ _) _); with_reducible refine' ex_setattr (x := Str.ofString "raw") (cls2 (by assumption)) 0 ?_ ?_ (by with_unfolding_all rfl) (by with_unfolding_all rfl))
      | ((with_reducible show ExM _ _ _ (Stmt.Assign [Expr.Attribute _ (Str.ofString "n") _] _ _) _); with_reducible refine' ex_setattr (x := Str.ofString "n") (cls2 (by assumption)) 1 ?_ ?_ (by with_unfolding_all rfl) (by with_unfolding_all rfl))
      | ((with_reducible show ExM _ _ _ (Stmt.Assign [Expr.Attribute _ (Str.ofString "nt") _] _ _) _); with_reducible refine' ex_setattr (x := Str.ofString "nt") (cls2 (by assumption)) 2 ?_ ?_ (by with_unfolding_all rfl) (by with_unfolding_all rfl))
      | ((with_reducible show ExM _ _ _ (Stmt.Assign [Expr.Attribute _ (Str.ofString "norm") _] _ _) _); with_reducible refine' ex_setattr (x := Str.ofString "norm") (cls2 (by assumption)) 3 ?_ ?_ (by with_unfolding_all rfl) (by with_unfolding_all rfl))
      | ((with_reducible show ExM _ _ _ (Stmt.Assign [Expr.Attribute _ (Str.ofString "is_simple") _] _ _) _); with_reducible refine' ex_setattr (x := Str.ofString "is_simple") (cls2 (by assumption)) 4 ?_ ?_ (by with_unfolding_all rfl) (by with_unfolding_all rfl)))

noncomputable def mIndent  : { b : ExF // ∀ (W : Wd), W.K = K2 W → CallC W (0 + 1) (.ref 52) (defF 2 4 b) } := by
  refine' ⟨_, fun W hW => ?main⟩
  rotate_left
  refine call_def (fd := ?fd) (body := ?body) (ps := [Str.ofString "self", Str.ofString "tabsize"]) (ls := [Str.ofString "count", Str.ofString "trailing", Str.ofString "il", Str.ofString "i"]) (cs := []) ⟨lk (o := ?o) ?h1 ?h2, ?code, ?hb, bind2 ?bd, ?clo, ?gl, ?bl, ?kd, ?co, ?ge, ?lc, fun _ _ h => (nomatch h), ?nd, ?ndc⟩ ?bod
  case h1 => rw [hW]; with_unfolding_all rfl
  case h2 => with_unfolding_all rfl
  case hb => rfl
  case code => rw [hW]; kernel_rfl
  case bd => intro a b; kernel_rfl
  case clo => rfl
  case gl => kernel_rfl
  case bl => kernel_rfl
  case kd => rfl
  case co => rfl
  case ge => rfl
  case lc => decide +kernel
  case nd => decide +kernel
  case ndc => decide +kernel
  case bod =>
    intro A L
    repeat' (first
      | ((with_reducible refine' ex_unt [2, 3] ?_ (names2 (x := Str.ofString "count") (y := Str.ofString "trailing") (by with_unfolding_all rfl) (by with_unfolding_all rfl)) ?h1 ?h2); (case h1 => rfl); (case h2 => rfl))
      | ((with_reducible show EvM _ _ _ (Expr.Name (Str.ofString "self") _) _); with_reducible refine' ev_loc (x := Str.ofString "self") 0 (by with_unfolding_all rfl))
      | ((with_reducible show EvM _ _ _ (Expr.Name (Str.ofString "tabsize") _) _); with_reducible refine' ev_loc (x := Str.ofString "tabsize") 1 (by with_unfolding_all rfl))
      | ((with_reducible show EvM _ _ _ (Expr.Name (Str.ofString "count") _) _); with_reducible refine' ev_loc (x := Str.ofString "count") 2 (by with_unfolding_all rfl))
      | ((with_reducible show EvM _ _ _ (Expr.Name (Str.ofString "trailing") _) _); with_reducible refine' ev_loc (x := Str.ofString "trailing") 3 (by with_unfolding_all rfl))
      | ((with_reducible show EvM _ _ _ (Expr.Name (Str.ofString "il") _) _); with_reducible refine' ev_loc (x := Str.ofString "il") 4 (by with_unfolding_all rfl))
      | ((with_reducible show ExM _ _ _ (Stmt.Assign [Expr.Name (Str.ofString "il") _] _ _) _); with_reducible refine' ex_assign (x := Str.ofString "il") 4 ?_ (by with_unfolding_all rfl) (by with_unfolding_all rfl))
      | ((with_reducible show EvM _ _ _ (Expr.Name (Str.ofString "i") _) _); with_reducible refine' ev_loc (x := Str.ofString "i") 5 (by with_unfolding_all rfl))
      | ((with_reducible show ExM _ _ _ (Stmt.For (Expr.Name (Str.ofString "i") _) _ _ _ _) _); with_reducible refine' ex_for ?_ (as_name (x := Str.ofString "i") 5 (by with_unfolding_all rfl)) ?_ (by intro _; with_unfolding_all rfl) (by intro _ _; with_unfolding_all rfl))
      | ((with_reducible show EvM _ _ _ (Expr.Constant (Const.int _) _ _) _); with_reducible exact ev_int _)
      | ((with_reducible show EvM _ _ _ (Expr.BinOp _ Operator.Add _ _) _); with_reducible refine' ev_bin ?_ ?_ op_addA)
      | ((with_reducible show EvM _ _ _ (Expr.BinOp _ Operator.Mult _ _) _); with_reducible refine' ev_bin ?_ ?_ op_mulA)
      | ((with_reducible show EvM _ _ _ (Expr.BinOp _ Operator.FloorDiv _ _) _); with_reducible refine' ev_bin ?_ ?_ op_div)
      | (with_reducible refine' sub_nm ?_ ?_)
      | (with_reducible refine' evs_cons ?_ ?_ (by with_unfolding_all rfl))
      | (with_reducible exact evs_nil)
      | ((with_reducible show EvM _ _ _ (Expr.Call (Expr.Name (Str.ofString "len") _) _ _ _) _); with_reducible refine' ev_call (gb (x := Str.ofString "len") (c := .builtin "len") (by assumption) (by kernel_rfl) (by kernel_rfl) (by kernel_rfl) (by decide +kernel) (by kernel_rfl)) c_len ?_ callee_b (by with_unfolding_all rfl) (by with_unfolding_all rfl) (by with_unfolding_all rfl))
      | ((with_reducible show EvM _ _ _ (Expr.Call (Expr.Name (Str.ofString "range") _) _ _ _) _); with_reducible refine' ev_call (gb (x := Str.ofString "range") (c := .type "range") (by assumption) (by kernel_rfl) (by kernel_rfl) (by kernel_rfl) (by decide +kernel) (by kernel_rfl)) c_range ?_ callee_t (by with_unfolding_all rfl) (by with_unfolding_all rfl) (by with_unfolding_all rfl))
      | ((with_reducible show EvM _ _ _ (Expr.Attribute _ (Str.ofString "nt") _) _); with_reducible refine' ev_att (x := Str.ofString "nt") (cls2 (by assumption)) 2 ?_ (by with_unfolding_all rfl) (by with_unfolding_all rfl))
      | ((with_reducible show EvM _ _ _ (Expr.Attribute _ (Str.ofString "norm") _) _); with_reducible refine' ev_att (x := Str.ofString "norm") (cls2 (by assumption)) 3 ?_ (by with_unfolding_all rfl) (by with_unfolding_all rfl))
      | (with_reducible exact st_nil)
      | (with_reducible refine' st_cons ?_ ?_)
      | (with_reducible refine' ex_ret ?_))

noncomputable def mRow  : { b : ExF // ∀ (W : Wd), W.K = K2 W → CallC W (0 + 1) (.ref 150) (defF 0 4 b) } := by
  refine' ⟨_, fun W hW => ?main⟩
  rotate_left
  refine call_def (fd := ?fd) (body := ?body) (ps := []) (ls := [Str.ofString "ended", Str.ofString "row", Str.ofString "c", Str.ofString "a"]) (cs := []) ⟨lk (o := ?o) ?h1 ?h2, ?code, ?hb, bind0 ?bd, ?clo, ?gl, ?bl, ?kd, ?co, ?ge, ?lc, fun _ _ h => (nomatch h), ?nd, ?ndc⟩ ?bod
  case h1 => rw [hW]; with_unfolding_all rfl
  case h2 => with_unfolding_all rfl
  case hb => rfl
  case code => rw [hW]; kernel_rfl
  case bd => kernel_rfl
  case clo => rfl
  case gl => kernel_rfl
  case bl => kernel_rfl
  case kd => rfl
  case co => rfl
  case ge => rfl
  case lc => decide +kernel
  case nd => decide +kernel
  case ndc => decide +kernel
  case bod =>
    intro A L
    repeat' (first
      | ((with_reducible show EvM _ _ _ (Expr.Name (Str.ofString "ended") _) _); with_reducible refine' ev_loc (x := Str.ofString "ended") 0 (by with_unfolding_all rfl))
      | ((with_reducible show ExM _ _ _ (Stmt.Assign [Expr.Name (Str.ofString "ended") _] _ _) _); with_reducible refine' ex_assign (x := Str.ofString "ended") 0 ?_ (by with_unfolding_all rfl) (by with_unfolding_all rfl))
      | ((with_reducible show EvM _ _ _ (Expr.Name (Str.ofString "row") _) _); with_reducible refine' ev_loc (x := Str.ofString "row") 1 (by with_unfolding_all rfl))
      | ((with_reducible show ExM _ _ _ (Stmt.Assign [Expr.Name (Str.ofString "row") _] _ _) _); with_reducible refine' ex_assign (x := Str.ofString "row") 1 ?_ (by with_unfolding_all rfl) (by with_unfolding_all rfl))
      | ((with_reducible show EvM _ _ _ (Expr.Name (Str.ofString "c") _) _); with_reducible refine' ev_loc (x := Str.ofString "c") 2 (by with_unfolding_all rfl))
      | ((with_reducible show ExM _ _ _ (Stmt.For (Expr.Name (Str.ofString "c") _) _ _ _ _) _); with_reducible refine' ex_for ?_ (as_name (x := Str.ofString "c") 2 (by with_unfolding_all rfl)) ?_ (by intro _; with_unfolding_all rfl) (by intro _ _; with_unfolding_all rfl))
      | ((with_reducible show EvM _ _ _ (Expr.Name (Str.ofString "a") _) _); with_reducible refine' ev_loc (x := Str.ofString "a") 3 (by with_unfolding_all rfl))
      | ((with_reducible show ExM _ _ _ (Stmt.For (Expr.Name (Str.ofString "a") _) _ _ _ _) _); with_reducible refine' ex_for ?_ (as_name (x := Str.ofString "a") 3 (by with_unfolding_all rfl)) ?_ (by intro _; with_unfolding_all rfl) (by intro _ _; with_unfolding_all rfl))
      | ((with_reducible show EvM _ _ _ (Expr.Constant (Const.int _) _ _) _); with_reducible exact ev_int _)
      | ((with_reducible show EvM _ _ _ (Expr.Constant (Const.bool _) _ _) _); with_reducible exact ev_bool _)
      | (with_reducible refine' te_not ?_)
      | ((with_reducible show EvM _ _ _ (Expr.BinOp _ Operator.Sub _ _) _); with_reducible refine' ev_bin ?_ ?_ op_sub)
      | ((with_reducible show EvM _ _ _ (Expr.BinOp _ Operator.Mult _ _) _); with_reducible refine' ev_bin ?_ ?_ op_mulA)
      | (with_reducible refine' sub_nm ?_ ?_)
      | (with_reducible refine' ev_list ?_)
      | (with_reducible refine' evs_cons ?_ ?_ (by with_unfolding_all rfl))
      | (with_reducible exact evs_nil)
      | ((with_reducible show EvM _ _ _ (Expr.Call (Expr.Name (Str.ofString "range") _) _ _ _) _); with_reducible refine' ev_call (gb (x := Str.ofString "range") (c := .type "range") (by assumption) (by kernel_rfl) (by kernel_rfl) (by kernel_rfl) (by decide +kernel) (by kernel_rfl)) c_range ?_ callee_t (by with_unfolding_all rfl) (by with_unfolding_all rfl) (by with_unfolding_all rfl))
      | ((with_reducible show EvM _ _ _ (Expr.Call (Expr.Attribute _ (Str.ofString "append") _) _ _ _) _); with_reducible refine' ev_meth (name := Str.ofString "append") (id := "list.append") ty_list m_append PySem.F.plainAttrs_list PySem.F.slot_list_append PySem.F.type_list_append ?_ ?_ (by with_unfolding_all rfl) (by with_unfolding_all rfl) (by with_unfolding_all rfl) (by with_unfolding_all rfl) (by with_unfolding_all rfl))
      | (with_reducible exact st_nil)
      | (with_reducible refine' st_cons ?_ ?_)
      | (with_reducible refine' ex_ret ?_)
      | (with_reducible refine' ex_expr ?_ (by with_unfolding_all rfl) (by with_unfolding_all rfl))
      | (with_reducible refine' ex_if ?_ ?_ ?_)
      | (with_reducible refine' ex_setitem ?_ ?_ ?_ (by with_unfolding_all rfl))
      | (with_reducible refine' te_val ?_ (by with_unfolding_all rfl)))
end Mine
namespace Mine

noncomputable def mOften (F : FnF) : { b : ExF // ∀ (W : Wd), W.K = K2 W → ∀ d, 1 ≤ d → CallC W d (.ref 143) F → CallC W (d + 1) (.ref 143) (defF 1 2 b) } := by
  refine' ⟨_, fun W hW => ?main⟩
  rotate_left
  intro d hd hF
  refine call_def (fd := ?fd) (body := ?body) (ps := [Str.ofString "m"]) (ls := [Str.ofString "numbers", Str.ofString "third"]) (cs := []) ⟨lk (o := ?o) ?h1 ?h2, ?code, ?hb, bind1 ?bd, ?clo, ?gl, ?bl, ?kd, ?co, ?ge, ?lc, fun _ _ h => (nomatch h), ?nd, ?ndc⟩ ?bod
  case h1 => rw [hW]; with_unfolding_all rfl
  case h2 => with_unfolding_all rfl
  case hb => rfl
  case code => rw [hW]; kernel_rfl
  case bd => intro a; kernel_rfl
  case clo => rfl
  case gl => kernel_rfl
  case bl => kernel_rfl
  case kd => rfl
  case co => rfl
  case ge => rfl
  case lc => decide +kernel
  case nd => decide +kernel
  case ndc => decide +kernel
  case bod =>
    intro A L
    repeat' (first
      | ((with_reducible show EvM _ _ _ (Expr.Call (Expr.Attribute _ (Str.ofString "count") _) _ _ _) _); with_reducible refine' ev_meth (name := Str.ofString "count") (id := "list.count") ty_list m_count PySem.F.plainAttrs_list PySem.F.slot_list_count PySem.F.type_list_count ?_ ?_ (by with_unfolding_all rfl) (by with_unfolding_all rfl) (by with_unfolding_all rfl) (by with_unfolding_all rfl) (by with_unfolding_all rfl))
      | ((with_reducible show EvM _ _ _ (Expr.Call (Expr.Name (Str.ofString "ISEOF") _) _ _ _) _); with_reducible refine' ev_call (gf (x := Str.ofString "ISEOF") (c := .ref 129) (by assumption) (by kernel_rfl) (by kernel_rfl) (by kernel_rfl)) (((mISEOF).2 _ (by assumption)).m.up (by omega)) ?_ (keep_of (by assumption) (by kernel_rfl)) (by with_unfolding_all rfl) (by with_unfolding_all rfl) (by with_unfolding_all rfl))
      | ((with_reducible show EvM _ _ _ (Expr.Call (Expr.Name (Str.ofString "_law_pieces") _) _ _ _) _); with_reducible refine' ev_call (gf (x := Str.ofString "_law_pieces") (c := .ref 136) (by assumption) (by kernel_rfl) (by kernel_rfl) (by kernel_rfl)) (((mPieces).2 _ (by assumption)).m.up (by omega)) ?_ (keep_of (by assumption) (by kernel_rfl)) (by with_unfolding_all rfl) (by with_unfolding_all rfl) (by with_unfolding_all rfl))
      | ((with_reducible show EvM _ _ _ (Expr.Call (Expr.Name (Str.ofString "_law_often") _) _ _ _) _); with_reducible refine' ev_call (gf (x := Str.ofString "_law_often") (c := .ref 143) (by assumption) (by kernel_rfl) (by kernel_rfl) (by kernel_rfl)) (CallC.m (by assumption)) ?_ (keep_of (by assumption) (by kernel_rfl)) (by with_unfolding_all rfl) (by with_unfolding_all rfl) (by with_unfolding_all rfl))
      | ((with_reducible show EvM _ _ _ (Expr.Name (Str.ofString "m") _) _); with_reducible refine' ev_loc (x := Str.ofString "m") 0 (by with_unfolding_all rfl))
      | ((with_reducible show EvM _ _ _ (Expr.Name (Str.ofString "numbers") _) _); with_reducible refine' ev_loc (x := Str.ofString "numbers") 1 (by with_unfolding_all rfl))
      | ((with_reducible show ExM _ _ _ (Stmt.Assign [Expr.Name (Str.ofString "numbers") _] _ _) _); with_reducible refine' ex_assign (x := Str.ofString "numbers") 1 ?_ (by with_unfolding_all rfl) (by with_unfolding_all rfl))
      | ((with_reducible show EvM _ _ _ (Expr.Name (Str.ofString "third") _) _); with_reducible refine' ev_loc (x := Str.ofString "third") 2 (by with_unfolding_all rfl))
      | ((with_reducible show ExM _ _ _ (Stmt.Assign [Expr.Name (Str.ofString "third") _] _ _) _); with_reducible refine' ex_assign (x := Str.ofString "third") 2 ?_ (by with_unfolding_all rfl) (by with_unfolding_all rfl))
      | ((with_reducible show EvM _ _ _ (Expr.Constant (Const.int _) _ _) _); with_reducible exact ev_int _)
      | ((with_reducible show EvM _ _ _ (Expr.Constant (Const.str (Str.ofString ".")) _ _) _); with_reducible exact ev_str (x := Str.ofString ".") _ s_dot)
      | ((with_reducible show EvM _ _ _ (Expr.Constant (Const.str (Str.ofString ",")) _ _) _); with_reducible exact ev_str (x := Str.ofString ",") _ s_comma)
      | ((with_reducible show TeM _ _ _ (Expr.Compare _ [CmpOp.Eq] _ _) _); with_reducible refine' te_cmp ?_ ?_ op_eq (by with_unfolding_all rfl))
      | ((with_reducible show EvM _ _ _ (Expr.BinOp _ Operator.Add _ _) _); with_reducible refine' ev_bin ?_ ?_ op_addA)
      | ((with_reducible show EvM _ _ _ (Expr.BinOp _ Operator.Mult _ _) _); with_reducible refine' ev_bin ?_ ?_ op_mulA)
      | (with_reducible refine' evs_cons ?_ ?_ (by with_unfolding_all rfl))
      | (with_reducible exact evs_nil)
      | (with_reducible exact st_nil)
      | (with_reducible refine' st_cons ?_ ?_)
      | (with_reducible refine' ex_ret ?_)
      | (with_reducible refine' ex_if ?_ ?_ ?_)
      | (with_reducible refine' te_val ?_ (by with_unfolding_all rfl)))

noncomputable def oftenF : Nat → FnF
  | 0 => fun _ _ => none
  | k + 1 => defF 1 2 (mOften (oftenF k)).1
theorem often_ok {W : Wd} (hW : W.K = K2 W) : ∀ k : Nat, CallC W (k + 1) (.ref 143) (oftenF k)
  | 0 => fun Γ fr hp vs v hp' ρ s us e I r => by cases e
  | k + 1 => (mOften (oftenF k)).2 W hW (k + 1) (Nat.succ_le_succ (Nat.zero_le _)) (often_ok hW k)
noncomputable def clsW : FnF := clsF 83 (defF 2 7 mInit.1)
theorem cls_call {W : Wd} (hW : W.K = K2 W) : CallC W 2 (.ref 83) clsW := cls' hW (by kernel_rfl) (by kernel_rfl) (by kernel_rfl) (mInit.2 W hW)
end Mine
namespace Mine
noncomputable def lawB : { p : FuncData × List Stmt // ∀ P, (∃ o, (K2o P).lookup 155 = some o ∧ o.data = .func p.1) ∧ p.1.body = .stmts p.2 } := ⟨(_, _), fun P => ⟨⟨_, by with_unfolding_all rfl, by with_unfolding_all rfl⟩, rfl⟩⟩
noncomputable abbrev LF (A : Around) (L : Addr) : Fm := defFm A lawB.1.1 155 ([Str.ofString "script"] ++ [Str.ofString "v", Str.ofString "places", Str.ofString "tails", Str.ofString "turn", Str.ofString "told", Str.ofString "number", Str.ofString "third", Str.ofString "lead", Str.ofString "size", Str.ofString "often"]) [(Str.ofString "row", 0), (Str.ofString "m", 1)] L
noncomputable def st (i : Nat) : Stmt := match lawB.1.2[i]? with
  | some s => s
  | none => .Pass default
theorem law_ok {W : Wd} (hW : W.K = K2 W) : DefOk W 155 lawB.1.1 lawB.1.2 [Str.ofString "script"] [Str.ofString "v", Str.ofString "places", Str.ofString "tails", Str.ofString "turn", Str.ofString "told", Str.ofString "number", Str.ofString "third", Str.ofString "lead", Str.ofString "size", Str.ofString "often"] [(Str.ofString "row", 0), (Str.ofString "m", 1)] := by
  refine ⟨hW ▸ (lawB.2 _).1, ?code, (lawB.2 W.w.params).2, bind1 ?bd, ?clo, ?gl, ?bl, ?kd, ?co, ?ge, ?lc, ?cel, ?nd, ?ndc⟩
  case code => rw [hW]; kernel_rfl
  case bd => intro a; kernel_rfl
  case clo => kernel_rfl
  case gl => kernel_rfl
  case bl => kernel_rfl
  case kd => kernel_rfl
  case co => kernel_rfl
  case ge => kernel_rfl
  case lc => decide +kernel
  case nd => decide +kernel
  case ndc => decide +kernel
  case cel =>
    intro L p hp
    simp only [List.mem_cons, List.not_mem_nil, or_false] at hp
    rcases hp with rfl | rfl <;> exact ⟨by kernel_rfl, by kernel_rfl, by kernel_rfl⟩
noncomputable def lV : { x : Expr × Expr × List Stmt × Pos // st 1 = .For x.1 x.2.1 x.2.2.1 [] x.2.2.2 } := ⟨(_, _, _, _), by with_unfolding_all rfl⟩
noncomputable def bs (i : Nat) : Stmt := match lV.1.2.2.1[i]? with
  | some s => s
  | none => .Pass default
theorem law_split : lawB.1.2 = [st 0, st 1, st 2] := by with_unfolding_all rfl
theorem body_split : lV.1.2.2.1 = [bs 0, bs 1, bs 2, bs 3, bs 4, bs 5, bs 6, bs 7, bs 8, bs 9, bs 10] := by with_unfolding_all rfl
noncomputable def lR : { x : Nat × Pos × Pos // st 2 = .Return (some (.Constant (.bool true) x.1 x.2.1)) x.2.2 } := ⟨(_, _, _), by with_unfolding_all rfl⟩
theorem ev_compM {W : Wd} {d : Nat} {Γ : Fm} {scope : Scope} {cl : List (Str × Addr)} (tg : List Str) (cp : List (Nat × Str × Addr)) (nt : Nat) (caps : List Nat) (h1 : tg.length = nt) (h2 : cp.map (·.1) = caps) (KC : CompOk Γ scope cl tg cp) {x : Str} {px : Pos} {iter elt : Expr} {ifs : List Expr} {pos : Pos} {fi : EvF} {g : AsF} {t : TeF} {f : EvF}
    (hi : EvM W d Γ iter fi) (hg : ∀ C, AlM W d (Γ.comp scope cl tg cp C) (assign (.Name x px) (Γ.comp scope cl tg cp C).env) g) (ht : ∀ C, TsM W d (Γ.comp scope cl tg cp C) ifs t) (hf : ∀ C, EvM W d (Γ.comp scope cl tg cp C) elt f)
    (hs : ∀ x, foldedSetIterable iter Γ.env x = pure x) : EvM W d Γ (.ListComp elt [⟨.Name x px, iter, ifs, 0⟩] scope pos) (compE nt caps fi g t f) := by
  subst h1 h2
  exact ev_comp tg cp KC hi hg ht hf hs
noncomputable def mH : { f : ExF // ∀ (W : Wd), W.K = K2 W → ∀ A L rest, PreM W 30 (LF A L) (st 0 :: rest) rest f } := by
  refine' ⟨_, fun W hW A L rest => ?_⟩
  rotate_left
  with_reducible refine' pre_cons ?_ pre_nil
  all_goals (try (conv => arg 4; whnf))
  repeat' (first
      | ((with_reducible show EvM _ _ _ (Expr.Call (Expr.Name (Str.ofString "_law_row") _) _ _ _) _); with_reducible refine' ev_call0 (gf (x := Str.ofString "_law_row") (c := .ref 150) (by assumption) (by kernel_rfl) (by kernel_rfl) (by kernel_rfl)) ((mRow.2 _ (by assumption)).m.up (by decide)) (keep0 (by assumption) (by kernel_rfl)) (by with_unfolding_all rfl))
      | ((with_reducible show ExM _ _ _ (Stmt.Assign [Expr.Name (Str.ofString "row") _] _ _) _); with_reducible refine' ex_assign (x := Str.ofString "row") 11 ?_ (by with_unfolding_all rfl) (by with_unfolding_all rfl)))
noncomputable def mI : { f : EvF // ∀ (W : Wd), W.K = K2 W → ∀ A L, EvM W 30 (LF A L) lV.1.2.1 f } := by
  refine' ⟨_, fun W hW A L => ?_⟩
  rotate_left
  (conv => arg 4; whnf)
  repeat' (first
      | ((with_reducible show EvM _ _ _ (Expr.Name (Str.ofString "x") _) _); with_reducible refine' ev_loc (x := Str.ofString "x") 0 (by with_unfolding_all rfl))
      | ((with_reducible show EvM _ _ _ (Expr.ListComp _ [⟨Expr.Name (Str.ofString "x") _, _, _, _⟩] _ _) _); with_reducible refine' ev_comp (x := Str.ofString "x") (cl := []) [Str.ofString "x"] [] ⟨by with_unfolding_all rfl, by decide +kernel, (by with_unfolding_all rfl), by decide +kernel, by decide +kernel, (by intro p h; exact absurd h List.not_mem_nil), by decide +kernel, by decide +kernel⟩ ?_ (fun C => al_name (x := Str.ofString "x") 0 (by with_unfolding_all rfl)) (fun C => ts_nil) (fun C => ?_) (by intro _; with_unfolding_all rfl))
      | ((with_reducible show EvM _ _ _ (Expr.Name (Str.ofString "script") _) _); with_reducible refine' ev_loc (x := Str.ofString "script") 0 (by with_unfolding_all rfl))
      | ((with_reducible show EvM _ _ _ (Expr.Constant (Const.int _) _ _) _); with_reducible exact ev_int _)
      | ((with_reducible show EvM _ _ _ (Expr.BinOp _ Operator.Add _ _) _); with_reducible refine' ev_bin ?_ ?_ op_addA)
      | ((with_reducible show EvM _ _ _ (Expr.BinOp _ Operator.Mod _ _) _); with_reducible refine' ev_bin ?_ ?_ op_mod)
      | ((with_reducible show EvM _ _ _ (Expr.BinOp _ Operator.Pow _ _) _); with_reducible refine' ev_bin ?_ ?_ op_pow)
      | (with_reducible refine' ev_slTo ?_ ?_)
      | (with_reducible refine' ev_list ?_)
      | (with_reducible refine' evs_cons ?_ ?_ (by with_unfolding_all rfl))
      | (with_reducible exact evs_nil))
noncomputable def mP1 : { f : ExF // ∀ (W : Wd), W.K = K2 W → ∀ A L rest, PreM W 30 (LF A L) (bs 0 :: rest) rest f } := by
  refine' ⟨_, fun W hW A L rest => ?_⟩
  rotate_left
  with_reducible refine' pre_cons ?_ pre_nil
  all_goals (try (conv => arg 4; whnf))
  repeat' (first
      | ((with_reducible show EvM _ _ _ (Expr.Name (Str.ofString "v") _) _); with_reducible refine' ev_loc (x := Str.ofString "v") 1 (by with_unfolding_all rfl))
      | ((with_reducible show ExM _ _ _ (Stmt.Assign [Expr.Name (Str.ofString "places") _] _ _) _); with_reducible refine' ex_assign (x := Str.ofString "places") 2 ?_ (by with_unfolding_all rfl) (by with_unfolding_all rfl))
      | ((with_reducible show EvM _ _ _ (Expr.Constant (Const.int _) _ _) _); with_reducible exact ev_int _)
      | ((with_reducible show EvM _ _ _ (Expr.BinOp _ Operator.Mod _ _) _); with_reducible refine' ev_bin ?_ ?_ op_mod)
      | (with_reducible refine' ev_list ?_)
      | (with_reducible refine' evs_cons ?_ ?_ (by with_unfolding_all rfl))
      | (with_reducible exact evs_nil))
noncomputable def mP2 : { f : ExF // ∀ (W : Wd), W.K = K2 W → ∀ A L rest, PreM W 30 (LF A L) (bs 1 :: bs 2 :: bs 3 :: bs 4 :: bs 5 :: bs 6 :: bs 7 :: rest) rest f } := by
  refine' ⟨_, fun W hW A L rest => ?_⟩
  rotate_left
  with_reducible refine' pre_cons ?_ (pre_cons ?_ (pre_cons ?_ (pre_cons ?_ (pre_cons ?_ (pre_cons ?_ (pre_cons ?_ pre_nil))))))
  all_goals (try (conv => arg 4; whnf))
  repeat' (first
      | ((with_reducible show EvM _ _ _ (Expr.Call (Expr.Name (Str.ofString "parse257") _) _ _ _) _); with_reducible refine' ev_call (gf (x := Str.ofString "parse257") (c := .ref 119) (by assumption) (by kernel_rfl) (by kernel_rfl) (by kernel_rfl)) (((mParse).2 _ (by assumption)).m.up (by decide)) ?_ (keep_of (by assumption) (by kernel_rfl)) (by with_unfolding_all rfl) (by with_unfolding_all rfl) (by with_unfolding_all rfl))
      | ((with_reducible show EvM _ _ _ (Expr.Call (Expr.Name (Str.ofString "_law_pieces") _) _ _ _) _); with_reducible refine' ev_call (gf (x := Str.ofString "_law_pieces") (c := .ref 136) (by assumption) (by kernel_rfl) (by kernel_rfl) (by kernel_rfl)) (((mPieces).2 _ (by assumption)).m.up (by decide)) ?_ (keep_of (by assumption) (by kernel_rfl)) (by with_unfolding_all rfl) (by with_unfolding_all rfl) (by with_unfolding_all rfl))
      | ((with_reducible show EvM _ _ _ (Expr.Call (Expr.Name (Str.ofString "Whitespace") _) _ _ _) _); with_reducible refine' ev_call (gf (x := Str.ofString "Whitespace") (c := .ref 83) (by assumption) (by kernel_rfl) (by kernel_rfl) (by kernel_rfl)) ((cls_call (by assumption)).m.up (by decide)) ?_ (keep_of (by assumption) (by kernel_rfl)) (by with_unfolding_all rfl) (by with_unfolding_all rfl) (by with_unfolding_all rfl))
      | ((with_reducible show EvM _ _ _ (Expr.Call (Expr.Attribute _ (Str.ofString "indent_level") _) _ _ _) _); with_reducible refine' own' (name := Str.ofString "indent_level") (C := 83) (f := 52) (by assumption) (cls2 (by assumption)) (by kernel_rfl) (by kernel_rfl) (by kernel_rfl) (by decide) ((mIndent.2 _ (by assumption)).m.up (by decide)) ?_ ?_ (by with_unfolding_all rfl) (by with_unfolding_all rfl) (by with_unfolding_all rfl))
      | ((with_reducible show EvM _ _ _ (Expr.Call (Expr.Attribute _ (Str.ofString "count") _) _ _ _) _); with_reducible refine' ev_meth (name := Str.ofString "count") (id := "str.count") ty_str m_strcount PySem.F.plainAttrs_str PySem.F.slot_str_count PySem.F.type_str_count ?_ ?_ (by with_unfolding_all rfl) (by with_unfolding_all rfl) (by with_unfolding_all rfl) (by with_unfolding_all rfl) (by with_unfolding_all rfl))
      | ((with_reducible show EvM _ _ _ (Expr.Name (Str.ofString "places") _) _); with_reducible refine' ev_loc (x := Str.ofString "places") 2 (by with_unfolding_all rfl))
      | ((with_reducible show EvM _ _ _ (Expr.Name (Str.ofString "tails") _) _); with_reducible refine' ev_loc (x := Str.ofString "tails") 3 (by with_unfolding_all rfl))
      | ((with_reducible show ExM _ _ _ (Stmt.Assign [Expr.Name (Str.ofString "tails") _] _ _) _); with_reducible refine' ex_assign (x := Str.ofString "tails") 3 ?_ (by with_unfolding_all rfl) (by with_unfolding_all rfl))
      | ((with_reducible show EvM _ _ _ (Expr.Name (Str.ofString "turn") _) _); with_reducible refine' ev_loc (x := Str.ofString "turn") 4 (by with_unfolding_all rfl))
      | ((with_reducible show ExM _ _ _ (Stmt.For (Expr.Name (Str.ofString "turn") _) _ _ _ _) _); with_reducible refine' ex_for ?_ (as_name (x := Str.ofString "turn") 4 (by with_unfolding_all rfl)) ?_ (by intro _; with_unfolding_all rfl) (by intro _ _; with_unfolding_all rfl))
      | ((with_reducible show EvM _ _ _ (Expr.Name (Str.ofString "told") _) _); with_reducible refine' ev_loc (x := Str.ofString "told") 5 (by with_unfolding_all rfl))
      | ((with_reducible show ExM _ _ _ (Stmt.Assign [Expr.Name (Str.ofString "told") _] _ _) _); with_reducible refine' ex_assign (x := Str.ofString "told") 5 ?_ (by with_unfolding_all rfl) (by with_unfolding_all rfl))
      | ((with_reducible show EvM _ _ _ (Expr.Name (Str.ofString "number") _) _); with_reducible refine' ev_loc (x := Str.ofString "number") 6 (by with_unfolding_all rfl))
      | ((with_reducible show ExM _ _ _ (Stmt.Assign [Expr.Name (Str.ofString "number") _] _ _) _); with_reducible refine' ex_assign (x := Str.ofString "number") 6 ?_ (by with_unfolding_all rfl) (by with_unfolding_all rfl))
      | ((with_reducible show EvM _ _ _ (Expr.Name (Str.ofString "third") _) _); with_reducible refine' ev_loc (x := Str.ofString "third") 7 (by with_unfolding_all rfl))
      | ((with_reducible show ExM _ _ _ (Stmt.Assign [Expr.Name (Str.ofString "third") _] _ _) _); with_reducible refine' ex_assign (x := Str.ofString "third") 7 ?_ (by with_unfolding_all rfl) (by with_unfolding_all rfl))
      | ((with_reducible show EvM _ _ _ (Expr.Name (Str.ofString "lead") _) _); with_reducible refine' ev_loc (x := Str.ofString "lead") 8 (by with_unfolding_all rfl))
      | ((with_reducible show ExM _ _ _ (Stmt.Assign [Expr.Name (Str.ofString "lead") _] _ _) _); with_reducible refine' ex_assign (x := Str.ofString "lead") 8 ?_ (by with_unfolding_all rfl) (by with_unfolding_all rfl))
      | ((with_reducible show EvM _ _ _ (Expr.Name (Str.ofString "size") _) _); with_reducible refine' ev_loc (x := Str.ofString "size") 9 (by with_unfolding_all rfl))
      | ((with_reducible show ExM _ _ _ (Stmt.Assign [Expr.Name (Str.ofString "size") _] _ _) _); with_reducible refine' ex_assign (x := Str.ofString "size") 9 ?_ (by with_unfolding_all rfl) (by with_unfolding_all rfl))
      | ((with_reducible show EvM _ _ _ (Expr.Name (Str.ofString "row") _) _); with_reducible refine' ev_loc (x := Str.ofString "row") 11 (by with_unfolding_all rfl))
      | ((with_reducible show EvM _ _ _ (Expr.Constant (Const.int _) _ _) _); with_reducible exact ev_int _)
      | ((with_reducible show EvM _ _ _ (Expr.Constant (Const.bool _) _ _) _); with_reducible exact ev_bool _)
      | ((with_reducible show EvM _ _ _ (Expr.Constant (Const.str (Str.ofString "\"")) _ _) _); with_reducible exact ev_str (x := Str.ofString "\"") _ s_q)
      | ((with_reducible show EvM _ _ _ (Expr.Constant (Const.str (Str.ofString ".")) _ _) _); with_reducible exact ev_str (x := Str.ofString ".") _ s_dot)
      | ((with_reducible show EvM _ _ _ (Expr.Constant (Const.str (Str.ofString ",")) _ _) _); with_reducible exact ev_str (x := Str.ofString ",") _ s_comma)
      | ((with_reducible show EvM _ _ _ (Expr.Constant (Const.str (Str.ofString "x")) _ _) _); with_reducible exact ev_str (x := Str.ofString "x") _ s_x)
      | ((with_reducible show EvM _ _ _ (Expr.Constant (Const.str (Str.ofString "257 \"")) _ _) _); with_reducible exact ev_str (x := Str.ofString "257 \"") _ s_257q)
      | ((with_reducible show EvM _ _ _ (Expr.Constant (Const.str (Str.ofString "x\"")) _ _) _); with_reducible exact ev_str (x := Str.ofString "x\"") _ s_xq)
      | ((with_reducible show EvM _ _ _ (Expr.Constant (Const.str (Str.ofString " ")) _ _) _); with_reducible exact ev_str (x := Str.ofString " ") _ s_blank)
      | ((with_reducible show EvM _ _ _ (Expr.Constant (Const.str (Str.ofString "\t")) _ _) _); with_reducible exact ev_str (x := Str.ofString "\t") _ s_tab)
      | ((with_reducible show TeM _ _ _ (Expr.Compare _ [CmpOp.NotEq] _ _) _); with_reducible refine' te_cmp ?_ ?_ op_ne (by with_unfolding_all rfl))
      | ((with_reducible show EvM _ _ _ (Expr.BinOp _ Operator.Add _ _) _); with_reducible refine' ev_bin ?_ ?_ op_addA)
      | ((with_reducible show EvM _ _ _ (Expr.BinOp _ Operator.Sub _ _) _); with_reducible refine' ev_bin ?_ ?_ op_sub)
      | ((with_reducible show EvM _ _ _ (Expr.BinOp _ Operator.Mult _ _) _); with_reducible refine' ev_bin ?_ ?_ op_mulA)
      | ((with_reducible show EvM _ _ _ (Expr.BinOp _ Operator.Pow _ _) _); with_reducible refine' ev_bin ?_ ?_ op_pow)
      | (with_reducible refine' sub_nm ?_ ?_)
      | (with_reducible refine' sub_ct ?_ ?_)
      | (with_reducible refine' sub_bn ?_ ?_)
      | (with_reducible refine' sub_sb ?_ ?_)
      | (with_reducible refine' ev_list ?_)
      | (with_reducible refine' evs_cons ?_ ?_ (by with_unfolding_all rfl))
      | (with_reducible exact evs_nil)
      | ((with_reducible show EvM _ _ _ (Expr.Call (Expr.Name (Str.ofString "range") _) _ _ _) _); with_reducible refine' ev_call (gb (x := Str.ofString "range") (c := .type "range") (by assumption) (by kernel_rfl) (by kernel_rfl) (by kernel_rfl) (by decide +kernel) (by kernel_rfl)) c_range ?_ callee_t (by with_unfolding_all rfl) (by with_unfolding_all rfl) (by with_unfolding_all rfl))
      | ((with_reducible show EvM _ _ _ (Expr.Call (Expr.Attribute _ (Str.ofString "append") _) _ _ _) _); with_reducible refine' ev_meth (name := Str.ofString "append") (id := "list.append") ty_list m_append PySem.F.plainAttrs_list PySem.F.slot_list_append PySem.F.type_list_append ?_ ?_ (by with_unfolding_all rfl) (by with_unfolding_all rfl) (by with_unfolding_all rfl) (by with_unfolding_all rfl) (by with_unfolding_all rfl))
      | (with_reducible exact st_nil)
      | (with_reducible refine' st_cons ?_ ?_)
      | (with_reducible refine' ex_ret ?_)
      | (with_reducible refine' ex_expr ?_ (by with_unfolding_all rfl) (by with_unfolding_all rfl))
      | (with_reducible refine' ex_if ?_ ?_ ?_))
noncomputable def mP3 : { f : ExF // ∀ (W : Wd), W.K = K2 W → ∀ A L rest, PreM W 30 (LF A L) (bs 8 :: rest) rest f } := by
  refine' ⟨_, fun W hW A L rest => ?_⟩
  rotate_left
  with_reducible refine' pre_cons ?_ pre_nil
  all_goals (try (conv => arg 4; whnf))
  repeat' (first
      | ((with_reducible show EvM _ _ _ (Expr.Name (Str.ofString "v") _) _); with_reducible refine' ev_loc (x := Str.ofString "v") 1 (by with_unfolding_all rfl))
      | ((with_reducible show ExM _ _ _ (Stmt.Assign [Expr.Name (Str.ofString "m") _] _ _) _); with_reducible refine' ex_assign (x := Str.ofString "m") 12 ?_ (by with_unfolding_all rfl) (by with_unfolding_all rfl))
      | ((with_reducible show EvM _ _ _ (Expr.Constant (Const.int _) _ _) _); with_reducible exact ev_int _)
      | ((with_reducible show EvM _ _ _ (Expr.BinOp _ Operator.FloorDiv _ _) _); with_reducible refine' ev_bin ?_ ?_ op_div)
      | ((with_reducible show EvM _ _ _ (Expr.BinOp _ Operator.Mod _ _) _); with_reducible refine' ev_bin ?_ ?_ op_mod))
noncomputable def mP4 : { f : ExF // ∀ (W : Wd), W.K = K2 W → ∀ A L rest, PreM W 30 (LF A L) (bs 9 :: bs 10 :: rest) rest f } := by
  refine' ⟨_, fun W hW A L rest => ?_⟩
  rotate_left
  with_reducible refine' pre_cons ?_ (pre_cons ?_ pre_nil)
  all_goals (try (conv => arg 4; whnf))
  repeat' (first
      | ((with_reducible show EvM _ _ _ (Expr.ListComp _ [⟨Expr.Name (Str.ofString "b") _, _, _, _⟩] _ _) _); (refine' ev_compM (x := Str.ofString "b") (cl := [(Str.ofString "row", L + 1 + 0), (Str.ofString "m", L + 1 + 1)]) [Str.ofString "b"] [(12, Str.ofString "m", L + 1 + 1), (11, Str.ofString "row", L + 1 + 0)] 1 [12, 11] rfl rfl ⟨by with_unfolding_all rfl, by decide +kernel, by with_unfolding_all rfl, by decide +kernel, by decide +kernel, (by intro p h; simp only [List.mem_cons, List.not_mem_nil, or_false] at h; rcases h with rfl | rfl; exact ⟨by with_unfolding_all rfl, .inl (by with_unfolding_all rfl), by with_unfolding_all rfl, (show noDebug (Str.ofString "m") by decide +kernel)⟩; exact ⟨by with_unfolding_all rfl, .inl (by with_unfolding_all rfl), by with_unfolding_all rfl, (show noDebug (Str.ofString "row") by decide +kernel)⟩), (show List.Nodup [Str.ofString "b", Str.ofString "m", Str.ofString "row"] by decide +kernel), (show List.Nodup [12, 11] by decide +kernel)⟩ ?_ (fun C => al_name (x := Str.ofString "b") 0 (by with_unfolding_all rfl)) (fun C => ts_one ?_) (fun C => ?_) (by intro _; with_unfolding_all rfl)))
      | ((with_reducible show EvM _ _ _ (Expr.Call (Expr.Name (Str.ofString "_law_often") _) _ _ _) _); with_reducible refine' ev_call (gf (x := Str.ofString "_law_often") (c := .ref 143) (by assumption) (by kernel_rfl) (by kernel_rfl) (by kernel_rfl)) ((often_ok (by assumption) 28).m.up (by decide)) ?_ (keep_of (by assumption) (by kernel_rfl)) (by with_unfolding_all rfl) (by with_unfolding_all rfl) (by with_unfolding_all rfl))
      | ((with_reducible show EvM _ _ _ (Expr.Name (Str.ofString "b") _) _); with_reducible refine' ev_loc (x := Str.ofString "b") 0 (by with_unfolding_all rfl))
      | ((with_reducible show EvM _ _ _ (Expr.Name (Str.ofString "m") _) _); with_reducible refine' ev_loc (x := Str.ofString "m") 1 (by with_unfolding_all rfl))
      | ((with_reducible show EvM _ _ _ (Expr.Name (Str.ofString "row") _) _); with_reducible refine' ev_loc (x := Str.ofString "row") 2 (by with_unfolding_all rfl))
      | ((with_reducible show EvM _ _ _ (Expr.Name (Str.ofString "often") _) _); with_reducible refine' ev_loc (x := Str.ofString "often") 10 (by with_unfolding_all rfl))
      | ((with_reducible show ExM _ _ _ (Stmt.Assign [Expr.Name (Str.ofString "often") _] _ _) _); with_reducible refine' ex_assign (x := Str.ofString "often") 10 ?_ (by with_unfolding_all rfl) (by with_unfolding_all rfl))
      | ((with_reducible show EvM _ _ _ (Expr.Name (Str.ofString "row") _) _); with_reducible refine' ev_loc (x := Str.ofString "row") 11 (by with_unfolding_all rfl))
      | ((with_reducible show EvM _ _ _ (Expr.Name (Str.ofString "m") _) _); with_reducible refine' ev_loc (x := Str.ofString "m") 12 (by with_unfolding_all rfl))
      | ((with_reducible show EvM _ _ _ (Expr.Constant (Const.int _) _ _) _); with_reducible exact ev_int _)
      | ((with_reducible show EvM _ _ _ (Expr.Constant (Const.bool _) _ _) _); with_reducible exact ev_bool _)
      | ((with_reducible show TeM _ _ _ (Expr.Compare _ [CmpOp.NotEq] _ _) _); with_reducible refine' te_cmp ?_ ?_ op_ne (by with_unfolding_all rfl))
      | ((with_reducible show TeM _ _ _ (Expr.Compare _ [CmpOp.In] _ _) _); with_reducible refine' te_cmp ?_ ?_ op_in (by with_unfolding_all rfl))
      | ((with_reducible show EvM _ _ _ (Expr.Compare _ [CmpOp.Eq] _ _) _); with_reducible refine' ev_cmp ?_ ?_ op_eq (by with_unfolding_all rfl))
      | ((with_reducible show EvM _ _ _ (Expr.Compare _ [CmpOp.In] _ _) _); with_reducible refine' ev_cmp ?_ ?_ op_in (by with_unfolding_all rfl))
      | (with_reducible refine' te_or ?_ ?_)
      | ((with_reducible show EvM _ _ _ (Expr.BinOp _ Operator.Sub _ _) _); with_reducible refine' ev_bin ?_ ?_ op_sub)
      | ((with_reducible show EvM _ _ _ (Expr.BinOp _ Operator.Mult _ _) _); with_reducible refine' ev_bin ?_ ?_ op_mulA)
      | (with_reducible refine' evs_cons ?_ ?_ (by with_unfolding_all rfl))
      | (with_reducible exact evs_nil)
      | ((with_reducible show EvM _ _ _ (Expr.Call (Expr.Name (Str.ofString "len") _) _ _ _) _); with_reducible refine' ev_call (gb (x := Str.ofString "len") (c := .builtin "len") (by assumption) (by kernel_rfl) (by kernel_rfl) (by kernel_rfl) (by decide +kernel) (by kernel_rfl)) c_len ?_ callee_b (by with_unfolding_all rfl) (by with_unfolding_all rfl) (by with_unfolding_all rfl))
      | (with_reducible exact st_nil)
      | (with_reducible refine' st_cons ?_ ?_)
      | (with_reducible refine' ex_ret ?_)
      | (with_reducible refine' ex_if ?_ ?_ ?_))

noncomputable def rowV : List V := [0,1,3,4,9,10,12,13,27,28,30,31,36,37,39,40].map fun i => V.int i
noncomputable def frC : Sl := List.replicate 11 none ++ [some (.own 0), none]
noncomputable def frV (z : Int) : Sl := frC.set 1 (some (.int z))
noncomputable def frP (z : Int) : Sl := (frC.set 1 (some (.int z))).set 2 (some (.own 1))
noncomputable def frQ (z : Int) : Sl := frC.set 12 (some (.int z))
noncomputable def hpC : Hp := [.list rowV]
noncomputable def fr00 : Sl := some (.own 0) :: List.replicate 12 none
noncomputable def bLaw : ExF := fun fr hp => open Classical in if ∃ ns : List Int, fr = fr00 ∧ hp = [.arg (ns.map V.int)] then some (.ret (.bool true), [], hp) else none
theorem lt_none {P : Nat → Prop} : ∀ k : Nat, k < 0 → P k := fun _ h => absurd h (Nat.not_lt_zero _)
theorem lt_step {P : Nat → Prop} {n : Nat} (h : ∀ k : Nat, k < n → P k) (hn : P n) : ∀ k : Nat, k < n + 1 → P k := fun k hk => by
  rcases Nat.lt_or_eq_of_le (Nat.le_of_lt_succ hk) with q | q
  · exact h k q
  · exact q ▸ hn
theorem evH (ns : List Int) : (headF mH.1 mI.1 [3] [11] fr00 [.arg (ns.map V.int)]).map (fun r => (r.1.all isIntV, r.2)) = some (true, (frC, hpC)) := by
  rcases ns with _ | ⟨a, _ | ⟨b, _ | ⟨c, ns⟩⟩⟩ <;> kernel_rfl
theorem evP1 (z : Int) : runGc mP1.1 [0, 1] [1, 2, 11] (frV z) hpC = some (frP z, [.list rowV, .list [.int (z.fmod 16)]]) := by kernel_rfl
theorem evP3 (z : Int) : runGc mP3.1 [0] [11, 12] (frV z) hpC = some (frQ ((z.fdiv 16).fmod 27), hpC) := by kernel_rfl
theorem evP2x0 (z : Int) : runGc mP2.1 [0] [1, 11] (frP z) [.list rowV, .list [.int ((0 : Nat) : Int)]] = some (frV z, hpC) := by kernel_rfl
theorem evP2x1 (z : Int) : runGc mP2.1 [0] [1, 11] (frP z) [.list rowV, .list [.int ((1 : Nat) : Int)]] = some (frV z, hpC) := by kernel_rfl
theorem evP2x2 (z : Int) : runGc mP2.1 [0] [1, 11] (frP z) [.list rowV, .list [.int ((2 : Nat) : Int)]] = some (frV z, hpC) := by kernel_rfl
theorem evP2x3 (z : Int) : runGc mP2.1 [0] [1, 11] (frP z) [.list rowV, .list [.int ((3 : Nat) : Int)]] = some (frV z, hpC) := by kernel_rfl
theorem evP2x4 (z : Int) : runGc mP2.1 [0] [1, 11] (frP z) [.list rowV, .list [.int ((4 : Nat) : Int)]] = some (frV z, hpC) := by kernel_rfl
theorem evP2x5 (z : Int) : runGc mP2.1 [0] [1, 11] (frP z) [.list rowV, .list [.int ((5 : Nat) : Int)]] = some (frV z, hpC) := by kernel_rfl
theorem evP2x6 (z : Int) : runGc mP2.1 [0] [1, 11] (frP z) [.list rowV, .list [.int ((6 : Nat) : Int)]] = some (frV z, hpC) := by kernel_rfl
theorem evP2x7 (z : Int) : runGc mP2.1 [0] [1, 11] (frP z) [.list rowV, .list [.int ((7 : Nat) : Int)]] = some (frV z, hpC) := by kernel_rfl
theorem evP2x8 (z : Int) : runGc mP2.1 [0] [1, 11] (frP z) [.list rowV, .list [.int ((8 : Nat) : Int)]] = some (frV z, hpC) := by kernel_rfl
theorem evP2x9 (z : Int) : runGc mP2.1 [0] [1, 11] (frP z) [.list rowV, .list [.int ((9 : Nat) : Int)]] = some (frV z, hpC) := by kernel_rfl
theorem evP2x10 (z : Int) : runGc mP2.1 [0] [1, 11] (frP z) [.list rowV, .list [.int ((10 : Nat) : Int)]] = some (frV z, hpC) := by kernel_rfl
theorem evP2x11 (z : Int) : runGc mP2.1 [0] [1, 11] (frP z) [.list rowV, .list [.int ((11 : Nat) : Int)]] = some (frV z, hpC) := by kernel_rfl
theorem evP2x12 (z : Int) : runGc mP2.1 [0] [1, 11] (frP z) [.list rowV, .list [.int ((12 : Nat) : Int)]] = some (frV z, hpC) := by kernel_rfl
theorem evP2x13 (z : Int) : runGc mP2.1 [0] [1, 11] (frP z) [.list rowV, .list [.int ((13 : Nat) : Int)]] = some (frV z, hpC) := by kernel_rfl
theorem evP2x14 (z : Int) : runGc mP2.1 [0] [1, 11] (frP z) [.list rowV, .list [.int ((14 : Nat) : Int)]] = some (frV z, hpC) := by kernel_rfl
theorem evP2x15 (z : Int) : runGc mP2.1 [0] [1, 11] (frP z) [.list rowV, .list [.int ((15 : Nat) : Int)]] = some (frV z, hpC) := by kernel_rfl
theorem evP4x0 : runGc mP4.1 [0] [11] (frQ ((0 : Nat) : Int)) hpC = some (frC, hpC) := by kernel_rfl
theorem evP4x1 : runGc mP4.1 [0] [11] (frQ ((1 : Nat) : Int)) hpC = some (frC, hpC) := by kernel_rfl
theorem evP4x2 : runGc mP4.1 [0] [11] (frQ ((2 : Nat) : Int)) hpC = some (frC, hpC) := by kernel_rfl
theorem evP4x3 : runGc mP4.1 [0] [11] (frQ ((3 : Nat) : Int)) hpC = some (frC, hpC) := by kernel_rfl
theorem evP4x4 : runGc mP4.1 [0] [11] (frQ ((4 : Nat) : Int)) hpC = some (frC, hpC) := by kernel_rfl
theorem evP4x5 : runGc mP4.1 [0] [11] (frQ ((5 : Nat) : Int)) hpC = some (frC, hpC) := by kernel_rfl
theorem evP4x6 : runGc mP4.1 [0] [11] (frQ ((6 : Nat) : Int)) hpC = some (frC, hpC) := by kernel_rfl
theorem evP4x7 : runGc mP4.1 [0] [11] (frQ ((7 : Nat) : Int)) hpC = some (frC, hpC) := by kernel_rfl
theorem evP4x8 : runGc mP4.1 [0] [11] (frQ ((8 : Nat) : Int)) hpC = some (frC, hpC) := by kernel_rfl
theorem evP4x9 : runGc mP4.1 [0] [11] (frQ ((9 : Nat) : Int)) hpC = some (frC, hpC) := by kernel_rfl
theorem evP4x10 : runGc mP4.1 [0] [11] (frQ ((10 : Nat) : Int)) hpC = some (frC, hpC) := by kernel_rfl
theorem evP4x11 : runGc mP4.1 [0] [11] (frQ ((11 : Nat) : Int)) hpC = some (frC, hpC) := by kernel_rfl
theorem evP4x12 : runGc mP4.1 [0] [11] (frQ ((12 : Nat) : Int)) hpC = some (frC, hpC) := by kernel_rfl
theorem evP4x13 : runGc mP4.1 [0] [11] (frQ ((13 : Nat) : Int)) hpC = some (frC, hpC) := by kernel_rfl
theorem evP4x14 : runGc mP4.1 [0] [11] (frQ ((14 : Nat) : Int)) hpC = some (frC, hpC) := by kernel_rfl
theorem evP4x15 : runGc mP4.1 [0] [11] (frQ ((15 : Nat) : Int)) hpC = some (frC, hpC) := by kernel_rfl
theorem evP4x16 : runGc mP4.1 [0] [11] (frQ ((16 : Nat) : Int)) hpC = some (frC, hpC) := by kernel_rfl
theorem evP4x17 : runGc mP4.1 [0] [11] (frQ ((17 : Nat) : Int)) hpC = some (frC, hpC) := by kernel_rfl
theorem evP4x18 : runGc mP4.1 [0] [11] (frQ ((18 : Nat) : Int)) hpC = some (frC, hpC) := by kernel_rfl
theorem evP4x19 : runGc mP4.1 [0] [11] (frQ ((19 : Nat) : Int)) hpC = some (frC, hpC) := by kernel_rfl
theorem evP4x20 : runGc mP4.1 [0] [11] (frQ ((20 : Nat) : Int)) hpC = some (frC, hpC) := by kernel_rfl
theorem evP4x21 : runGc mP4.1 [0] [11] (frQ ((21 : Nat) : Int)) hpC = some (frC, hpC) := by kernel_rfl
theorem evP4x22 : runGc mP4.1 [0] [11] (frQ ((22 : Nat) : Int)) hpC = some (frC, hpC) := by kernel_rfl
theorem evP4x23 : runGc mP4.1 [0] [11] (frQ ((23 : Nat) : Int)) hpC = some (frC, hpC) := by kernel_rfl
theorem evP4x24 : runGc mP4.1 [0] [11] (frQ ((24 : Nat) : Int)) hpC = some (frC, hpC) := by kernel_rfl
theorem evP4x25 : runGc mP4.1 [0] [11] (frQ ((25 : Nat) : Int)) hpC = some (frC, hpC) := by kernel_rfl
theorem evP4x26 : runGc mP4.1 [0] [11] (frQ ((26 : Nat) : Int)) hpC = some (frC, hpC) := by kernel_rfl
theorem evP2 : ∀ k : Nat, k < 16 → ∀ z : Int, runGc mP2.1 [0] [1, 11] (frP z) [.list rowV, .list [.int (k : Int)]] = some (frV z, hpC) :=
  (lt_step (lt_step (lt_step (lt_step (lt_step (lt_step (lt_step (lt_step (lt_step (lt_step (lt_step (lt_step (lt_step (lt_step (lt_step (lt_step lt_none evP2x0) evP2x1) evP2x2) evP2x3) evP2x4) evP2x5) evP2x6) evP2x7) evP2x8) evP2x9) evP2x10) evP2x11) evP2x12) evP2x13) evP2x14) evP2x15)
theorem evP4 : ∀ k : Nat, k < 27 → runGc mP4.1 [0] [11] (frQ (k : Int)) hpC = some (frC, hpC) :=
  (lt_step (lt_step (lt_step (lt_step (lt_step (lt_step (lt_step (lt_step (lt_step (lt_step (lt_step (lt_step (lt_step (lt_step (lt_step (lt_step (lt_step (lt_step (lt_step (lt_step (lt_step (lt_step (lt_step (lt_step (lt_step (lt_step (lt_step lt_none evP4x0) evP4x1) evP4x2) evP4x3) evP4x4) evP4x5) evP4x6) evP4x7) evP4x8) evP4x9) evP4x10) evP4x11) evP4x12) evP4x13) evP4x14) evP4x15) evP4x16) evP4x17) evP4x18) evP4x19) evP4x20) evP4x21) evP4x22) evP4x23) evP4x24) evP4x25) evP4x26)
theorem law_call {W : Wd} (hW : W.K = K2 W) {A : Around} {ns : List Int} {ρ : List Addr} {s : Shared} {us : List Value} (I : InvC W (30 + 1) A ρ [.arg (ns.map V.int)] s) (r : VRs ρ [.own 0] us) :
    codeAny (model W.prog W.w) A (.call (.ref 155) ⟨us, []⟩) (fun r s' => match r with | .ok (.ret u) => EvP ρ [.arg (ns.map V.int)] (.bool true) [.arg (ns.map V.int)] s u s' | .ok _ => False | .error _ => False) s := by
  refine call_raw (d := 30) (b := bLaw) (law_ok hW) (fun L => ?bod) ?ev I r
  case ev =>
    have e1 : bLaw fr00 [.arg (ns.map V.int)] = some (.ret (.bool true), [], [.arg (ns.map V.int)]) := if_pos ⟨ns, rfl, rfl⟩
    show (match bLaw fr00 [.arg (ns.map V.int)] with | some (.ret v, _, h) => some (v, h) | some (.next, _, h) => some (.none, h) | _ => none) = _
    rw [e1]
  clear I r
  refine stm_of ?_ ?_
  case refine_2 =>
    intro fr hp r e x hx
    unfold bLaw at e
    split at e
    · rename_i h
      obtain ⟨ns, rfl, rfl⟩ := h
      rw [List.mem_singleton.mp hx]; rfl
    · cases e
  intro fr hp fl fr' hp' ρ s e I
  unfold bLaw at e
  split at e
  · rename_i h
    obtain ⟨ns, rfl, rfl⟩ := h
    cases e
    refine ⟨⟨_, rfl, rfl⟩, rfl, rfl, ?_⟩
    have g := G.here I
    clear I
    rw [law_split, lV.2]
    refine g_head (mH.2 W hW A L _) (mI.2 W hW A L) g [3] [11] (by decide) (frC, hpC) (evH ns) ?turn ?kk ?fs ?fl
    case fs => intro _; with_unfolding_all rfl
    case fl => intro _ _; with_unfolding_all rfl
    case turn =>
      intro z s₁ X₁ Y₁ ρ2 s2 u g2 r2
      rw [body_split]
      refine g_as (x := Str.ofString "v") 1 (by with_unfolding_all rfl) g2 r2 fun ρ3 s3 g3 => ?_
      refine g_pre (mP1.2 W hW A L _) (by decide) g3 (evP1 z) fun ρ4 s4 g4 => ?_
      obtain ⟨k, hk, ek⟩ := fmod_lt z 16 (by decide)
      rw [show ((16 : Nat) : Int) = 16 from rfl] at ek
      rw [ek] at g4
      refine g_pre (mP2.2 W hW A L _) (by decide) g4 (evP2 k hk z) fun ρ5 s5 g5 => ?_
      refine g_pre (mP3.2 W hW A L _) (by decide) g5 (evP3 z) fun ρ6 s6 g6 => ?_
      obtain ⟨k2, hk2, ek2⟩ := fmod_lt (z.fdiv 16) 27 (by decide)
      rw [show ((27 : Nat) : Int) = 27 from rfl] at ek2
      rw [ek2] at g6
      refine g_pre (mP4.2 W hW A L _) (by decide) g6 (evP4 k2 hk2) fun ρ7 s7 g7 => ?_
      exact wpAny_execs_nil ⟨rfl, ρ7, g7⟩
    case kk =>
      intro ρ' s' g'
      rw [lR.2]
      refine wpAny_execs_cons (wpAny_Return_some (wpAny_Constant_bool ⟨_, rfl, ⟨_, rfl, rfl⟩, ρ', _, _, g'⟩))
  · cases e
end Mine
open Mine
theorem PySem.Challenge.cw_tp0046_02_holds : PySem.Challenge.rw_tp0046_02.Holds := by
  rw [rg_eq]
  refine hd2 ?_
  k_fill
  intro w s₀ s₁ mg mb G Y fa o pm cd doc dV kV ho hd hcd hD hmg hg args vals as hpre hlay hrd hwl hlo
  have KX := kIn_of Y
  have X := (Ground.X G).1
  have V := (Ground.X G).2
  w_nolog (first | (have GL := glob_more (Ground.glob G (by first | k_qdec | decide +kernel) (by first | k_qdec | decide +kernel)) V) | (have GL := glob_more (Ground.glob G (by decide +kernel)) V))
  refine Ground.open G ?_
  intro T B D TE TW
  clear hd hcd
  wrow_args hpre hlay hrd hwl hlo
  rename_i ns hs hlay0 hL1 hr1 hl2 w4 w3 l its w0 hL ra w1 r0 hI hr hcond t
  have hlen : its.length ≤ 4096 := by
    have := (vrs_ints (ρ := []) hI).1
    rw [List.length_map] at this
    omega
  have hfa : mg (Str.ofString "law") = some (.ref 155) := mg_of KX GL.g (by kernel_rfl)
  have hm2 : mg (Str.ofString "law") = some (.ref fa) := hmg
  rw [hfa] at hm2
  cases hm2
  clear hmg
  have nl : (K2o w.params).all (fun p => notList p.2) = true := by kernel_rfl
  refine wpAny_mono (wpAny_call (codeAny_mono (law_call (W := mkW (prog := rg.row.prog) (w := w) KX nl GL.g GL.b GL.builtins GL.nolimit hL) rfl (enter KX nl GL.g GL.b GL.builtins GL.nolimit hL hI hlen (d := 31) (A := callerA) rfl (by decide +kernel) (by decide +kernel)) (us := [.ref l]) (.cons ⟨l, rfl, rfl⟩ .nil)) ?_)) (fun v s' p => p) (fun e s' p => p)
  intro r s' g
  cases r with
  | error e => exact g.elim
  | ok fl =>
    cases fl with
    | ret u =>
      obtain ⟨ρ', S, R, q⟩ := g
      obtain ⟨k1, k2, k3⟩ := kept_all S
      have q : u = .bool true := q
      subst q
      exact GoodW.toG ⟨.inl ⟨_, .bool true, [], rfl, fun _ => rfl, .bool true, (by with_unfolding_all rfl), fun _ => ⟨List.nodup_nil, fun _ h => nomatch h⟩⟩, k1, k2, k3.trans hg⟩
    | _ => exact g.elim

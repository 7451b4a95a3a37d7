import PyProof.Rows.All
import Wide.All
import OpenK.AllK
import Wide.FinOn
import PySem.Challenge.RW_jk0033_01
set_option Elab.async false
set_option tactic.hygienic false
open List (all_eq_true append_assoc append_inj' append_nil cons_append filterMap_cons forall_mem_append forall_mem_cons forall_mem_singleton length_append length_cons length_map length_nil length_reverse length_take lookup_cons map_append map_cons map_reverse mem_append mem_append_left mem_append_right mem_cons mem_cons_of_mem mem_cons_self mem_filterMap mem_map mem_reverse mem_singleton nil_append nodup_cons nodup_nil not_mem_nil of_mem_zip reverse_cons size_toArray zip_cons_cons)
section
namespace Mine
section
variable {A B C D E F G H I J K L M N : Sort _} {R : Prop}
theorem zo {P : Prop} (h : ∀ R : Prop, (P → R) → R) : P := h P id
theorem yV {P Q S : Prop} (h : P) (i : Q) (j : S) : P ∧ Q ∧ S := ⟨h, i, j⟩
theorem zg {P Q : A → Prop} (a : A) (h : P a) (i : Q a) : ∃ a, P a ∧ Q a := ⟨a, h, i⟩
theorem wb {P Q S : A → Prop} (a : A) (h : P a) (i : Q a) (j : S a) : ∃ a, P a ∧ Q a ∧ S a := ⟨a, h, i, j⟩
theorem y4 {P : A → B → Prop} (a : A) (b : B) (h : P a b) : ∃ a b, P a b := ⟨a, b, h⟩
theorem yj {P Q : A → B → Prop} (a : A) (b : B) (h : P a b) (i : Q a b) : ∃ a b, P a b ∧ Q a b := ⟨a, b, h, i⟩
theorem wc {P Q S : A → B → Prop} (a : A) (b : B) (h : P a b) (i : Q a b) (j : S a b) : ∃ a b, P a b ∧ Q a b ∧ S a b := ⟨a, b, h, i, j⟩
theorem wE {P Q S T : A → B → Prop} (a : A) (b : B) (h : P a b) (i : Q a b) (j : S a b) (k : T a b) : ∃ a b, P a b ∧ Q a b ∧ S a b ∧ T a b := ⟨a, b, h, i, j, k⟩
theorem uY {P Q S T U : A → B → Prop} (a : A) (b : B) (h : P a b) (i : Q a b) (j : S a b) (k : T a b) (l : U a b) : ∃ a b, P a b ∧ Q a b ∧ S a b ∧ T a b ∧ U a b := ⟨a, b, h, i, j, k, l⟩
theorem vB {P : A → B → C → Prop} (a : A) (b : B) (c : C) (h : P a b c) : ∃ a b c, P a b c := ⟨a, b, c, h⟩
theorem w7 {P Q : A → B → C → Prop} (a : A) (b : B) (c : C) (h : P a b c) (i : Q a b c) : ∃ a b c, P a b c ∧ Q a b c := ⟨a, b, c, h, i⟩
theorem uc {P Q S : A → B → C → Prop} (a : A) (b : B) (c : C) (h : P a b c) (i : Q a b c) (j : S a b c) : ∃ a b c, P a b c ∧ Q a b c ∧ S a b c := ⟨a, b, c, h, i, j⟩
theorem vC {P Q S T : A → B → C → Prop} (a : A) (b : B) (c : C) (h : P a b c) (i : Q a b c) (j : S a b c) (k : T a b c) : ∃ a b c, P a b c ∧ Q a b c ∧ S a b c ∧ T a b c := ⟨a, b, c, h, i, j, k⟩
theorem rE {P Q S T U : A → B → C → Prop} (a : A) (b : B) (c : C) (h : P a b c) (i : Q a b c) (j : S a b c) (k : T a b c) (l : U a b c) : ∃ a b c, P a b c ∧ Q a b c ∧ S a b c ∧ T a b c ∧ U a b c := ⟨a, b, c, h, i, j, k, l⟩
theorem vE {P : A → B → C → D → Prop} (a : A) (b : B) (c : C) (d : D) (h : P a b c d) : ∃ a b c d, P a b c d := ⟨a, b, c, d, h⟩
theorem rF {P Q : A → B → C → D → Prop} (a : A) (b : B) (c : C) (d : D) (h : P a b c d) (i : Q a b c d) : ∃ a b c d, P a b c d ∧ Q a b c d := ⟨a, b, c, d, h, i⟩
theorem ud {P Q S : A → B → C → D → Prop} (a : A) (b : B) (c : C) (d : D) (h : P a b c d) (i : Q a b c d) (j : S a b c d) : ∃ a b c d, P a b c d ∧ Q a b c d ∧ S a b c d := ⟨a, b, c, d, h, i, j⟩
theorem rG {P Q S T : A → B → C → D → Prop} (a : A) (b : B) (c : C) (d : D) (h : P a b c d) (i : Q a b c d) (j : S a b c d) (k : T a b c d) : ∃ a b c d, P a b c d ∧ Q a b c d ∧ S a b c d ∧ T a b c d := ⟨a, b, c, d, h, i, j, k⟩
theorem lr {P Q S T U : A → B → C → D → Prop} (a : A) (b : B) (c : C) (d : D) (h : P a b c d) (i : Q a b c d) (j : S a b c d) (k : T a b c d) (l : U a b c d) : ∃ a b c d, P a b c d ∧ Q a b c d ∧ S a b c d ∧ T a b c d ∧ U a b c d := ⟨a, b, c, d, h, i, j, k, l⟩
theorem lw {P Q : A → B → C → D → E → Prop} (a : A) (b : B) (c : C) (d : D) (e : E) (h : P a b c d e) (i : Q a b c d e) : ∃ a b c d e, P a b c d e ∧ Q a b c d e := ⟨a, b, c, d, e, h, i⟩
theorem pn {P Q S : A → B → C → D → E → Prop} (a : A) (b : B) (c : C) (d : D) (e : E) (h : P a b c d e) (i : Q a b c d e) (j : S a b c d e) : ∃ a b c d e, P a b c d e ∧ Q a b c d e ∧ S a b c d e := ⟨a, b, c, d, e, h, i, j⟩
theorem pq {P Q S T : A → B → C → D → E → F → Prop} (a : A) (b : B) (c : C) (d : D) (e : E) (f : F) (h : P a b c d e f) (i : Q a b c d e f) (j : S a b c d e f) (k : T a b c d e f) : ∃ a b c d e f, P a b c d e f ∧ Q a b c d e f ∧ S a b c d e f ∧ T a b c d e f := ⟨a, b, c, d, e, f, h, i, j, k⟩
theorem zh {P : Prop} {Q : Prop} (h : P ∨ Q) (k : P → R) (l : Q → R) : R := h.elim (fun h => k h) fun h => l h
theorem rH {P : Prop} {Q : Prop} {S : Prop} (h : P ∨ Q ∨ S) (k : P → R) (l : Q → R) (m : S → R) : R := h.elim (fun h => k h) fun h => h.elim (fun h => l h) fun h => m h
theorem xL {P : Prop} {Q S : Prop} (h : P ∨ (Q ∧ S)) (k : P → R) (l : Q → S → R) : R := h.elim (fun h => k h) fun h => l h.1 h.2
theorem pr {P : Prop} {Q S : A → Prop} (h : P ∨ (∃ a, Q a ∧ S a)) (k : P → R) (l : ∀ a, Q a → S a → R) : R := h.elim (fun h => k h) fun h => h.elim fun a h => l a h.1 h.2
theorem pt {P : Prop} {Q S T U : A → B → Prop} (h : P ∨ (∃ a b, Q a b ∧ S a b ∧ T a b ∧ U a b)) (k : P → R) (l : ∀ a b, Q a b → S a b → T a b → U a b → R) : R := h.elim (fun h => k h) fun h => h.elim fun a h => h.elim fun b h => l a b h.1 h.2.1 h.2.2.1 h.2.2.2
theorem wf {P : Prop} {Q S T U : A → B → C → Prop} (h : P ∨ (∃ a b c, Q a b c ∧ S a b c ∧ T a b c ∧ U a b c)) (k : P → R) (l : ∀ a b c, Q a b c → S a b c → T a b c → U a b c → R) : R := h.elim (fun h => k h) fun h => h.elim fun a h => h.elim fun b h => h.elim fun c h => l a b c h.1 h.2.1 h.2.2.1 h.2.2.2
theorem ue {P Q : Prop} {S : Prop} (h : (P ∧ Q) ∨ S) (k : P → Q → R) (l : S → R) : R := h.elim (fun h => k h.1 h.2) fun h => l h
theorem ly {P Q : Prop} {S T : Prop} (h : (P ∧ Q) ∨ (S ∧ T)) (k : P → Q → R) (l : S → T → R) : R := h.elim (fun h => k h.1 h.2) fun h => l h.1 h.2
theorem y9 {P Q : A → Prop} {S T : Prop} (h : (∃ a, P a ∧ Q a) ∨ (S ∧ T)) (k : ∀ a, P a → Q a → R) (l : S → T → R) : R := h.elim (fun h => h.elim fun a h => k a h.1 h.2) fun h => l h.1 h.2
theorem lz {P Q : A → Prop} {S T : B → Prop} (h : (∃ a, P a ∧ Q a) ∨ (∃ a, S a ∧ T a)) (k : ∀ a, P a → Q a → R) (l : ∀ a, S a → T a → R) : R := h.elim (fun h => h.elim fun a h => k a h.1 h.2) fun h => h.elim fun a h => l a h.1 h.2
theorem lB {P Q S : A → B → C → Prop} {T U V W X : D → E → F → G → Prop} (h : (∃ a b c, P a b c ∧ Q a b c ∧ S a b c) ∨ (∃ a b c d, T a b c d ∧ U a b c d ∧ V a b c d ∧ W a b c d ∧ X a b c d)) (k : ∀ a b c, P a b c → Q a b c → S a b c → R) (l : ∀ a b c d, T a b c d → U a b c d → V a b c d → W a b c d → X a b c d → R) : R := h.elim (fun h => h.elim fun a h => h.elim fun b h => h.elim fun c h => k a b c h.1 h.2.1 h.2.2) fun h => h.elim fun a h => h.elim fun b h => h.elim fun c h => h.elim fun d h => l a b c d h.1 h.2.1 h.2.2.1 h.2.2.2.1 h.2.2.2.2
theorem ze {P Q : Prop} (h : P ∧ Q) (k : P → Q → R) : R := k h.1 h.2
theorem yE {P Q S : Prop} (h : P ∧ Q ∧ S) (k : P → Q → S → R) : R := k h.1 h.2.1 h.2.2
theorem py {P Q S T : Prop} (h : P ∧ Q ∧ S ∧ T) (k : P → Q → S → T → R) : R := k h.1 h.2.1 h.2.2.1 h.2.2.2
theorem lC {P Q S T U : Prop} (h : P ∧ Q ∧ S ∧ T ∧ U) (k : P → Q → S → T → U → R) : R := k h.1 h.2.1 h.2.2.1 h.2.2.2.1 h.2.2.2.2
theorem lD {P Q S T U V : Prop} (h : P ∧ Q ∧ S ∧ T ∧ U ∧ V) (k : P → Q → S → T → U → V → R) : R := k h.1 h.2.1 h.2.2.1 h.2.2.2.1 h.2.2.2.2.1 h.2.2.2.2.2
theorem zd {P : A → Prop} (h : ∃ a, P a) (k : ∀ a, P a → R) : R := h.elim fun a h => k a h
theorem zb {P Q : A → Prop} (h : ∃ a, P a ∧ Q a) (k : ∀ a, P a → Q a → R) : R := h.elim fun a h => k a h.1 h.2
theorem yv {P Q S : A → Prop} (h : ∃ a, P a ∧ Q a ∧ S a) (k : ∀ a, P a → Q a → S a → R) : R := h.elim fun a h => k a h.1 h.2.1 h.2.2
theorem pz {P Q S T : A → Prop} (h : ∃ a, P a ∧ Q a ∧ S a ∧ T a) (k : ∀ a, P a → Q a → S a → T a → R) : R := h.elim fun a h => k a h.1 h.2.1 h.2.2.1 h.2.2.2
theorem zM {P : A → B → Prop} (h : ∃ a b, P a b) (k : ∀ a b, P a b → R) : R := h.elim fun a h => h.elim fun b h => k a b h
theorem zx {P Q : A → B → Prop} (h : ∃ a b, P a b ∧ Q a b) (k : ∀ a b, P a b → Q a b → R) : R := h.elim fun a h => h.elim fun b h => k a b h.1 h.2
theorem yq {P Q S : A → B → Prop} (h : ∃ a b, P a b ∧ Q a b ∧ S a b) (k : ∀ a b, P a b → Q a b → S a b → R) : R := h.elim fun a h => h.elim fun b h => k a b h.1 h.2.1 h.2.2
theorem wg {P Q S T : A → B → Prop} (h : ∃ a b, P a b ∧ Q a b ∧ S a b ∧ T a b) (k : ∀ a b, P a b → Q a b → S a b → T a b → R) : R := h.elim fun a h => h.elim fun b h => k a b h.1 h.2.1 h.2.2.1 h.2.2.2
theorem w8 {P : A → B → C → Prop} (h : ∃ a b c, P a b c) (k : ∀ a b c, P a b c → R) : R := h.elim fun a h => h.elim fun b h => h.elim fun c h => k a b c h
theorem y5 {P Q : A → B → C → Prop} (h : ∃ a b c, P a b c ∧ Q a b c) (k : ∀ a b c, P a b c → Q a b c → R) : R := h.elim fun a h => h.elim fun b h => h.elim fun c h => k a b c h.1 h.2
theorem xW {P Q S : A → B → C → Prop} (h : ∃ a b c, P a b c ∧ Q a b c ∧ S a b c) (k : ∀ a b c, P a b c → Q a b c → S a b c → R) : R := h.elim fun a h => h.elim fun b h => h.elim fun c h => k a b c h.1 h.2.1 h.2.2
theorem zW {P Q S T : A → B → C → Prop} (h : ∃ a b c, P a b c ∧ Q a b c ∧ S a b c ∧ T a b c) (k : ∀ a b c, P a b c → Q a b c → S a b c → T a b c → R) : R := h.elim fun a h => h.elim fun b h => h.elim fun c h => k a b c h.1 h.2.1 h.2.2.1 h.2.2.2
theorem rI {P Q S T U : A → B → C → Prop} (h : ∃ a b c, P a b c ∧ Q a b c ∧ S a b c ∧ T a b c ∧ U a b c) (k : ∀ a b c, P a b c → Q a b c → S a b c → T a b c → U a b c → R) : R := h.elim fun a h => h.elim fun b h => h.elim fun c h => k a b c h.1 h.2.1 h.2.2.1 h.2.2.2.1 h.2.2.2.2
theorem pA {P Q S T U V : A → B → C → Prop} (h : ∃ a b c, P a b c ∧ Q a b c ∧ S a b c ∧ T a b c ∧ U a b c ∧ V a b c) (k : ∀ a b c, P a b c → Q a b c → S a b c → T a b c → U a b c → V a b c → R) : R := h.elim fun a h => h.elim fun b h => h.elim fun c h => k a b c h.1 h.2.1 h.2.2.1 h.2.2.2.1 h.2.2.2.2.1 h.2.2.2.2.2
theorem t7 {P : A → B → C → D → Prop} (h : ∃ a b c d, P a b c d) (k : ∀ a b c d, P a b c d → R) : R := h.elim fun a h => h.elim fun b h => h.elim fun c h => h.elim fun d h => k a b c d h
theorem yJ {P Q : A → B → C → D → Prop} (h : ∃ a b c d, P a b c d ∧ Q a b c d) (k : ∀ a b c d, P a b c d → Q a b c d → R) : R := h.elim fun a h => h.elim fun b h => h.elim fun c h => h.elim fun d h => k a b c d h.1 h.2
theorem w9 {P Q S : A → B → C → D → Prop} (h : ∃ a b c d, P a b c d ∧ Q a b c d ∧ S a b c d) (k : ∀ a b c d, P a b c d → Q a b c d → S a b c d → R) : R := h.elim fun a h => h.elim fun b h => h.elim fun c h => h.elim fun d h => k a b c d h.1 h.2.1 h.2.2
theorem rJ {P Q S T : A → B → C → D → Prop} (h : ∃ a b c d, P a b c d ∧ Q a b c d ∧ S a b c d ∧ T a b c d) (k : ∀ a b c d, P a b c d → Q a b c d → S a b c d → T a b c d → R) : R := h.elim fun a h => h.elim fun b h => h.elim fun c h => h.elim fun d h => k a b c d h.1 h.2.1 h.2.2.1 h.2.2.2
theorem pB {P Q S T U : A → B → C → D → Prop} (h : ∃ a b c d, P a b c d ∧ Q a b c d ∧ S a b c d ∧ T a b c d ∧ U a b c d) (k : ∀ a b c d, P a b c d → Q a b c d → S a b c d → T a b c d → U a b c d → R) : R := h.elim fun a h => h.elim fun b h => h.elim fun c h => h.elim fun d h => k a b c d h.1 h.2.1 h.2.2.1 h.2.2.2.1 h.2.2.2.2
theorem rL {P Q : A → B → C → D → E → Prop} (h : ∃ a b c d e, P a b c d e ∧ Q a b c d e) (k : ∀ a b c d e, P a b c d e → Q a b c d e → R) : R := h.elim fun a h => h.elim fun b h => h.elim fun c h => h.elim fun d h => h.elim fun e h => k a b c d e h.1 h.2
theorem pC {P Q S : A → B → C → D → E → Prop} (h : ∃ a b c d e, P a b c d e ∧ Q a b c d e ∧ S a b c d e) (k : ∀ a b c d e, P a b c d e → Q a b c d e → S a b c d e → R) : R := h.elim fun a h => h.elim fun b h => h.elim fun c h => h.elim fun d h => h.elim fun e h => k a b c d e h.1 h.2.1 h.2.2
theorem lE {P Q S T : A → B → C → D → E → Prop} (h : ∃ a b c d e, P a b c d e ∧ Q a b c d e ∧ S a b c d e ∧ T a b c d e) (k : ∀ a b c d e, P a b c d e → Q a b c d e → S a b c d e → T a b c d e → R) : R := h.elim fun a h => h.elim fun b h => h.elim fun c h => h.elim fun d h => h.elim fun e h => k a b c d e h.1 h.2.1 h.2.2.1 h.2.2.2
theorem pD {P Q S T : A → B → C → D → E → F → Prop} (h : ∃ a b c d e f, P a b c d e f ∧ Q a b c d e f ∧ S a b c d e f ∧ T a b c d e f) (k : ∀ a b c d e f, P a b c d e f → Q a b c d e f → S a b c d e f → T a b c d e f → R) : R := h.elim fun a h => h.elim fun b h => h.elim fun c h => h.elim fun d h => h.elim fun e h => h.elim fun f h => k a b c d e f h.1 h.2.1 h.2.2.1 h.2.2.2
theorem lF {P Q S T U : A → B → C → D → E → F → Prop} (h : ∃ a b c d e f, P a b c d e f ∧ Q a b c d e f ∧ S a b c d e f ∧ T a b c d e f ∧ U a b c d e f) (k : ∀ a b c d e f, P a b c d e f → Q a b c d e f → S a b c d e f → T a b c d e f → U a b c d e f → R) : R := h.elim fun a h => h.elim fun b h => h.elim fun c h => h.elim fun d h => h.elim fun e h => h.elim fun f h => k a b c d e f h.1 h.2.1 h.2.2.1 h.2.2.2.1 h.2.2.2.2
theorem lG {P : A → B → C → D → E → F → G → Prop} (h : ∃ a b c d e f g, P a b c d e f g) (k : ∀ a b c d e f g, P a b c d e f g → R) : R := h.elim fun a h => h.elim fun b h => h.elim fun c h => h.elim fun d h => h.elim fun e h => h.elim fun f h => h.elim fun g h => k a b c d e f g h
end
end Mine
end
section
open PySem PySem.W PyProof.Rows
set_option maxRecDepth 100000
namespace Mine
section
set_option tactic.hygienic true in
noncomputable def t8 (drop : List Nat) : Nat → List Stmt → List Stmt
 | _, [] => []
 | i, s :: r => cond (drop.contains i) (t8 drop (i + 1) r) (s :: t8 drop (i + 1) r)
set_option tactic.hygienic true in
noncomputable def vw : Program := { PySem.Challenge.pw_jk0033_01 with main := { PySem.Challenge.pw_jk0033_01.main with body := t8 [1, 4, 29] 0 PySem.Challenge.pw_jk0033_01.main.body } }
set_option tactic.hygienic true in
noncomputable def t9 (ok : Nat → Option Value → Thread → Bool) (den : Code → Sem Fin) (sT : (Code → Sem Fin) → Program → World → SharedT → Thread → Option (SharedT × Thread)) (p : Program) (w : World) (n₀ : Nat) (ann : Option Value) : Nat → SharedT → Thread → Option SharedT
 | 0, _, _ => none
 | n + 1, s, t => match through t with
  | true => some s
  | false => match ok n₀ ann t with
   | false => none
   | true => match sT den p w s t with
    | some (s', t') => t9 ok den sT p w n₀ ann n s' t'
    | none => none
set_option tactic.hygienic true in
theorem lH {tb : String → Option Builtin} {p : Program} {w : World} {n₀ : Nat} {ann : Option Value} : ∀ {n : Nat} {s s' : SharedT} {t : Thread}, t9 stepOk (denote tb) stepT p w n₀ ann n s t = some s' → topRun tb p w n₀ ann n s.abs t = some s'.abs
 | 0, _, _, _, h => by cases h
 | n + 1, s, s', t, h => by
  unfold t9 at h
  unfold topRun
  cases he : through t with
  | true => rw [he] at h; cases h; rfl
  | false =>
   rw [he] at h
   cases hk : stepOk n₀ ann t with
   | false => rw [hk] at h; cases h
   | true =>
    rw [hk] at h
    cases hs : stepT (denote tb) p w s t with
    | none => rw [hs] at h; cases h
    | some r => obtain ⟨s₂, t₂⟩ := r; rw [hs] at h; rw [stepT_spec hs]; exact lH h
set_option tactic.hygienic true in
noncomputable def rM : Program → World → Nat → Option Value → Nat → SharedT → Thread → Option SharedT :=
 t9 PySem.W.Fast.tw6613529449190102663 (PySem.W.Fast.tw11892475500146522536 PySem.W.Fast.tw14364793385576792824) PySem.W.Fast.tw10156331382660048174
set_option tactic.hygienic true in
theorem ew : rM = t9 stepOk (denote treeTable) stepT := by
 unfold rM
 rw [← PySem.W.Fast.te6613529449190102663, ← PySem.W.Fast.te11892475500146522536, ← PySem.W.Fast.te14364793385576792824, ← PySem.W.Fast.te10156331382660048174]
set_option tactic.hygienic true in
noncomputable def pE (P : Params) : BT := ((boot_heap P).objs.toList.foldl (fun (x : BT × Nat) o => (x.1.ins x.2 o, x.2 + 1)) (BT.nil, 0)).1
set_option tactic.hygienic true in
noncomputable def pF {α : Type} (p q : Program) (loose : List Str) (Xt : Shared → Bool) (Yf : Shared → α) (g0 : Bool) (H₀ : Heap) (s : Shared) :=
 ((staticsOk (importedModules p.main.body) H₀ s.heap && namesBound p s.heap && gensDone s && laidKept H₀ s.heap), PySem.W.Fast.tw4187177175401517315 q loose (importedModules p.main.body) Xt g0 s, Yf s)
set_option tactic.hygienic true in
theorem eA : ∀ P : Params, boot_heap P = absHeap (pE P) 11 {} := fun P => by kernel_rfl
set_option tactic.hygienic true in
noncomputable def sa (p q : Program) (loose : List Str) (Xt : Shared → Bool) {α : Type} (Yf : Shared → α) (Ya : World → α) (N : Nat) (g0 : Bool) (m₀ : Nat) (ann : Option Value) (w : World) : Prop :=
 ∀ os : OsState, (rM p w m₀ ann N ⟨pE w.params, 11, {}, #[], boot_drawn, boot_toks, os⟩ (topStub p)).map (fun s => pF p q loose Xt Yf g0 (boot_heap w.params) s.abs) = some (true, openGood q loose, Ya w)
set_option tactic.hygienic true in
theorem left_run {p q : Program} {loose : List Str} {Xt : Shared → Bool} {α : Type} {Yf : Shared → α} {Ya : World → α} {N : Nat} {g0 : Bool} {m₀ : Nat} {ann : Option Value} (row : String)
  (e : opening p = plainProg p.main.scope.names) (hN : Nat.ble 600 N = true) (f : ∀ s, fenceModules? p s = some s)
  (size : ∀ w : World, ((boot_heap w.params).isNs mainGlobals && (#[] : Array GenState).size == 0, (boot_heap w.params).objs.size, (boot_heap w.params).nsMap mainGlobals "__annotations__") = (true, m₀, ann))
  (pG : ∀ w : World, sa p q loose Xt Yf Ya N g0 m₀ ann (w.withFollow row false)) (pH : ∀ w : World, sa p q loose Xt Yf Ya N g0 m₀ ann (w.withFollow row true)) :
  LeftO p q loose Xt Yf Ya N g0 := fun w => by
 have run : ∀ os : OsState, (rM p w m₀ ann N ⟨pE w.params, 11, {}, #[], boot_drawn, boot_toks, os⟩ (topStub p)).map (fun s => pF p q loose Xt Yf g0 (boot_heap w.params) s.abs) = some (true, openGood q loose, Ya w) := fun os => by
  have : sa p q loose Xt Yf Ya N g0 m₀ ann (w.withFollow row (w.params.followText row)) := by
   cases w.params.followText row
   ·exact pG w
   ·exact pH w
  rw [World.withFollow_self] at this
  exact this os
 obtain ⟨⟨h, gs, d, k, os⟩, e, e'⟩ := Option.map_eq_some_iff.mp (boot_open e hN f w)
 obtain ⟨rfl, rfl, rfl, rfl⟩ : h = boot_heap w.params ∧ gs = Array.mk [] ∧ d = boot_drawn ∧ k = boot_toks := by simpa using e'
 obtain ⟨z1, z2, z3⟩ : _ ∧ _ ∧ _ := by simpa only [Prod.mk.injEq] using size w
 obtain ⟨sT, hr, hl⟩ := Option.map_eq_some_iff.mp (run os)
 rw [ew] at hr
 have r := lH hr
 have r : topRun treeTable p w m₀ ann N ⟨boot_heap w.params, #[], boot_drawn, boot_toks, os⟩ (topStub p) = some sT.abs := by
  rw [eA]; exact r
 generalize sT.abs = s₁ at r hl
 unfold pF at hl
 rw [← PySem.W.Fast.te4187177175401517315] at hl
 obtain ⟨l1, l2, l3⟩ : _ ∧ _ ∧ _ := by simpa only [Prod.mk.injEq] using hl
 have t : topFrom treeTable p w N ⟨boot_heap w.params, #[], boot_drawn, boot_toks, os⟩ = some s₁ := by
  unfold topFrom
  dsimp only
  rw [z1, z2, z3, r]
  show (match staticsOk (importedModules p.main.body) (boot_heap w.params) s₁.heap && namesBound p s₁.heap && gensDone s₁ && laidKept (boot_heap w.params) s₁.heap with | true => _ | false => _) = _
  rw [l1]
 unfold openEnds
 rw [e]
 show (topFrom treeTable p w N _).map _ = _
 rw [t]
 exact congrArg some (Prod.ext l2 l3)
set_option hygiene false in
local macro_rules | `(tactic| o_head $_) => `(tactic| exact h)
set_option tactic.hygienic true in
theorem kk (h : PySem.Challenge.rw_jk0033_01.row.Holds) : PySem.Challenge.rw_jk0033_01.row.Holds := by
 k_head
set_option tactic.hygienic true in
noncomputable def eB : List Addr := [2,3,15,17,18,20,21,29,31,32,34,35,36,37,39,40,42,43,44,46,47,49,50,51,53,54,56,57,58,59,60,61,62,65,68,73,74,75,76,78,79,81,82,83,85,86,88,89,90,91,92,93,94,96,97,99,100,101,103,104,106,107,108,110,111,113,114,115,117,118,120,121,122,123,124,126,127,129,131,132,133,136,143,144,145,146,156,158,159,161,162,163,165,166,168,169,170,172,173,175,176,177,178,179,180,181,184,185,186,187,189,190,192,193,194,196,197,199,200,201,203,204,206,207,208,210,211,213,214,215,217,218,220,221,222,224,225,227,228,229,231,232,234,235,236,238,239,241,242,243,245,246,248,249,250,252,253,255,256,257,259,260,262,263,264,266,267,269,270,271,273,274,276,277,278,280,281,283,284,285,287,288,290,291,292,294,295,297,298,299,301,302,304,305,306,308,309,311,312,313,315,316,318,319,320,322,323,325,326,327,329,330,332,333,334,336,337,339,340,341,342,343,344,345,346,347,348,350,351,353,354,355,357,358,360,361,362,364,365,367,368,369,372,373,374,376,377,379,380,381,384,385,386,388,389,391,392,393,395,396,398,399,400,403,404,405,408,409,410,412,413,415,416,417,419,420,422,423,424,426,427,429,430]
set_option tactic.hygienic true in
noncomputable def wq : Hook := kHook kk.heap_1 eB (fun _ => by kernel_rfl)
noncomputable abbrev pw : Program := PySem.Challenge.pw_jk0033_01
noncomputable abbrev rN : List Str := ["_tuplegetter", "Token", "ASTOPS", "_law_counted"]
noncomputable abbrev rO : Shared → Bool := fun s => xlAt vw [] s && recOk (RowW.records (OpenRow.toRowW (OpenLaw.row PySem.Challenge.rw_jk0033_01))) s
set_option tactic.hygienic true in
set_option maxHeartbeats 0 in
theorem eC : OpenLaw.wellSaid PySem.Challenge.rw_jk0033_01 = true := by
 rw [PySem.W.Fast.te9446332074065402090]
 delta PySem.W.Fast.tw9446332074065402090
 with_reducible repeat' refine look_both ?_ ?_
 all_goals (as_aux_lemma => kernel_rfl)
set_option tactic.hygienic true in
theorem pG : ∀ w : World, sa pw vw rN rO wq.obs wq.val 3240 true 11 (some (.ref 6)) (w.withFollow "special-get-raises" false) := fun w os => by kernel_rfl
set_option tactic.hygienic true in
theorem pH : ∀ w : World, sa pw vw rN rO wq.obs wq.val 3240 true 11 (some (.ref 6)) (w.withFollow "special-get-raises" true) := fun w os => by kernel_rfl
set_option tactic.hygienic true in
theorem left : LeftO pw vw rN rO wq.obs wq.val 3240 :=
 left_run (m₀ := 11) (ann := some (.ref 6)) "special-get-raises" (by kernel_rfl) (by kernel_rfl) (fun s => by kernel_rfl) (fun w => by kernel_rfl) pG pH
end
end Mine
end
section
open PySem PySem.W PyProof.Rows
namespace Mine
variable {i : Int} {d : PyData} {v : V} {t : Sl} {e : Expr} {x : Str} {ρ : zf}
inductive V where
 | dat (d : PyData)
 | tok (k : Str) (v : PyData)
 | lexer
 | dct (l : List (Str × PyData))
 | kin (l : List PyData)
 | fn
inductive Sl where
 | v (x : V)
 | own1 (l : List PyData)
 | own2 (l : List (List PyData))
noncomputable abbrev Tk := Str × PyData
noncomputable abbrev St := List Tk
inductive Out where
 | ok (v : V) (σ : St)
 | err
 | bad
noncomputable abbrev zf := List (Str × Sl)
noncomputable abbrev KV := V → St → Out
noncomputable abbrev KR := zf → St → Out
noncomputable abbrev zm := List (Str × NameKind)
noncomputable def zt (x : Str) : zf → Option Sl
 | [] => none
 | (y, v) :: r => cond (y == x) (some v) (zt x r)
noncomputable def zz (x : Str) (v : Sl) : zf → zf
 | [] => [(x, v)]
 | (y, u) :: r => cond (y == x) ((y, v) :: r) ((y, u) :: zz x v r)
noncomputable def zD (x : Str) : zm → Option NameKind
 | [] => none
 | (y, k) :: r => cond (x == y) (some k) (zD x r)
noncomputable def zN (sc : zm) (x : Str) : Bool := match zD x sc with | some .local => true | _ => false
noncomputable def yB (sc : zm) (ρ : zf) (x : Str) : Bool := match zt x ρ with
 | some _ => false
 | none => match zD x sc with | some .globalImplicit => true | _ => false
noncomputable def zG (x : Str) : List (Str × PyData) → Option PyData
 | [] => none
 | (y, d) :: r => cond (y == x) (some d) (zG x r)
noncomputable def chk (b : Bool) (o : Out) : Out := cond b o .bad
noncomputable def zi (n : Nat) : Bool := Nat.ble n 16777216
noncomputable def z0 : Int → Bool
 | .ofNat n => Nat.ble n 9223372036854775807
 | .negSucc n => Nat.ble n 9223372036854775807
noncomputable def rR : Int → Bool
 | .ofNat n => Nat.ble n 1073741823
 | .negSucc n => Nat.ble n 1073741822
noncomputable def opt {α : Type} (o : Option α) (f : α → Out) (d : Out) : Out := match o with
 | some a => f a
 | none => d
noncomputable def xM : V → Option PyData
 | .dat d => some d
 | _ => none
noncomputable def uf : PyData → Option Int
 | .int i => some i
 | _ => none
noncomputable def sd : PyData → Option Str
 | .str i => some i
 | _ => none
noncomputable def rS : PyData → Option Bool
 | .bool i => some i
 | _ => none
noncomputable def vF : PyData → Option (List PyData)
 | .list i => some i
 | _ => none
noncomputable def vG : PyData → Option (List PyData)
 | .tuple i => some i
 | _ => none
noncomputable def yw (v : V) (f : PyData → Out) : Out := opt (xM v) f .bad
noncomputable def yc (v : V) (f : Int → Out) : Out := opt (xM v) (fun d => opt (uf d) f .bad) .bad
noncomputable def se (v : V) (f : Str → Out) : Out := opt (xM v) (fun d => opt (sd d) f .bad) .bad
noncomputable def pI (v : V) (f : Bool → Out) : Out := opt (xM v) (fun d => opt (rS d) f .bad) .bad
noncomputable def xN (v : V) (f : List PyData → Out) : Out := opt (xM v) (fun d => opt (vF d) f .bad) .bad
noncomputable def ug (v : V) (f : List PyData → Out) : Out := opt (xM v) (fun d => opt (vG d) f .bad) .bad
noncomputable def eD (a b : V) (K : KV) (σ : St) : Out := opt (xM a) (fun d =>
 opt (uf d) (fun x => yc b (fun y => K (.dat (.int (x + y))) σ))
 (opt (vF d) (fun x => xN b (fun y => chk (zi (x.length + y.length)) (K (.dat (.list (x ++ y))) σ)))
 (opt (vG d) (fun x => ug b (fun y => chk (zi (x.length + y.length)) (K (.dat (.tuple (x ++ y))) σ))) .bad))) .bad
noncomputable def zl (op : Operator) (a b : V) (K : KV) (σ : St) : Out :=
 match op with
 | .Add => eD a b K σ
 | .Sub => yc a (fun x => yc b (fun y => K (.dat (.int (x - y))) σ))
 | .FloorDiv => yc a (fun x => yc b (fun y => chk (rR y && !(decide (y = 0))) (K (.dat (.int (x.fdiv y))) σ)))
 | .Mod => yc a (fun x => yc b (fun y => chk (!(decide (y = 0))) (K (.dat (.int (x.fmod y))) σ)))
 | .Mult => yc a (fun x => yc b (fun y => chk (z0 x && z0 y) (K (.dat (.int (x * y))) σ)))
 | _ => .bad
noncomputable def uZ (x y : PyData) (K : Bool → St → Out) (σ : St) : Out :=
 match x, y with
 | .int a, .int b => K (decide (a = b)) σ
 | .str a, .str b => K (a == b) σ
 | x, y => chk (SeqAt.shaped x && SeqAt.shaped y) (K (PyData.eqv x y) σ)
noncomputable def wt : List PyData → Option (List Str)
 | [] => some []
 | .str s :: r => (wt r).map (s :: ·)
 | _ => none
noncomputable def va : List PyData → Option (List Int)
 | [] => some []
 | .int s :: r => (va r).map (s :: ·)
 | _ => none
noncomputable def vb : List PyData → Option (List Bool)
 | [] => some []
 | .bool s :: r => (vb r).map (s :: ·)
 | _ => none
noncomputable def zu (s : Str) : List Str → Bool
 | [] => false
 | x :: r => cond (s == x) true (zu s r)
noncomputable def xa (s : Int) : List Int → Bool
 | [] => false
 | x :: r => cond (decide (s = x)) true (xa s r)
noncomputable def rT (s : Str) (l : List PyData) (K : Bool → St → Out) (σ : St) : Out := opt (wt l) (fun ss => chk (zi l.length) (K (zu s ss) σ)) .bad
noncomputable def vH (a b : V) (K : Bool → St → Out) (σ : St) : Out := opt (xM a) (fun d =>
 opt (sd d) (fun s => match b with
  | .dat e => opt (vG e) (fun l => rT s l K σ) (opt (vF e) (fun l => rT s l K σ) .bad)
  | .dct l => K (zG s l).isSome σ
  | .kin l => rT s l K σ
  | _ => .bad)
 (opt (uf d) (fun s => ug b (fun l => opt (va l) (fun ss => chk (zi l.length) (K (xa s ss) σ)) .bad)) .bad)) .bad
noncomputable def isNone : V → Bool
 | .dat .none => true
 | _ => false
noncomputable def zX (op : CmpOp) (a b : V) (K : Bool → St → Out) (σ : St) : Out :=
 match op with
 | .Eq => yw a (fun x => yw b (fun y => uZ x y K σ))
 | .NotEq => yw a (fun x => yw b (fun y => uZ x y (fun c => K (!c)) σ))
 | .Lt => yc a (fun x => yc b (fun y => K (decide (x < y)) σ))
 | .Gt => yc a (fun x => yc b (fun y => K (decide (y < x)) σ))
 | .In => vH a b K σ
 | .NotIn => vH a b (fun c => K (!c)) σ
 | .Is => chk (isNone b) (K (isNone a) σ)
 | .IsNot => chk (isNone b) (K (!(isNone a)) σ)
 | _ => .bad
noncomputable def vc (v : V) (K : Bool → St → Out) (σ : St) : Out := opt (xM v) (fun d =>
 opt (rS d) (fun b => K b σ) (opt (vF d) (fun l => chk (zi l.length) (K (!l.isEmpty) σ)) .bad)) .bad
noncomputable def yr (l : List PyData) (i : Int) : Option PyData :=
 cond (decide (0 ≤ i)) (l[i.toNat]?) (cond (decide (0 ≤ i + l.length)) (l[(i + l.length).toNat]?) none)
noncomputable def si (l : List PyData) (i : V) (K : KV) (σ : St) : Out := yc i (fun j => chk (z0 j) (opt (yr l j) (fun x => K (.dat x) σ) .bad))
noncomputable def indexK (o i : V) (K : KV) (σ : St) : Out :=
 match o with
 | .dat d => opt (vF d) (fun l => si l i K σ) (opt (vG d) (fun l => si l i K σ) .bad)
 | .dct l => se i (fun s => opt (zG s l) (fun x => K (.dat x) σ) .bad)
 | .kin l => si l i K σ
 | _ => .bad
noncomputable def zk {α : Type} (l : List α) (lo hi : Option Int) : List α := (l.drop (kms_lo lo l.length)).take (kms_hi hi l.length - kms_lo lo l.length)
noncomputable def eE (o : V) (lo hi : Option Int) (K : KV) (σ : St) : Out := xN o (fun l => chk (zi l.length) (K (.dat (.list (zk l lo hi))) σ))
noncomputable def zK (v : V) (K : KV) (σ : St) : Out := opt (xM v) (fun d =>
 opt (vF d) (fun l => chk (zi l.length) (K (.dat (.int l.length)) σ)) (opt (vG d) (fun l => chk (zi l.length) (K (.dat (.int l.length)) σ)) .bad)) .bad
noncomputable def wu : Int → List Int → Int
 | m, [] => m
 | m, x :: r => wu (cond (decide (m < x)) x m) r
noncomputable def yT : Nat → List PyData → List PyData
 | _, [] => []
 | i, x :: r => .tuple [.int i, x] :: yT (i + 1) r
noncomputable def xX : List PyData → List PyData → List PyData
 | x :: r, y :: t => .tuple [x, y] :: xX r t
 | _, _ => []
noncomputable def vd (s : Str) : Nat → List Str → Option Nat
 | _, [] => none
 | i, x :: r => cond (x == s) (some i) (vd s (i + 1) r)
noncomputable def xb : Expr → Bool
 | .Starred _ _ => true
 | _ => false
noncomputable def uh (E : Expr → KV → St → Out) : List Expr → (List PyData → St → Out) → St → Out
 | [], K, σ => K [] σ
 | e :: r, K, σ => chk (!(xb e)) (E e (fun v σ => yw v (fun d => uh E r (fun ds => K (d :: ds)) σ)) σ)
noncomputable def pJ (E : Expr → KV → St → Out) : List Expr → (List V → St → Out) → St → Out
 | [], K, σ => K [] σ
 | e :: r, K, σ => E e (fun v σ => pJ E r (fun ds => K (v :: ds)) σ) σ
noncomputable def u0 : List Expr → Bool
 | [] => true
 | e :: r => !(xb e) && u0 r
noncomputable def xj (E : Expr → KV → St → Out) (es : List Expr) (K : List V → St → Out) (σ : St) : Out := chk (u0 es) (pJ E es K σ)
noncomputable def rU : Expr → Option Const
 | .Constant c _ _ => some c
 | _ => none
noncomputable def pK : Const → Option Str
 | .str i => some i
 | _ => none
noncomputable def pL (e : Expr) : Option Str := (rU e).bind pK
noncomputable def ui : List (Option Expr) → Option (List Str)
 | [] => some []
 | k :: r => (k.bind pL).bind (fun s => (ui r).map (fun ss => s :: ss))
noncomputable def sj : List Str → Bool
 | [] => true
 | x :: r => !(zu x r) && sj r
noncomputable def rV (T : Expr → (Bool → St → Out) → St → Out) (op : BoolOp) : List Expr → (Bool → St → Out) → St → Out
 | [], K, σ => (match op with | .And => K true σ | .Or => K false σ)
 | e :: r, K, σ => T e (fun b σ => match op with
   | .And => cond b (rV T op r K σ) (K false σ)
   | .Or => cond b (K true σ) (rV T op r K σ)) σ
noncomputable def one {α : Type} : List α → Bool
 | [] => false
 | _ :: r => r.isEmpty
noncomputable def tv (E : Expr → KV → St → Out) : Nat → Expr → (Bool → St → Out) → St → Out
 | 0, _, _, _ => .bad
 | k + 1, e, K, σ => match e with
  | .BoolOp op vs _ => rV (tv E k) op vs K σ
  | .UnaryOp _ _ _ => .bad
  | .IfExp _ _ _ _ => .bad
  | .Compare l ops rs p => chk (one ops && one rs) (E (.Compare l ops rs p) (fun v σ => pI v (fun b => K b σ)) σ)
  | e => E e (fun v σ => vc v K σ) σ
noncomputable def part (E : Expr → KV → St → Out) (e : Option Expr) (K : Option Int → St → Out) (σ : St) : Out :=
 match e with
 | none => K none σ
 | some e => E e (fun v σ => yc v (fun i => chk (z0 i) (K (some i) σ))) σ
noncomputable def vJ : List Expr → List PyData → zf → Option zf
 | [], [], ρ => some ρ
 | .Name x _ :: r, d :: ds, ρ => vJ r ds (zz x (.v (.dat d)) ρ)
 | _, _, _ => none
noncomputable def yx (sc : zm) : List Expr → Bool
 | [] => true
 | .Name x _ :: r => zN sc x && yx sc r
 | _ => false
noncomputable def vK (x : Str) : List Expr → Bool
 | [] => false
 | .Name y _ :: r => cond (x == y) true (vK x r)
 | _ :: r => vK x r
noncomputable def wF : List Expr → Bool
 | [] => true
 | .Name x _ :: r => !(vK x r) && wF r
 | _ => false
noncomputable def zP (sc : zm) (t : Expr) (d : PyData) (ρ : zf) : Option zf :=
 match t with
 | .Name x _ => cond (zN sc x) (some (zz x (.v (.dat d)) ρ)) none
 | .Tuple ts _ _ => (vG d).bind (fun ds => cond (yx sc ts && wF ts) (vJ ts ds ρ) none)
 | _ => none
noncomputable def rW : Str := "enumerate"
noncomputable def rX : Str := "zip"
noncomputable def ve : Str := "reversed"
noncomputable def rY : Str := "len"
noncomputable def rZ : Str := "max"
noncomputable def r4 : Str := "any"
noncomputable def xO : Str := "tuple"
noncomputable def wv : Str := "next"
noncomputable def wh : Str := "unpop_token"
noncomputable def pM : Str := "get"
noncomputable def xY : Str := "index"
noncomputable def wG : Str := "append"
noncomputable def z6 : Str := "kind"
noncomputable def z7 : Str := "value"
noncomputable def wH : Str := "Error"
noncomputable def yy : Str := "pool"
noncomputable def yf : Str := "parts"
noncomputable def r5 : Str := "__debug__"
inductive Bi where
 | len | max | any | tuple | enumerate | zip | reversed
noncomputable def xZ (f : Str) : Option Bi :=
 cond (f == rY) (some .len) <| cond (f == rZ) (some .max) <| cond (f == r4) (some .any) <| cond (f == xO) (some .tuple) <|
 cond (f == rW) (some .enumerate) <| cond (f == rX) (some .zip) <| cond (f == ve) (some .reversed) none
noncomputable def yK : Expr → Bool
 | .Tuple _ _ _ => true
 | _ => false
noncomputable def wI : Expr → Option Str
 | .Name f _ => some f
 | _ => none
noncomputable def sk : Expr → Option (Str × List Expr)
 | .Call f args kws _ => cond kws.isEmpty ((wI f).map (fun x => (x, args))) none
 | _ => none
noncomputable def pN : Expr → Bool
 | .Set _ _ _ => true
 | _ => false
noncomputable def x0 (vs : List V) (f : V → Out) : Out := match vs with
 | [] => .bad
 | v :: r => chk r.isEmpty (f v)
noncomputable def pO (vs : List V) (f : V → V → Out) : Out := match vs with
 | [] => .bad
 | v :: r => x0 r (f v)
noncomputable def eF : Bi → Bool
 | .enumerate => true
 | _ => false
noncomputable def eG : Bi → Bool
 | .zip => true
 | _ => false
noncomputable def u4 (E : Expr → KV → St → Out) (e : Expr) (K : List PyData → St → Out) (σ : St) : Out := chk (!(pN e)) (E e (fun v σ => xN v (fun l => chk (zi l.length) (K l σ))) σ)
noncomputable def src (E : Expr → KV → St → Out) (gl : Str → Bool) (tup : Bool) (e : Expr) (K : List PyData → St → Out) (σ : St) : Out :=
 opt ((sk e).bind (fun q => (xZ q.1).map (fun b => (q, b)))) (fun q =>
  cond (eF q.2) (chk (tup && gl q.1.1) (xj E q.1.2 (fun vs σ => x0 vs (fun v => xN v (fun l => chk (zi l.length) (K (yT 0 l) σ)))) σ))
  (cond (eG q.2) (chk (tup && gl q.1.1) (xj E q.1.2 (fun vs σ => pO vs (fun v w => xN v (fun l => xN w (fun m => chk (zi l.length && zi m.length) (K (xX l m) σ))))) σ))
   (u4 E e K σ))) (u4 E e K σ)
noncomputable def compK (B : PyData → Option zf) (T : zf → (Bool → St → Out) → St → Out) (E : zf → KV → St → Out) : List PyData → (List PyData → St → Out) → St → Out
 | [], K, σ => K [] σ
 | x :: r, K, σ => opt (B x) (fun ρ => T ρ (fun b σ => cond b
    (E ρ (fun v σ => yw v (fun d => compK B T E r (fun ds => K (d :: ds)) σ)) σ)
    (compK B T E r K σ)) σ) .bad
noncomputable def y6 (ns : zm) : zf → zf
 | [] => []
 | (y, v) :: r => match zD y ns with
  | some .free => (y, v) :: y6 ns r
  | _ => y6 ns r
noncomputable def xC : ScopeKind → Bool
 | .function => true
 | _ => false
noncomputable def yF (sc : zm) (ρ : zf) (ns : zm) : zm → Bool
 | [] => true
 | (y, k) :: r => (match k with
  | .local => zN ns y
  | .cell => false
  | .free => (match zD y sc with | some .cell => (zt y ρ).isSome && !(y == ("__classdict__" : Str)) | _ => false)
  | _ => true) && yF sc ρ ns r
noncomputable def uj (T : Expr → (Bool → St → Out) → St → Out) (ifs : List Expr) (K : Bool → St → Out) (σ : St) : Out :=
 match ifs with
 | [] => K true σ
 | [c] => T c K σ
 | _ => .bad
noncomputable def sq : V → Option Tk
 | .tok k d => some (k, d)
 | _ => none
noncomputable def lI (K : KV) (σ : St) : Out := match σ with
 | [] => .bad
 | t :: σ => K (.tok t.1 t.2) σ
noncomputable def uk (ov : V) (name : Str) (vs : List V) (K : KV) (σ : St) : Out :=
 match ov with
 | .lexer => cond vs.isEmpty (chk (name == wv) (lI K σ)) (x0 vs (fun v => opt (sq v) (fun t => chk (name == wh && zi (σ.length + 1)) (K (.dat .none) (t :: σ))) .bad))
 | .dct l => pO vs (fun v w => se v (fun s => yw w (fun d => chk (name == pM) (K (.dat ((zG s l).getD d)) σ))))
 | .kin l => x0 vs (fun v => se v (fun s => chk (name == xY) (opt (wt l) (fun ss => chk (zi l.length) (opt (vd s 0 ss) (fun i => K (.dat (.int i)) σ) .bad)) .bad)))
 | _ => .bad
noncomputable def lJ (ov : V) (name : Str) : Bool :=
 match ov with
 | .lexer => name == wv || name == wh
 | .dct _ => name == pM
 | .kin _ => name == xY
 | _ => false
noncomputable def sr (ρ : zf) : Expr → Option (List PyData)
 | .Name x _ => (match zt x ρ with | some (.own1 l) => some l | _ => none)
 | _ => none
noncomputable def ul {α : Type} : List α → Option (α × List α)
 | [] => none
 | x :: r => some (x, r)
noncomputable def xD (f : Bi) (vs : List V) (K : KV) (σ : St) : Out :=
 match f with
 | .len => x0 vs (fun v => zK v K σ)
 | .max => x0 vs (fun v => xN v (fun l => opt ((va l).bind ul) (fun q => chk (zi l.length) (K (.dat (.int (wu q.1 q.2))) σ)) .bad))
 | .any => x0 vs (fun v => xN v (fun l => opt (vb l) (fun bs => chk (zi l.length) (K (.dat (.bool (bs.any id))) σ)) .bad))
 | .tuple => cond vs.isEmpty (K (.dat (.tuple [])) σ) (x0 vs (fun v => xN v (fun l => chk (zi l.length) (K (.dat (.tuple l)) σ))))
 | _ => .bad
noncomputable def lK : Bi → Bool
 | .reversed => true
 | _ => false
noncomputable def eH (a : Expr) : Option (Str × List Expr) := (sk a).bind (fun q => (xZ q.1).bind (fun b => cond (lK b) (some q) none))
noncomputable def lL : List Expr → Option (Str × List Expr)
 | [] => none
 | a :: r => cond r.isEmpty (eH a) none
noncomputable def eI (ow : Expr → Option (List PyData)) : List Expr → Option (List PyData)
 | [] => none
 | a :: r => cond r.isEmpty (ow a) none
noncomputable def lM (E : Expr → KV → St → Out) (gl : Str → Bool) (ow : Expr → Option (List PyData)) (f : Bi) (args : List Expr) (K : KV) (σ : St) : Out :=
 match f with
 | .len => opt (eI ow args) (fun l => zK (.dat (.list l)) K σ) (xj E args (fun vs => xD .len vs K) σ)
 | .tuple => opt (lL args) (fun q => chk (gl q.1) (xj E q.2 (fun vs σ => x0 vs (fun v => ug v (fun l => chk (zi l.length) (K (.dat (.tuple l.reverse)) σ)))) σ))
   (xj E args (fun vs => xD .tuple vs K) σ)
 | f => xj E args (fun vs => xD f vs K) σ
noncomputable def lN : Const → Option Int
 | .int i => some i
 | _ => none
noncomputable def u5 (e : Expr) : Option Int := (rU e).bind lN
noncomputable def lO : UnaryOp → Bool
 | .USub => true
 | _ => false
noncomputable def pP : Expr → Option Int
 | .UnaryOp op a _ => cond (lO op) (u5 a) none
 | _ => none
noncomputable def su (e : Expr) : Bool := (pP e).elim false (fun i => decide (i = 1))
noncomputable def Ts : Expr → Bool
 | .Slice _ _ _ _ => true
 | _ => false
noncomputable def um : Expr → Bool
 | .Call (.Name id _) [] [] _ => id == ("super" : Str)
 | _ => false
noncomputable def xP : Expr → Expr → Bool
 | .Subscript (.Name x _) (.Constant _ _ _) _, .Name y _ => x == ("token" : Str) && y == ("token" : Str)
 | _, _ => false
noncomputable def sv : Option V → Bool
 | some .fn => true
 | _ => false
noncomputable def vL (args : List Expr) (apos pos : Pos) : Bool := Nat.ble args.length 2 && u0 args && Nat.beq apos.endLine pos.line
noncomputable def pQ : Operator → Bool
 | .Mult => true
 | _ => false
noncomputable def uo : Expr → Option (List Expr)
 | .List es _ => some es
 | _ => none
noncomputable def vM : List Expr → Option Expr
 | [] => none
 | a :: r => cond r.isEmpty (some a) none
noncomputable def sy (op : Operator) (l : Expr) : Option Int := cond (pQ op) (((uo l).bind vM).bind u5) none
noncomputable def lP : BoolOp → Bool
 | .Or => true
 | _ => false
noncomputable def lQ : CmpOp → Bool
 | .NotIn => true
 | _ => false
noncomputable def lR : Expr → Option (List Expr × Nat)
 | .Set es m _ => some (es, m)
 | _ => none
noncomputable def two {α : Type} : List α → Option (α × α)
 | [] => none
 | a :: r => match r with
  | [] => none
  | b :: s => cond s.isEmpty (some (a, b)) none
noncomputable def lS (q : Expr × Expr) : Option (Int × Int) := (u5 q.1).bind (fun i => (u5 q.2).map (fun j => (i, j)))
noncomputable def lT (op : CmpOp) (r : Expr) : Option ((Int × Int) × Nat) := cond (lQ op) ((lR r).bind (fun q => ((two q.1).bind lS).map (fun p => (p, q.2)))) none
noncomputable def lU : Expr → Option (Option Expr × Option Expr × Option Expr)
 | .Slice lo hi st _ => some (lo, hi, st)
 | _ => none
noncomputable def eJ (c : Const) (K : KV) (σ : St) : Out := match c with
 | .none => K (.dat .none) σ
 | .bool b => K (.dat (.bool b)) σ
 | .int i => K (.dat (.int i)) σ
 | .str s => K (.dat (.str s)) σ
 | _ => .bad
noncomputable def sA : Sl → Option V
 | .v x => some x
 | _ => none
noncomputable def lV : NameKind → Bool
 | .globalImplicit => true
 | _ => false
noncomputable def lW (G : Str → Option V) (sc : zm) (ρ : zf) (id : Str) (K : KV) (σ : St) : Out :=
 opt (zt id ρ) (fun t => opt (sA t) (fun v => K v σ) .bad) (opt (zD id sc) (fun k => chk (lV k) (opt (G id) (fun v => K v σ) .bad)) .bad)
noncomputable def lX (v : V) (name : Str) (K : KV) (σ : St) : Out := opt (sq v) (fun t => cond (name == z6) (K (.dat (.str t.1)) σ) (cond (name == z7) (K (.dat t.2) σ) .bad)) .bad
noncomputable def eL (er : Bool) (o : Out) (K : KV) : Out := match o with
 | .ok v σ => K v σ
 | .err => cond er .err .bad
 | .bad => .bad
noncomputable def ev (C : Str → List V → St → Out) (G : Str → Option V) : Nat → Bool → zm → zf → Expr → KV → St → Out
 | 0, _, _, _, _, _, _ => .bad
 | k + 1, er, sc, ρ, e, K, σ => match e with
  | .Constant c _ _ => eJ c K σ
  | .Name id _ => chk (!(id == r5)) (lW G sc ρ id K σ)
  | .Tuple es _ _ => uh (ev C G k er sc ρ) es (fun ds σ => chk (zi ds.length) (K (.dat (.tuple ds)) σ)) σ
  | .List es _ => uh (ev C G k er sc ρ) es (fun ds σ => chk (zi ds.length) (K (.dat (.list ds)) σ)) σ
  | .Dict ks vs _ => opt (ui ks) (fun ss => chk (sj ss && Nat.ble ss.length 14 && Nat.beq ss.length vs.length && Nat.ble 1 ss.length) (uh (ev C G k er sc ρ) vs (fun ds => K (.dct (ss.zip ds))) σ)) .bad
  | .BinOp l op r _ => opt (sy op l) (fun i => ev C G k er sc ρ r (fun b σ => yc b (fun n => chk (decide (0 ≤ n) && decide (n ≤ 1000)) (K (.dat (.list (List.replicate n.toNat (.int i)))) σ))) σ)
    (ev C G k er sc ρ l (fun a => ev C G k er sc ρ r (fun b => zl op a b K)) σ)
  | .UnaryOp op a p => opt (pP (.UnaryOp op a p)) (fun i => K (.dat (.int (-i))) σ) .bad
  | .IfExp t b o _ => tv (ev C G k er sc ρ) k t (fun c σ => cond c (ev C G k er sc ρ b K σ) (ev C G k er sc ρ o K σ)) σ
  | .BoolOp op vs _ => chk (lP op) (opt (two vs) (fun q => ev C G k er sc ρ q.1 (fun v σ => vc v (fun c σ => cond c (K v σ) (ev C G k er sc ρ q.2 K σ)) σ) σ) .bad)
  | .Compare l ops rs _ => opt (ul ops) (fun qo => chk qo.2.isEmpty (opt (vM rs) (fun r => opt (lT qo.1 r)
    (fun q => chk (Nat.beq q.2 0 && er) (ev C G k er sc ρ l (fun a σ => yc a (fun x => K (.dat (.bool (!(xa x [q.1.1, q.1.2])))) σ)) σ))
    (chk (!(behindInMarks qo.1 r)) (ev C G k er sc ρ l (fun a => ev C G k er sc ρ r (fun b => zX qo.1 a b (fun c => K (.dat (.bool c))))) σ))) .bad)) .bad
  | .Call fe args kws pos => chk kws.isEmpty (match fe with
   | .Attribute o name apos => chk (vL args apos pos && !(um o)) (ev C G k er sc ρ o (fun ov σ => chk (lJ ov name) (xj (ev C G k er sc ρ) args (fun vs => uk ov name vs K) σ)) σ)
   | .Name f _ => chk (yB sc ρ f) (opt (xZ f) (fun b => lM (ev C G k er sc ρ) (yB sc ρ) (sr ρ) b args K σ)
     (chk (sv (G f) && !(f == r5)) (xj (ev C G k er sc ρ) args (fun vs σ => eL er (C f vs σ) K) σ)))
   | _ => .bad)
  | .Attribute o name _ => chk (!(um o)) (ev C G k er sc ρ o (fun v => lX v name K) σ)
  | .Subscript o i _ => opt (lU i)
    (fun q => opt q.2.2 (fun st => chk (q.1.isNone && q.2.1.isNone && su st) (ev C G k er sc ρ o (fun ov σ => ug ov (fun l => chk (zi l.length) (K (.dat (.tuple l.reverse)) σ))) σ))
     (ev C G k er sc ρ o (fun ov => part (ev C G k er sc ρ) q.1 (fun l => part (ev C G k er sc ρ) q.2.1 (fun h => eE ov l h K))) σ))
    (opt (sr ρ o) (fun l => ev C G k er sc ρ i (fun iv => indexK (.dat (.list l)) iv K) σ)
     (ev C G k er sc ρ o (fun ov => ev C G k er sc ρ i (fun iv => indexK ov iv K)) σ))
  | .ListComp elt gens scope _ => opt (ul gens) (fun g => chk (g.2.isEmpty && decide (g.1.is_async = 0) && (xC scope.kind && yF sc ρ scope.names scope.names))
    (src (ev C G k er sc ρ) (yB sc ρ) (yK g.1.target) g.1.iter (fun items => compK (fun x => zP scope.names g.1.target x (y6 scope.names ρ))
     (fun ρ' => uj (tv (ev C G k false scope.names ρ') k) g.1.ifs) (fun ρ' => ev C G k false scope.names ρ' elt) items
     (fun ds => K (cond (xP elt g.1.target) (.kin ds) (.dat (.list ds))))) σ)) .bad
  | _ => .bad
noncomputable def vN (d : PyData) : List (List PyData) → Option (List (List PyData))
 | [] => none
 | [l] => some [l ++ [d]]
 | l :: r => (vN d r).map (l :: ·)
noncomputable def forK (B : PyData → zf → Option zf) (X : zf → KR → St → Out) : List PyData → zf → KR → St → Out
 | [], ρ, KN, σ => KN ρ σ
 | x :: r, ρ, KN, σ => opt (B x ρ) (fun ρ' => X ρ' (fun ρ'' => forK B X r ρ'' KN) σ) .bad
noncomputable def lY : Expr → Option (Expr × Expr)
 | .Call f args kws pos => cond kws.isEmpty (match f with
  | .Attribute o m apos => cond (m == wG && Nat.beq apos.endLine pos.line) ((vM args).map (fun a => (o, a))) none
  | _ => none) none
 | _ => none
noncomputable def lZ : Expr → Option Str
 | .Subscript o i _ => cond (su i) (wI o) none
 | _ => none
noncomputable def pR (e : Expr) : Bool := (uo e).elim false List.isEmpty
noncomputable def l0 : Expr → Option (List Expr)
 | .Tuple es _ _ => some es
 | _ => none
noncomputable def vf (e : Expr) : Bool := ((l0 e).bind two).elim false (fun q => ((uo q.1).bind vM).elim false pR && (u5 q.2).elim false (fun i => decide (i = 0)))
noncomputable def ww (ts : List Expr) (e : Expr) : Bool :=
 match e with
 | .Tuple vs _ _ => vs.all (foldedForSure 8) || !(vs.all (constantsAlone 8))
 | _ => true
noncomputable def eO : Expr → Bool
 | .ListComp _ _ _ _ => true
 | .SetComp _ _ _ _ => true
 | .DictComp _ _ _ _ _ => true
 | _ => false
noncomputable def yU (ρ : zf) : Bool := match zt yf ρ with
 | some (.own2 _) => false
 | _ => true
noncomputable def yb (ρ : zf) : Bool := match zt yy ρ with
 | some (.own1 _) => false
 | _ => true
noncomputable def l5 : Sl → Option (List PyData)
 | .own1 l => some l
 | _ => none
noncomputable def r6 : Sl → Option (List (List PyData))
 | .own2 l => some l
 | _ => none
noncomputable def r7 (ρ : zf) (e : Expr) : Option (List (List PyData)) := ((wI e).bind (fun x => zt x ρ)).bind r6
noncomputable def vO (e : Expr) : Bool := (pL e).isSome
noncomputable def eP (op : Operator) (i j : Int) (f : Int → Out) : Out := match op with
 | .Add => f (i + j)
 | .Sub => f (i - j)
 | _ => .bad
noncomputable def l6 (ρ : zf) (x : Str) : Option Int := (((zt x ρ).bind sA).bind xM).bind uf
noncomputable def l7 (e c : Option Expr) : Option Str := cond c.isNone (e.bind (fun a => (sk a).bind (fun q => cond ((vM q.2).elim false vO) (some q.1) none))) none
noncomputable def xs (C : Str → List V → St → Out) (G : Str → Option V) : Nat → Bool → zm → zf → List Stmt → KR → St → Out
 | 0, _, _, _, _, _, _ => .bad
 | _ + 1, _, _, ρ, [], KN, σ => KN ρ σ
 | k + 1, er, sc, ρ, s :: rest, KN, σ => match s with
  | .Expr e _ => cond (vO e) (xs C G k er sc ρ rest KN σ) (opt (lY e)
    (fun q => opt (wI q.1)
     (fun x => opt (zt x ρ) (fun t => opt (l5 t)
       (fun l => ev C G k er sc ρ q.2 (fun v σ => yw v (fun d => chk (zi l.length && zN sc x) (xs C G k er sc (zz x (.own1 (l ++ [d])) ρ) rest KN σ))) σ)
       (opt (r6 t) (fun l => chk (pR q.2 && zi l.length && zN sc x) (xs C G k er sc (zz x (.own2 (l ++ [[]])) ρ) rest KN σ)) .bad)) .bad)
     (opt (lZ q.1) (fun x => opt (zt x ρ) (fun t => opt (r6 t) (fun l => chk (!l.isEmpty) (ev C G k er sc ρ q.2 (fun v σ => yw v (fun d =>
       opt (vN d l) (fun l' => chk (zi (l'.getLastD []).length && zi l.length && zN sc x) (xs C G k er sc (zz x (.own2 l') ρ) rest KN σ)) .bad)) σ)) .bad) .bad) .bad))
    (chk (!(eO e)) (ev C G k er sc ρ e (fun _ => xs C G k er sc ρ rest KN) σ)))
  | .Return o _ => opt o (fun e => opt (r7 ρ e) (fun l => .ok (.dat (.list (l.map .list))) σ) (ev C G k er sc ρ e .ok σ)) .bad
  | .Assign ts e _ => opt (vM ts) (fun t => match t with
   | .Name x _ => chk (zN sc x) (cond (x == yy)
    (opt ((uo e).bind vM) (fun a => chk (yU ρ) (ev C G k er sc ρ a (fun v σ => yw v (fun d => xs C G k er sc (zz x (.own1 [d]) ρ) rest KN σ)) σ)) .bad)
    (ev C G k er sc ρ e (fun v => xs C G k er sc (zz x (.v v) ρ) rest KN) σ))
   | .Tuple us m p => cond (vf e)
    (opt (two us) (fun q => opt (wI q.1) (fun x => opt (wI q.2) (fun y =>
      chk (ww us e && x == yf && yb ρ && !(x == y) && zN sc x && zN sc y) (xs C G k er sc (zz y (.v (.dat (.int 0))) (zz x (.own2 [[]]) ρ)) rest KN σ)) .bad) .bad) .bad)
    (chk (ww us e && yx sc us) (ev C G k er sc ρ e (fun v σ => yw v (fun d => opt (zP sc (.Tuple us m p) d ρ) (fun ρ' => xs C G k er sc ρ' rest KN σ) .bad)) σ))
   | _ => .bad) .bad
  | .AugAssign t op e _ => opt (wI t) (fun x => opt (l6 ρ x) (fun i => ev C G k er sc ρ e (fun v σ => yc v (fun j => chk (zN sc x) (eP op i j (fun n => xs C G k er sc (zz x (.v (.dat (.int n))) ρ) rest KN σ)))) σ) .bad) .bad
  | .If t b o _ => tv (ev C G k er sc ρ) k t (fun c σ => cond c
    (xs C G k er sc ρ b (fun ρ' => xs C G k er sc ρ' rest KN) σ)
    (xs C G k er sc ρ o (fun ρ' => xs C G k er sc ρ' rest KN) σ)) σ
  | .For target iter body orelse _ => chk orelse.isEmpty (src (ev C G k er sc ρ) (yB sc ρ) (yK target) iter (fun items => forK (zP sc target) (fun ρ' => xs C G k false sc ρ' body) items ρ
    (fun ρ' => xs C G k er sc ρ' rest KN)) σ)
  | .Raise e c _ => opt (l7 e c) (fun x => chk (er && yB sc ρ x && x == wH) .err) .bad
  | _ => .bad
structure FnR where
 ps : List Str
 sc : zm
 body : List Stmt
noncomputable def yC (T : Str → Option FnR) (P : Nat → Str → List V → St → Option Out) (G : Str → Option V) : Nat → Str → List V → St → Out
 | 0, _, _, _ => .bad
 | n + 1, f, args, σ => match P n f args σ with
  | some o => o
  | none => match T f with
   | some r => chk (Nat.beq r.ps.length args.length) (xs (yC T P G n) G 100 true r.sc (r.ps.zip (args.map .v)) r.body (fun _ σ => .ok (.dat .none) σ) σ)
   | none => .bad
theorem nn {α : Type} {a : α} {P : Prop} (h : none = some a) : P := nomatch h
theorem ff {P : Prop} (h : false = true) : P := nomatch h
theorem eQ {α : Type} (a : α) (f : α → Out) (d : Out) : opt (some a) f d = f a := rfl
theorem pS (h : z0 i = true) : -(2 ^ 63) ≤ i ∧ i < 2 ^ 63 := by
 cases i with
 | ofNat n => have h : n ≤ 9223372036854775807 := Nat.le_of_ble_eq_true h; refine (Int.ofNat_eq_natCast ..).symm ▸ ?_; exact ⟨by lia, by lia⟩
 | negSucc n => have h : n ≤ 9223372036854775807 := Nat.le_of_ble_eq_true h; refine (Int.negSucc_eq ..).symm ▸ ?_; exact ⟨by lia, by lia⟩
theorem eR (h : rR i = true) : -1073741824 < i ∧ i < 1073741824 := by
 cases i with
 | ofNat n => have h : n ≤ 1073741823 := Nat.le_of_ble_eq_true h; refine (Int.ofNat_eq_natCast ..).symm ▸ ?_; exact ⟨by lia, by lia⟩
 | negSucc n => have h : n ≤ 1073741822 := Nat.le_of_ble_eq_true h; refine (Int.negSucc_eq ..).symm ▸ ?_; exact ⟨by lia, by lia⟩
theorem eS (h1 : -(2 ^ 63) ≤ i) (h2 : i < 2 ^ 63) : z0 i = true := by
 cases i with
 | ofNat n => rw [Int.ofNat_eq_natCast] at h1 h2; exact Nat.ble_eq_true_of_le (by lia)
 | negSucc n => rw [Int.negSucc_eq] at h1 h2; exact Nat.ble_eq_true_of_le (by lia)
theorem zA {α : Type} {o : Option α} {f : α → Out} {out : Out} (h : opt o f .bad = out) (hb : out ≠ .bad) : ∃ a, o = some a ∧ f a = out := by
 cases o with
 | none => exact absurd h.symm hb
 | some a => exact zg a rfl h
theorem yL {α : Type} {o : Option α} {f : α → Out} {d out : Out} (h : opt o f d = out) : (∃ a, o = some a ∧ f a = out) ∨ (o = none ∧ d = out) := by
 cases o with
 | none => exact .inr ⟨rfl, h⟩
 | some a => exact .inl ⟨a, rfl, h⟩
theorem yd {α β : Type} {o : Option α} {f : α → Option β} {b : β} (h : o.bind f = some b) : ∃ a, o = some a ∧ f a = some b := by
 cases o with
 | none => exact nn h
 | some a => exact zg a rfl h
theorem u6 {α β : Type} {o : Option α} {f : α → β} {b : β} (h : o.map f = some b) : ∃ a, o = some a ∧ f a = b := by
 cases o with
 | none => exact nn h
 | some a => exact zg a rfl (Option.some.inj h)
theorem yW {α : Type} {c : Bool} {o : Option α} {b : α} (h : cond c o none = some b) : c = true ∧ o = some b := by
 cases c with
 | false => exact nn h
 | true => exact ⟨rfl, h⟩
theorem vP {α : Type} {o : Option α} {f : α → Bool} (h : o.elim false f = true) : ∃ a, o = some a ∧ f a = true := by
 cases o with
 | none => exact ff h
 | some a => exact zg a rfl h
theorem zO {a b : Bool} (h : (a && b) = true) : a = true ∧ b = true := by
 cases a with
 | false => exact ff h
 | true => exact ⟨rfl, h⟩
theorem x4 {α : Type} {l : List α} (h : l.isEmpty = true) : l = [] := by
 cases l with
 | nil => rfl
 | cons => exact ff h
theorem vQ (h : xM v = some d) : v = .dat d := by
 cases v with
 | dat x => exact (Option.some.inj h ..).symm ▸ rfl
 | _ => exact nn h
theorem eT {t : Tk} (h : sq v = some t) : v = .tok t.1 t.2 := by
 cases v with
 | tok k d => exact (Option.some.inj h ..) ▸ rfl
 | _ => exact nn h
theorem r8 (h : uf d = some i) : d = .int i := by
 cases d with
 | int x => exact (Option.some.inj h ..).symm ▸ rfl
 | _ => exact nn h
theorem pT {i : Str} (h : sd d = some i) : d = .str i := by
 cases d with
 | str x => exact (Option.some.inj h ..).symm ▸ rfl
 | _ => exact nn h
theorem l8 {i : Bool} (h : rS d = some i) : d = .bool i := by
 cases d with
 | bool x => exact (Option.some.inj h ..).symm ▸ rfl
 | _ => exact nn h
theorem u7 {i : List PyData} (h : vF d = some i) : d = .list i := by
 cases d with
 | list x => exact (Option.some.inj h ..).symm ▸ rfl
 | _ => exact nn h
theorem u8 {i : List PyData} (h : vG d = some i) : d = .tuple i := by
 cases d with
 | tuple x => exact (Option.some.inj h ..).symm ▸ rfl
 | _ => exact nn h
theorem l9 {f : PyData → Out} {out : Out} (h : yw v f = out) (hb : out ≠ .bad) : ∃ d, v = .dat d ∧ f d = out := by
 refine zb (zA h hb) fun d e h => ?_
 exact zg d (vQ e) h
theorem eU {f : Int → Out} {out : Out} (h : yc v f = out) (hb : out ≠ .bad) : ∃ i, v = .dat (.int i) ∧ f i = out := by
 refine zb (zA h hb) fun d e h => ?_
 refine zb (zA h hb) fun i e2 h => ?_
 exact zg i (by exact (vQ e ..).symm ▸ (r8 e2 ..).symm ▸ rfl) h
theorem pU {f : Str → Out} {out : Out} (h : se v f = out) (hb : out ≠ .bad) : ∃ i, v = .dat (.str i) ∧ f i = out := by
 refine zb (zA h hb) fun d e h => ?_
 refine zb (zA h hb) fun i e2 h => ?_
 exact zg i (by exact (vQ e ..).symm ▸ (pT e2 ..).symm ▸ rfl) h
theorem eV {f : Bool → Out} {out : Out} (h : pI v f = out) (hb : out ≠ .bad) : ∃ i, v = .dat (.bool i) ∧ f i = out := by
 refine zb (zA h hb) fun d e h => ?_
 refine zb (zA h hb) fun i e2 h => ?_
 exact zg i (by exact (vQ e ..).symm ▸ (l8 e2 ..).symm ▸ rfl) h
theorem eW {f : List PyData → Out} {out : Out} (h : xN v f = out) (hb : out ≠ .bad) : ∃ i, v = .dat (.list i) ∧ f i = out := by
 refine zb (zA h hb) fun d e h => ?_
 refine zb (zA h hb) fun i e2 h => ?_
 exact zg i (by exact (vQ e ..).symm ▸ (u7 e2 ..).symm ▸ rfl) h
theorem eX {f : List PyData → Out} {out : Out} (h : ug v f = out) (hb : out ≠ .bad) : ∃ i, v = .dat (.tuple i) ∧ f i = out := by
 refine zb (zA h hb) fun d e h => ?_
 refine zb (zA h hb) fun i e2 h => ?_
 exact zg i (by exact (vQ e ..).symm ▸ (u8 e2 ..).symm ▸ rfl) h
theorem eY {b : Bool} {o out : Out} (h : chk b o = out) (hb : out ≠ .bad) : b = true ∧ o = out := by
 cases b with
 | false => exact absurd h.symm hb
 | true => exact ⟨rfl, h⟩
theorem u9 {vs : List V} {f : V → Out} {out : Out} (h : x0 vs f = out) (hb : out ≠ .bad) : ∃ v, vs = [v] ∧ f v = out := by
 cases vs with
 | nil => exact absurd h.symm hb
 | cons v r =>
  refine ze (eY h hb) fun e h => ?_
  exact zg v (by exact (x4 e ..).symm ▸ rfl) h
theorem ka {vs : List V} {f : V → V → Out} {out : Out} (h : pO vs f = out) (hb : out ≠ .bad) : ∃ v w, vs = [v, w] ∧ f v w = out := by
 cases vs with
 | nil => exact absurd h.symm hb
 | cons v r =>
  refine zb (u9 (f := f v) h hb) fun w e h => ?_
  exact yj v w (by exact e.symm ▸ rfl) h
theorem pV {α : Type} {l : List α} {x : α} {r : List α} (h : ul l = some (x, r)) : l = x :: r := by
 cases l with
 | nil => exact nn h
 | cons y s => cases h; rfl
theorem uq {l : List Expr} {a : Expr} (h : vM l = some a) : l = [a] := by
 cases l with
 | nil => exact nn h
 | cons y s =>
  refine ze (yW h) fun e h => ?_
  exact (x4 e ..).symm ▸ (Option.some.inj h ..).symm ▸ rfl
theorem r9 {α : Type} {l : List α} {a b : α} (h : two l = some (a, b)) : l = [a, b] := by
 cases l with
 | nil => exact nn h
 | cons y s => cases s with
  | nil => exact nn h
  | cons z s =>
   refine ze (yW h) ?_
   clear h
   intro e h
   refine (x4 e ..).symm ▸ ?_; cases h; rfl
theorem ur (h : wI e = some x) : ∃ p, e = .Name x p := by
 cases e with
 | Name f p => exact ⟨p, by exact (Option.some.inj h ..).symm ▸ rfl⟩
 | _ => exact nn h
theorem kc {c : Const} (h : rU e = some c) : ∃ k p, e = .Constant c k p := by
 cases e with
 | Constant c k p => exact y4 k p (by exact (Option.some.inj h ..).symm ▸ rfl)
 | _ => exact nn h
theorem qa {es : List Expr} (h : uo e = some es) : ∃ p, e = .List es p := by
 cases e with
 | List f p => exact ⟨p, by exact (Option.some.inj h ..).symm ▸ rfl⟩
 | _ => exact nn h
theorem eZ {es : List Expr} (h : l0 e = some es) : ∃ m p, e = .Tuple es m p := by
 cases e with
 | Tuple f m p => exact y4 m p (by exact (Option.some.inj h ..).symm ▸ rfl)
 | _ => exact nn h
theorem da {q : List Expr × Nat} (h : lR e = some q) : ∃ p, e = .Set q.1 q.2 p := by
 cases e with
 | Set f m p => exact ⟨p, by exact (Option.some.inj h ..) ▸ rfl⟩
 | _ => exact nn h
theorem db {q : Option Expr × Option Expr × Option Expr} (h : lU e = some q) : ∃ p, e = .Slice q.1 q.2.1 q.2.2 p := by
 cases e with
 | Slice a b c p => exact ⟨p, by exact (Option.some.inj h ..) ▸ rfl⟩
 | _ => exact nn h
theorem pW {q : Str × List Expr} (h : sk e = some q) : ∃ p pos, e = .Call (.Name q.1 p) q.2 [] pos := by
 cases e with
 | Call f args kws pos =>
  refine zo fun R_ k_ => ?_
  refine ze (yW h) fun e1 h1 => ?_
  refine zb (u6 h1) fun x e2 h2 => ?_
  refine zd (ur e2) fun p e3 => ?_
  refine k_ ?_
  exact y4 p pos (by exact (x4 e1 ..).symm ▸ h2 ▸ e3.symm ▸ rfl)
 | _ => exact nn h
theorem df {c : Const} (h : lN c = some i) : c = .int i := by
 cases c with
 | int x => exact (Option.some.inj h ..).symm ▸ rfl
 | _ => exact nn h
theorem dg {c : Const} {i : Str} (h : pK c = some i) : c = .str i := by
 cases c with
 | str x => exact (Option.some.inj h ..).symm ▸ rfl
 | _ => exact nn h
theorem sC (h : u5 e = some i) : ∃ k p, e = .Constant (.int i) k p := by
 refine zb (yd h) ?_
 clear h
 intro c e1 h
 refine zM (kc e1) fun k p W0 => ?_
 obtain rfl := W0
 exact y4 k p (by exact (df h ..).symm ▸ rfl)
theorem ke {s : Str} (h : pL e = some s) : ∃ k p, e = .Constant (.str s) k p := by
 refine zb (yd h) ?_
 clear h
 intro c e1 h
 refine zM (kc e1) fun k p W0 => ?_
 obtain rfl := W0
 exact y4 k p (by exact (dg h ..).symm ▸ rfl)
theorem ki (h : vO e = true) : ∃ s k p, e = .Constant (.str s) k p := by
 refine zd (Option.isSome_iff_exists.mp h) fun s h => ?_
 exact ⟨s, ke h⟩
theorem dh {op : UnaryOp} (h : lO op = true) : op = .USub := by
 cases op <;> first | rfl | exact ff h
theorem di {op : Operator} (h : pQ op = true) : op = .Mult := by
 cases op <;> first | rfl | exact ff h
theorem dj {op : CmpOp} (h : lQ op = true) : op = .NotIn := by
 cases op <;> first | rfl | exact ff h
theorem dm {op : BoolOp} (h : lP op = true) : op = .Or := by
 cases op <;> first | rfl | exact ff h
theorem dn {op : Bi} (h : lK op = true) : op = .reversed := by
 cases op <;> first | rfl | exact ff h
theorem kj (h : pP e = some i) : ∃ k p q, e = .UnaryOp .USub (.Constant (.int i) k p) q := by
 cases e with
 | UnaryOp op a q =>
  refine ze (yW h) fun e1 h => ?_
  refine zM (sC h) fun k p e2 => ?_
  exact vB k p q (by exact (dh e1 ..).symm ▸ e2.symm ▸ rfl)
 | _ => exact nn h
theorem kl (h : su e = true) : ∃ k p q, e = .UnaryOp .USub (.Constant (.int 1) k p) q := by
 refine zb (vP h) fun i e1 h => ?_
 refine (of_decide_eq_true h ..) ▸ ?_
 exact kj e1
theorem dq {op : Operator} {l : Expr} (h : sy op l = some i) : ∃ k p q, op = .Mult ∧ l = .List [.Constant (.int i) k p] q := by
 refine zo fun R_ k_ => ?_
 refine ze (yW h) fun e1 h => ?_
 refine zb (yd h) fun a h e3 => ?_
 refine zb (yd h) fun es h e4 => ?_
 refine zd (qa h) fun q e5 => ?_
 refine zM (sC e3) fun k p e6 => ?_
 refine k_ ?_
 exact w7 k p q (di e1) (by exact e5.symm ▸ (uq e4 ..).symm ▸ e6.symm ▸ rfl)
theorem dr {q : Expr × Expr} {p : Int × Int} (h : lS q = some p) : ∃ k1 p1 k2 p2, q = (.Constant (.int p.1) k1 p1, .Constant (.int p.2) k2 p2) := by
 refine zo fun R_ k_ => ?_
 obtain ⟨a, b⟩ := q
 refine zb (yd h) fun x e5 h' => ?_
 refine zb (u6 h') fun y e6 h'' => ?_
 refine zM (sC e5) fun k1 p1 e7 => ?_
 refine zM (sC e6) fun k2 p2 e8 => ?_
 refine k_ ?_
 exact vE k1 p1 k2 p2 (by exact h'' ▸ e7 ▸ e8 ▸ rfl)
theorem dt {op : CmpOp} {r : Expr} {q : (Int × Int) × Nat} (h : lT op r = some q) : ∃ k1 p1 k2 p2 p3, op = .NotIn ∧ r = .Set [.Constant (.int q.1.1) k1 p1, .Constant (.int q.1.2) k2 p2] q.2 p3 := by
 refine zo fun R_ k_ => ?_
 refine ze (yW h) fun e1 h1 => ?_
 refine zb (yd h1) fun s e2 h2 => ?_
 refine zb (u6 h2) fun xy h3 e3 => ?_
 refine zb (yd h3) fun ab h4 e4 => ?_
 refine zd (da e2) fun p3 e5 => ?_
 refine t7 (dr e4) fun k1 p1 k2 p2 e6 => ?_
 refine k_ ?_
 refine lw k1 p1 k2 p2 p3 (dj e1) ?_
 rw [e6] at h4
 exact e3 ▸ e5.symm ▸ (r9 h4 ..).symm ▸ rfl
theorem du {o a : Expr} (h : lY e = some (o, a)) : ∃ apos pos, e = .Call (.Attribute o wG apos) [a] [] pos ∧ Nat.beq apos.endLine pos.line = true := by
 cases e with
 | Call f args kws pos =>
  refine ze (yW h) fun e1 h1 => ?_
  clear h
  cases f with
  | Attribute o' m apos =>
   refine zo fun R_ k_ => ?_
   refine ze (yW h1) fun e2 h2 => ?_
   refine zb (u6 h2) fun a' e3 h3 => ?_
   refine ze (zO e2) fun e4 e5 => ?_
   refine ze (Prod.mk.inj h3) fun e6 e7 => ?_
   refine k_ ?_
   exact yj apos pos (by exact (x4 e1 ..).symm ▸ (uq e3 ..).symm ▸ (eq_of_beq e4 ..).symm ▸ e6.symm ▸ e7.symm ▸ rfl) e5
  | _ => exact nn h1
 | _ => exact nn h
theorem dv (h : lZ e = some x) : ∃ px i p, e = .Subscript (.Name x px) i p ∧ su i = true := by
 cases e with
 | Subscript o i p =>
  refine ze (yW h) ?_
  clear h
  intro e1 h
  refine zd (ur h) fun px W0 => ?_
  refine (W0) ▸ ?_
  exact w7 px i p rfl e1
 | _ => exact nn h
theorem km (h : pR e = true) : ∃ p, e = .List [] p := by
 refine zb (vP h) ?_
 clear h
 intro es e1 h
 refine zd (qa e1) fun p W0 => ?_
 refine (W0) ▸ ?_
 exact ⟨p, by exact (x4 h ..).symm ▸ rfl⟩
theorem dw (h : vf e = true) : ∃ p3 p4 kk p5 m2 p6, e = .Tuple [.List [.List [] p3] p4, .Constant (.int 0) kk p5] m2 p6 := by
 refine zo fun R_ k_ => ?_
 refine zb (vP h) fun W0 h h2 => ?_
 obtain ⟨a, b⟩ := W0
 refine zb (yd h) fun es e1 h => ?_
 refine zM (eZ e1) fun m2 p6 W1 => ?_
 obtain rfl := W1
 refine ze (zO h2) fun h3 h4 => ?_
 refine zb (vP h3) fun c h3 e3 => ?_
 refine zb (yd h3) ?_
 clear h3
 intro ls e4 h3
 refine zd (qa e4) fun p4 e4 => ?_
 refine zd (km e3) fun p3 W2 => ?_
 obtain rfl := W2
 refine zb (vP h4) fun i e5 h4 => ?_
 refine zM (sC e5) fun kk p5 e5 => ?_
 refine k_ ?_
 refine ⟨p3, p4, kk, p5, m2, p6, ?_⟩
 exact (r9 h ..).symm ▸ (of_decide_eq_true h4 ..) ▸ (uq h3 ..) ▸ e4 ▸ e5 ▸ rfl
theorem dy {e c : Option Expr} (h : l7 e c = some x) : ∃ p s k q pos, c = none ∧ e = some (.Call (.Name x p) [.Constant (.str s) k q] [] pos) := by
 refine zo fun R_ k_ => ?_
 refine ze (yW h) fun e1 h => ?_
 refine zb (yd h) fun a e2 h => ?_
 refine zb (yd h) fun q e3 h => ?_
 refine ze (yW h) fun e4 h => ?_
 refine zb (vP e4) fun b e5 h5 => ?_
 refine w8 (ki h5) fun s k q' W0 => ?_
 obtain rfl := W0
 refine zM (pW e3) fun p pos e6 => ?_
 refine k_ ?_
 refine lw p s k q' pos (Option.isNone_iff_eq_none.mp e1) ?_
 exact e2.symm ▸ e6.symm ▸ (uq e5 ..).symm ▸ (Option.some.inj h ..).symm ▸ rfl
theorem dA {l : List (List PyData)} (h : r7 ρ e = some l) : ∃ x p, e = .Name x p ∧ zt x ρ = some (.own2 l) := by
 refine zo fun R_ k_ => ?_
 refine zb (yd h) fun t h1 e1 => ?_
 refine zb (yd h1) fun x e2 h2 => ?_
 refine zd (ur e2) fun p e3 => ?_
 refine k_ ?_
 refine yj x p e3 ?_
 refine (h2 ..).symm ▸ ?_
 cases t with
 | own2 l' => exact (Option.some.inj e1 ..).symm ▸ rfl
 | _ => exact nn e1
theorem qb (h : sA t = some v) : t = .v v := by
 cases t with
 | v x => exact (Option.some.inj h ..).symm ▸ rfl
 | _ => exact nn h
theorem dB {l : List PyData} (h : l5 t = some l) : t = .own1 l := by
 cases t with
 | own1 x => exact (Option.some.inj h ..).symm ▸ rfl
 | _ => exact nn h
theorem kn {l : List (List PyData)} (h : r6 t = some l) : t = .own2 l := by
 cases t with
 | own2 x => exact (Option.some.inj h ..).symm ▸ rfl
 | _ => exact nn h
theorem dC (h : l6 ρ x = some i) : zt x ρ = some (.v (.dat (.int i))) := by
 refine zb (yd h) fun d h e1 => ?_
 refine zb (yd h) fun v h e2 => ?_
 refine zb (yd h) fun t h e3 => ?_
 exact h.symm ▸ (qb e3 ..).symm ▸ (vQ e2 ..).symm ▸ (r8 e1 ..).symm ▸ rfl
theorem pX {sc : zm} {t : Expr} {ρ' : zf} (h : zP sc t d ρ = some ρ') : (∃ x p, t = .Name x p ∧ zN sc x = true ∧ zz x (.v (.dat d)) ρ = ρ') ∨
  (∃ ts m p ds, t = .Tuple ts m p ∧ d = .tuple ds ∧ (yx sc ts = true ∧ wF ts = true) ∧ vJ ts ds ρ = some ρ') := by
 cases t with
 | Name x p =>
  refine ze (yW h) fun e h1 => ?_
  exact .inl ⟨x, p, rfl, e, Option.some.inj h1⟩
 | Tuple ts m p =>
  refine zb (yd h) fun ds e1 h1 => ?_
  refine ze (yW h1) fun e h2 => ?_
  exact .inr ⟨ts, m, p, ds, rfl, u8 e1, zO e, h2⟩
 | _ => exact nn h
theorem dD {args : List Expr} {g : Str} {as : List Expr} (h : lL args = some (g, as)) : ∃ p q, args = [.Call (.Name g p) as [] q] ∧ xZ g = some .reversed := by
 cases args with
 | nil => exact nn h
 | cons a r =>
  obtain ⟨e1, h⟩ := yW h
  refine zb (yd h) ?_
  clear h
  intro q e2 h
  refine zb (yd h) ?_
  clear h
  intro b e3 h
  refine ze (yW h) ?_
  clear h
  intro e4 h
  obtain rfl := Option.some.inj h
  refine zM (pW e2) fun p pos W0 => ?_
  refine (W0) ▸ ?_
  refine yj p pos (by exact (x4 e1 ..).symm ▸ rfl) ?_
  exact e3.symm ▸ (dn e4 ..).symm ▸ rfl
end Mine
end
section
open PySem PySem.W PyProof.Rows PySem.Calls PySem.Spec
namespace Mine
variable {F M Mi Z as : List Addr} {g' h h' : Heap} {o : Obj} {L : Addr} {cx : Cx} {u : Value} {x : Str} {σ σ' : St} {A : Around} {s s' : Shared} {env : Env} {vs : List Value} {ds : List PyData} {E Q : Value → Shared → Prop} {Ex : Expr → KV → St → Out}
noncomputable abbrev zc (M : List Addr) (h : Heap) : Heap := hideAll h M
theorem zH {b : Addr} (e : (zc M h).get? b = some o) : h.get? b = some o := of_hideAll M e
theorem zQ {b : Addr} (e : (zc M h).get? b = some o) : b ∉ M := fun hb => by
 rw [hideAll_none M hb] at e; exact nn e
theorem vis_get {b : Addr} (e : h.get? b = some o) (n : b ∉ M) : (zc M h).get? b = some o := hideAll_get M e n
theorem zE : (zc M h).StaysIn h := fun _ _ e => zH e
noncomputable def Kp (X F : List Addr) (h h' : Heap) : Prop :=
 ∀ b o, b ∉ X → h.get? b = some o → (∃ sl, h'.get? b = some { o with slots := sl }) ∧ (b ∉ F → h'.get? b = some o)
theorem Kp.refl {X : List Addr} : Kp X F h h := fun _ o _ e => ⟨⟨o.slots, e⟩, fun _ => e⟩
theorem Kp.trans {X : List Addr} {h₁ h₂ h₃ : Heap} (a : Kp X F h₁ h₂) (b : Kp X F h₂ h₃) : Kp X F h₁ h₃ := fun c o hc e => by
 refine zo fun R_ k_ => ?_
 refine ze (a c o hc e) fun W0 k₁ => ?_
 refine zd (W0) fun sl e₁ => ?_
 refine ze (b c _ hc e₁) fun W1 _ => ?_
 refine zd (W1) fun sl' e₂ => ?_
 refine k_ ?_
 exact ⟨⟨sl', e₂⟩, fun hf => (b c o hc (k₁ hf)).2 hf⟩
theorem Kp.of_keeps {X : List Addr} (k : ∀ b o, b ∉ X → h.get? b = some o → h'.get? b = some o) : Kp X F h h' :=
 fun b o hb e => ⟨⟨o.slots, k b o hb e⟩, fun _ => k b o hb e⟩
theorem Kp.of_all {X : List Addr} (k : ∀ b o, h.get? b = some o → h'.get? b = some o) : Kp X F h h' := .of_keeps fun b o _ e => k b o e
theorem Kp.mono {X X' F' : List Addr} (a : Kp X F h h') (hx : ∀ b ∈ X, b ∈ X') (hf : ∀ b ∈ F, b ∈ F') : Kp X' F' h h' :=
 fun b o hb e => ⟨(a b o (fun z => hb (hx b z)) e).1, fun n => (a b o (fun z => hb (hx b z)) e).2 fun z => n (hf b z)⟩
theorem Kp.ex {X : List Addr} (a : Kp X F h h') {b : Addr} (hb : b ∉ X) (e : h.get? b = some o) : ∃ o', h'.get? b = some o' :=
 let ⟨⟨_, q⟩, _⟩ := a b o hb e; ⟨_, q⟩
theorem Kp.at {X : List Addr} (a : Kp X F h h') {b : Addr} (hb : b ∉ X) (e : h.get? b = some o) (hf : b ∉ F) : h'.get? b = some o :=
 (a b o hb e).2 hf
theorem Kp.ns {X : List Addr} (a : Kp X F h h') {m : Str → Option Value} (hb : L ∉ X) (n : h.Ns L m) : h'.Ns L m := by
 refine xW (n) fun o es ep e hd r => ?_
 refine ze (a L o hb e) fun W0 _ => ?_
 refine zd (W0) fun sl q => ?_
 exact uc _ es ep q hd r
theorem Kp.list {X : List Addr} (a : Kp X F h h') {xs : Array Value} (hb : L ∉ X) (n : h.IsList L xs) : h'.IsList L xs := by
 obtain ⟨o, e, hc, n, hd⟩ := n
 refine ze (a L o hb e) fun W0 _ => ?_
 refine zd (W0) fun sl q => ?_
 exact ⟨_, q, hc, n, hd⟩
theorem Kp.frames {X : List Addr} {base : Heap} (a : Kp X F h h') {l : List Env} (n : h.FunFrames base l) (hx : ∀ e ∈ l, ∀ L, e.frame = .some L → L ∉ X) : h'.FunFrames base l := by
 induction l with
 | nil => trivial
 | cons e r ih =>
  refine zo fun R_ k_ => ?_
  refine yE (n) fun hk W0 hr => ?_
  refine wg (W0) fun L o hf hn ho hd => ?_
  refine ze (a L o (hx e (.head _) L hf) ho) fun W1 _ => ?_
  refine zd (W1) fun sl q => ?_
  refine k_ ?_
  exact yV hk (⟨L, _, hf, hn, q, hd⟩) (ih hr fun e' he => hx e' (.tail _ he))
theorem Kp.seen {X : List Addr} (a : Kp X F h h') (hx : ∀ b ∈ X, b ∈ M) (hf : ∀ b ∈ F, b ∈ M) : (zc M h).StaysIn (zc M h') := fun b o e => by
 have n := zQ e
 exact vis_get (a.at (fun z => n (hx b z)) (zH e) fun z => n (hf b z)) n
theorem Kp.seen_more {X N : List Addr} (a : Kp X F h h') (hx : ∀ b ∈ X, b ∈ M) (hf : ∀ b ∈ F, b ∈ M) (hN : ∀ b ∈ N, b ∈ M ∨ h.get? b = none) : (zc M h).StaysIn (zc N h') := fun b o e => by
 have n := zQ e
 refine vis_get (a.at (fun z => n (hx b z)) (zH e) fun z => n (hf b z)) fun z => ?_
 refine zh (hN b z) (fun q => ?_) fun q => ?_
 ·exact n q
 ·rw [zH e] at q; exact nn q.symm
theorem xk {N : List Addr} (hN : ∀ b ∈ N, b ∈ M) : (zc M h).StaysIn (zc N h) := fun _ _ e => vis_get (zH e) fun z => zQ e (hN _ z)
theorem zZ {a b c : Heap} (x : a.StaysIn b) (y : b.StaysIn c) : a.StaysIn c := fun p o e => y p o (x p o e)
theorem ko {a : Heap} : a.StaysIn a := fun _ _ e => e
structure Cx where
 prog : Program
 w : World
 base : Heap
 mg : Str → Option Value
 mb : Str → Option Value
 tokC : Addr
 lexC : Addr
 errC : Addr
 lex : Option (Addr × Addr)
noncomputable def Cx.X (cx : Cx) : List Addr := match cx.lex with
 | some (_, tl) => [tl]
 | none => []
noncomputable def pY (cx : Cx) (g : Heap) (a : Addr) (l : List (Str × PyData)) : Prop :=
 ∃ f, g.MapOf (strKind cx.prog cx.w) a f ∧ ∀ k, (zG k l = none → f k = none) ∧ (∀ d, zG k l = some d → ∃ v as, f k = some v ∧ Reads g v d as)
noncomputable def xl (cx : Cx) (g : Heap) (u : Value) (k : Str) (d : PyData) : Prop :=
 ∃ a x t n as, u = .ref a ∧ (∃ o dx od, g.get? a = some o ∧ o.cls = .ref cx.tokC ∧ o.data = .seq #[.str k t, x] n ∧ o.dict = some dx ∧ g.get? dx = some od ∧ ∃ m, od = dictOf [] m) ∧ Reads g x d as
noncomputable def xE (cx : Cx) (g : Heap) (lx tl : Addr) : Prop :=
 ∃ dx n kh t, g.get? lx = some (instObj cx.lexC dx) ∧ g.get? dx = some (dictOf [⟨kh, .str "tokens" t, .ref tl⟩] n)
noncomputable def ut (cx : Cx) (f : Addr) : Prop := ∃ o fd, cx.base.get? f = some o ∧ o.data = .func fd
noncomputable def Rp (cx : Cx) (g : Heap) (u : Value) : V → Prop
 | .dat d => ∃ as, Reads g u d as
 | .tok k d => xl cx g u k d
 | .lexer => ∃ lx tl, cx.lex = some (lx, tl) ∧ u = .ref lx
 | .dct l => ∃ a, u = .ref a ∧ pY cx g a l ∧ a ≠ sysModules
 | .kin l => (∃ as, Reads g u (.list l) as) ∧ ∃ a o, u = .ref a ∧ g.get? a = some o ∧ o.dict = none
 | .fn => ∃ f, u = .ref f ∧ ut cx f
theorem Rp.keeps {cx : Cx} {g g' : Heap} (k : g.StaysIn g') {u : Value} {x : V} (r : Rp cx g u x) : Rp cx g' u x := by
 cases x with
 | dat d => refine zd (r) fun as q => ?_; exact ⟨as, Reads.keeps k q⟩
 | tok kk d => refine pC (r) fun a x t n as e W0 q => ?_; refine pA (W0) fun o dx od h1 h2 h3 h4 h5 h6 => ?_; exact pn a x t n as e (⟨o, dx, od, k _ _ h1, h2, h3, h4, k _ _ h5, h6⟩) (Reads.keeps k q)
 | lexer => exact r
 | dct l =>
  refine zo fun R_ k_ => ?_
  refine yv (r) fun a e W1 ns => ?_
  refine zb (W1) fun f W2 q => ?_
  obtain ⟨o, es, ep, ho, r1⟩ := W2
  refine k_ ?_
  refine wb a e (⟨f, ⟨o, es, ep, k _ _ ho, r1⟩, fun kk => ⟨(q kk).1, fun d hd => ?_⟩⟩) ns
  refine zx ((q kk).2 d hd) fun v as h1 h2 => ?_
  exact yj v as h1 (Reads.keeps k h2)
 | kin l =>
  refine zo fun R_ k_ => ?_
  obtain ⟨⟨as, q⟩, a, o, e, ho, hd⟩ := r
  refine k_ ?_
  exact ⟨⟨as, Reads.keeps k q⟩, a, o, e, k _ _ ho, hd⟩
 | fn => exact r
noncomputable def yM (cx : Cx) (g : Heap) : List Value → List V → Prop
 | [], [] => True
 | u :: us, x :: xs => Rp cx g u x ∧ yM cx g us xs
 | _, _ => False
theorem yM.keeps {cx : Cx} {g g' : Heap} (k : g.StaysIn g') : ∀ {us : List Value} {xs : List V}, yM cx g us xs → yM cx g' us xs
 | [], [], _ => trivial
 | _ :: _, _ :: _, r => ⟨r.1.keeps k, yM.keeps k r.2⟩
 | [], _ :: _, r => r.elim
 | _ :: _, [], r => r.elim
theorem yM.length {cx : Cx} {g : Heap} : ∀ {us : List Value} {xs : List V}, yM cx g us xs → us.length = xs.length
 | [], [], _ => rfl
 | _ :: us, _ :: xs, r => by exact length_cons.symm ▸ length_cons.symm ▸ (yM.length r.2 ..).symm ▸ rfl
 | [], _ :: _, r => r.elim
 | _ :: _, [], r => r.elim
noncomputable def zU (env : Env) (h : Heap) (x : Str) (u : Value) : Prop :=
 (env.kindOf x = some .local ∧ ∃ m, h.Ns env.locals m ∧ m x = some u) ∨
 ((env.kindOf x = some .cell ∨ (env.kindOf x = some .free ∧ x ≠ "__classdict__")) ∧ ∃ c o, env.cells.lookup x = some c ∧ h.get? c = some o ∧ o.data = .cell (some u))
noncomputable def zI (h : Heap) (a : Addr) (xs : Array Value) : Prop := ∃ o, h.get? a = some o ∧ o.cls = .type "list" ∧ o.dict = none ∧ ∃ n, o.data = .seq xs n
theorem zI.list {a : Addr} {xs : Array Value} (x : zI h a xs) : h.IsList a xs := let ⟨o, e, c, _, d⟩ := x; ⟨o, e, c, d⟩
theorem zI.next {X : List Addr} (k : Kp X F h h') {xs : Array Value} (hb : L ∉ X) (n : zI h L xs) : zI h' L xs := by
 obtain ⟨o, e, hc, hn, n, hd⟩ := n
 refine ze (k L o hb e) fun W0 _ => ?_
 refine zd (W0) fun sl q => ?_
 exact ⟨_, q, hc, hn, n, hd⟩
noncomputable def zR (h g : Heap) : List Addr → List (List PyData) → Prop
 | [], [] => True
 | b :: bs, l :: ls => (∃ vs as, zI h b vs.toArray ∧ ReadsAll g vs l as) ∧ zR h g bs ls
 | _, _ => False
noncomputable def vh (cx : Cx) (env : Env) (Mi : List Addr) (h g : Heap) (x : Str) : Sl → Prop
 | .v y => ∃ u, zU env h x u ∧ Rp cx g u y
 | .own1 l => x = yy ∧ env.kindOf x = some .local ∧ ∃ a vs as, zU env h x (.ref a) ∧ a ∈ Mi ∧ zI h a vs.toArray ∧ ReadsAll g vs l as
 | .own2 ll => x = yf ∧ env.kindOf x = some .local ∧ ∃ a bs, zU env h x (.ref a) ∧ a ∈ Mi ∧ zI h a (bs.map Value.ref).toArray ∧ (a :: bs).Nodup ∧ (∀ b ∈ bs, b ∈ Mi) ∧ zR h g bs ll
noncomputable def uu (cx : Cx) (g : Heap) : List Value → St → Prop
 | [], [] => True
 | u :: us, t :: ts => xl cx g u t.1 t.2 ∧ uu cx g us ts
 | _, _ => False
theorem xl.keeps {cx : Cx} {g g' : Heap} (k : g.StaysIn g') {u : Value} {kk : Str} {d : PyData} (r : xl cx g u kk d) : xl cx g' u kk d := by
 refine pC (r) fun a x t n as e W0 q => ?_
 refine pA (W0) fun o dx od h1 h2 h3 h4 h5 h6 => ?_; exact pn a x t n as e (⟨o, dx, od, k _ _ h1, h2, h3, h4, k _ _ h5, h6⟩) (Reads.keeps k q)
theorem uu.keeps {cx : Cx} {g g' : Heap} (k : g.StaysIn g') : ∀ {us : List Value} {ts : St}, uu cx g us ts → uu cx g' us ts
 | [], [], _ => trivial
 | _ :: _, _ :: _, r => ⟨r.1.keeps k, uu.keeps k r.2⟩
 | [], _ :: _, r => r.elim
 | _ :: _, [], r => r.elim
noncomputable def zq (cx : Cx) (h g : Heap) (σ : St) : Prop := match cx.lex with
 | none => True
 | some (lx, tl) => xE cx g lx tl ∧ zi σ.length = true ∧ ∃ us, zI h tl us.reverse.toArray ∧ uu cx g us σ
noncomputable def Fs (A : Around) : List Addr := (A.frames.getD []).filterMap (·.frame)
structure EnvOk (env : Env) : Prop where
 kind : env.scope.kind = .function
 globals : env.globals = mainGlobals
 builtins : env.builtins = builtinsNs
structure Ok (cx : Cx) (A : Around) (M : List Addr) (h : Heap) (σ : St) : Prop where
 stays : cx.base.StaysIn (zc M h)
 live : ∀ b ∈ M, ∃ o, h.get? b = some o
 frames : ∃ frs, A.frames = some frs ∧ h.FunFrames cx.base frs
 fin : ∀ b ∈ Fs A, b ∈ M
 fx : ∀ b ∈ Fs A, b ∉ cx.X
 xin : ∀ b ∈ cx.X, b ∈ M
 lex : zq cx h (zc M h) σ
theorem xE.keeps {g : Heap} {lx tl : Addr} (k : g.StaysIn g') (x : xE cx g lx tl) : xE cx g' lx tl :=
 let ⟨dx, n, kh, t, e1, e2⟩ := x; ⟨dx, n, kh, t, k _ _ e1, k _ _ e2⟩
theorem zq.step {g : Heap} (x : zq cx h g σ) (k : g.StaysIn g') (e : ∀ b ∈ cx.X, ∀ vs, zI h b vs → zI h' b vs) : zq cx h' g' σ := by
 unfold zq at x ⊢
 cases hl : cx.lex with
 | none => trivial
 | some p =>
  refine zo fun R_ k_ => ?_
  obtain ⟨lx, tl⟩ := p
  simp only [hl] at x ⊢
  obtain ⟨lo, hf, us, hi, ht⟩ := x
  refine k_ ?_
  exact ⟨lo.keeps k, hf, us, e tl (by simp [Cx.X, hl]) _ hi, ht.keeps k⟩
structure Sa (cx : Cx) (A : Around) (env : Env) (Mi Mo : List Addr) (ρ : zf) (σ : St) (h : Heap) : Prop where
 ok : Ok cx A (Mi ++ Mo) h σ
 ek : EnvOk env
 ns : ∃ m, h.Ns env.locals m
 lin : env.locals ∈ Mi
 xo : ∀ b ∈ cx.X, b ∈ Mo
 dis : ∀ b ∈ Mi, b ∉ Mo
 loc : ∀ x s, zt x ρ = some s → vh cx env Mi h (zc (Mi ++ Mo) h) x s
 two : yb ρ = true ∨ yU ρ = true
structure Nx (cx : Cx) (A : Around) (s s' : Shared) : Prop where
 eq : s' = { s with heap := s'.heap, toks := s'.toks }
 kp : Kp cx.X (Fs A) s.heap s'.heap
theorem Nx.refl {cx : Cx} {A : Around} {s : Shared} : Nx cx A s s := ⟨rfl, .refl⟩
theorem Nx.trans {cx : Cx} {A : Around} {s₁ s₂ s₃ : Shared} (a : Nx cx A s₁ s₂) (b : Nx cx A s₂ s₃) : Nx cx A s₁ s₃ :=
 ⟨by exact b.eq.symm ▸ a.eq.symm ▸ rfl, a.kp.trans b.kp⟩
theorem Nx.toks {cx : Cx} {A : Around} {s : Shared} (n : Nat) : Nx cx A s { s with toks := n } := ⟨rfl, .refl⟩
theorem Nx.all {n : Nat} (k : ∀ b o, s.heap.get? b = some o → h.get? b = some o) : Nx cx A s { s with heap := h, toks := n } := ⟨rfl, .of_all k⟩
theorem Nx.push {cx : Cx} {A : Around} {s : Shared} (o : Obj) : Nx cx A s { s with heap := s.heap.push o } := ⟨rfl, .of_all fun _ _ e => Heap.get?_push_of_some _ e⟩
theorem zq.lists {g : Heap} (x : zq cx h g σ) : ∀ b ∈ cx.X, ∃ vs, h.IsList b vs := by
 intro b hb
 unfold Cx.X at hb
 unfold zq at x
 cases hl : cx.lex with
 | none => replace hb := (hl ..) ▸ hb; cases hb
 | some p =>
  obtain ⟨lx, tl⟩ := p
  rw [hl] at x hb
  rcases mem_singleton.mp hb with rfl
  obtain ⟨_, _, us, hi, _⟩ := x
  exact ⟨_, hi.list⟩
noncomputable def wJ (Z : List Addr) (h : Heap) : Prop := ∀ b ∈ Z, ∀ o, h.get? b = some o → ∀ v, o.data ≠ .cell v
theorem wJ.lists (x : ∀ b ∈ Z, ∃ vs, h.IsList b vs) : wJ Z h := fun b hb o e v d => by
 obtain ⟨vs, o', e', _, n, d'⟩ := x b hb
 rw [e] at e'; obtain rfl := Option.some.inj e'; rw [d] at d'; injection d'
theorem zU.next (k : Kp Z F h h') (hL : env.locals ∉ Z) (hZ : wJ Z h) (l : zU env h x u) : zU env h' x u := by
 rcases l with ⟨hk, m, hn, hm⟩ | ⟨hk, c, o, hc, ho, hd⟩
 ·exact .inl ⟨hk, m, k.ns hL hn, hm⟩
 ·refine ze (k c o (fun z => hZ c z o ho _ hd) ho) fun W0 _ => ?_
  refine zd (W0) fun sl q => ?_
  exact .inr ⟨hk, c, _, hc, q, hd⟩
theorem yk (k : h.StaysIn h') (r : ReadsAll h vs ds as) : ReadsAll h' vs ds as := ReadsAll.keeps k r
theorem zR.next {X F : List Addr} {h h' g g' : Heap} (k : Kp X F h h') (kg : g.StaysIn g') : ∀ {bs : List Addr} {ls : List (List PyData)}, (∀ b ∈ bs, b ∉ X) → zR h g bs ls → zR h' g' bs ls
 | [], [], _, _ => trivial
 | b :: _, _ :: _, hx, ⟨⟨vs, as, hl, hr⟩, r⟩ => ⟨⟨vs, as, hl.next k (hx b (.head _)), yk kg hr⟩, zR.next k kg (fun c hc => hx c (.tail _ hc)) r⟩
 | [], _ :: _, _, r => r.elim
 | _ :: _, [], _, r => r.elim
theorem vh.next {cx : Cx} {env : Env} {Mi Z : List Addr} {F : List Addr} {h h' g g' : Heap} {x : Str} {s : Sl} (k : Kp Z F h h') (kg : g.StaysIn g') (hL : env.locals ∈ Mi) (hM : ∀ b ∈ Mi, b ∉ Z) (hZ : wJ Z h)
  (l : vh cx env Mi h g x s) : vh cx env Mi h' g' x s := by
 cases s with
 | v y => refine zb (l) fun u h1 h2 => ?_; exact zg u (h1.next k (hM _ hL) hZ) (h2.keeps kg)
 | own1 l' =>
  obtain ⟨e, ek, a, vs, as, h1, h2, h4, h5⟩ := l
  exact ⟨e, ek, a, vs, as, h1.next k (hM _ hL) hZ, h2, h4.next k (hM _ h2), yk kg h5⟩
 | own2 ll =>
  obtain ⟨e, ek, a, bs, h1, h2, h4, h5, h6, h7⟩ := l
  exact ⟨e, ek, a, bs, h1.next k (hM _ hL) hZ, h2, h4.next k (hM _ h2), h5, h6, zR.next k kg (fun b hb => hM _ (h6 b hb)) h7⟩
theorem Ok.step (O : Ok cx A M h σ) (k : Kp Z (Fs A) h h') (hZ : ∀ b ∈ Z, b ∈ M) (hf : ∀ b ∈ Fs A, b ∉ Z) (hl : ∀ b ∈ Z, ∃ o, h'.get? b = some o) (l : zq cx h' (zc M h') σ') : Ok cx A M h' σ' where
 stays := zZ O.stays (k.seen hZ O.fin)
 live := fun b hb => by
  by_cases hx : b ∈ Z
  ·exact hl b hx
  ·refine zd (O.live b hb) fun o e => ?_; exact k.ex hx e
 frames := by
  refine zb (O.frames) fun frs e f => ?_
  exact zg frs e (k.frames f fun env he L hL => hf L (by unfold Fs; rw [e]; exact mem_filterMap.mpr ⟨env, he, hL⟩))
 fin := O.fin
 fx := O.fx
 xin := O.xin
 lex := l
theorem zq.live {g : Heap} (l : zq cx h g σ) : ∀ b ∈ cx.X, ∃ o, h.get? b = some o := fun b hb => by
 refine zx (l.lists b hb) fun vs o e _ => ?_; exact ⟨o, e⟩
theorem Ok.next (O : Ok cx A M h σ) (k : Kp cx.X (Fs A) h h') (l : zq cx h' (zc M h') σ') : Ok cx A M h' σ' :=
 O.step k O.xin O.fx l.live l
theorem Sa.step {cx : Cx} {A : Around} {env : Env} {Mi Mo Z : List Addr} {ρ : zf} {σ σ' : St} {h h' : Heap} (S : Sa cx A env Mi Mo ρ σ h) (k : Kp Z (Fs A) h h') (hZ : ∀ b ∈ Z, b ∈ Mo) (hf : ∀ b ∈ Fs A, b ∉ Z) (hl : ∀ b ∈ Z, ∃ o, h'.get? b = some o)
  (hc : wJ Z h) (l : zq cx h' (zc (Mi ++ Mo) h') σ') : Sa cx A env Mi Mo ρ σ' h' where
 ok := S.ok.step k (fun b hb => mem_append_right _ (hZ b hb)) hf hl l
 ek := S.ek
 ns := let ⟨m, hm⟩ := S.ns; ⟨m, k.ns (fun z => S.dis _ S.lin (hZ _ z)) hm⟩
 lin := S.lin
 xo := S.xo
 dis := S.dis
 loc := fun x s e => (S.loc x s e).next k (k.seen (fun b hb => mem_append_right _ (hZ b hb)) S.ok.fin) S.lin (fun b hb hz => S.dis b hb (hZ b hz)) hc
 two := S.two
theorem Sa.next {Mo : List Addr} {ρ : zf} (S : Sa cx A env Mi Mo ρ σ h) (k : Kp cx.X (Fs A) h h') (l : zq cx h' (zc (Mi ++ Mo) h') σ') : Sa cx A env Mi Mo ρ σ' h' :=
 S.step k S.xo S.ok.fx l.live (.lists S.ok.lex.lists) l
theorem zq.kept (x : zq cx h (zc M h) σ) (k : ∀ b o, h.get? b = some o → h'.get? b = some o) : zq cx h' (zc M h') σ :=
 x.step (fun b o e => vis_get (k b o (zH e)) (zQ e)) fun b _ vs hl => by
  refine zb (hl) fun o e r => ?_; exact zg o (k _ _ e) r
noncomputable def Kf (X : List Addr) (h h' : Heap) : Prop := ∀ b o, b ∉ X → h.get? b = some o → (∀ vs, o.data ≠ .fields vs) → ∃ sl, h'.get? b = some { o with slots := sl }
theorem Kf.back {X : List Addr} {h₁ h₂ h₃ : Heap} (a : Kp X F h₁ h₂) (b : Kf X h₂ h₃) : Kf X h₁ h₃ := fun c o hc e hd => by
 refine ze (a c o hc e) fun W0 _ => ?_
 refine zd (W0) fun sl q => ?_
 refine zd (b c _ hc q hd) fun sl' q' => ?_
 exact ⟨sl', q'⟩
structure ErrE (cx : Cx) (A : Around) (er : Bool) (out : Out) (s : Shared) (e : Value) (s' : Shared) : Prop where
 er : er = true
 out : out = .err
 eq : s' = { s with heap := s'.heap, toks := s'.toks }
 fly : ∃ frs ea a0, A.frames = some frs ∧ e = .ref ea ∧ Heap.FlyingW cx.base frs ea (.ref cx.errC) a0 s'.heap
 kf : Kf cx.X s.heap s'.heap
theorem ErrE.back {cx : Cx} {A : Around} {er : Bool} {out : Out} {s s₁ s' : Shared} {e : Value} (n : Nx cx A s s₁) (x : ErrE cx A er out s₁ e s') : ErrE cx A er out s e s' :=
 ⟨x.er, x.out, by exact x.eq.symm ▸ n.eq.symm ▸ rfl, x.fly, Kf.back n.kp x.kf⟩
structure Rm (A : Around) (n : Nat) : Prop where
 handled : A.handled = none
 depth : A.depth + n ≤ 990
 units : A.units + 4 * n + 300 ≤ 9900
noncomputable def yt (cx : Cx) (A : Around) (er : Bool) (env : Env) (Mi Mo : List Addr) (ρ : zf) (Ex : Expr → KV → St → Out) : Prop :=
 ∀ e K σ out s (Q E : Value → Shared → Prop), Ex e K σ = out → out ≠ .bad → Sa cx A env Mi Mo ρ σ s.heap →
  (∀ x σ' v s', K x σ' = out → Nx cx A s s' → Rp cx (zc (Mi ++ Mo) s'.heap) v x → zq cx s'.heap (zc (Mi ++ Mo) s'.heap) σ' → Q v s') →
  (∀ e s', ErrE cx A er out s e s' → E e s') → wpAny (model cx.prog cx.w) A (eval e env) Q E s
noncomputable def x5 (cx : Cx) (n : Nat) (C : Str → List V → St → Out) : Prop :=
 ∀ f args σ out fa, C f args σ = out → out ≠ .bad → cx.mg f = some (.ref fa) →
  ∀ A M s vals (Q E : Value → Shared → Prop), Rm A n → Ok cx A M s.heap σ → yM cx (zc M s.heap) vals args →
  (∀ x σ' v s', out = .ok x σ' → Nx cx A s s' → Rp cx (zc M s'.heap) v x → zq cx s'.heap (zc M s'.heap) σ' → Q v s') →
  (∀ e s', ErrE cx A true out s e s' → E e s') → wpAny (model cx.prog cx.w) A (call (.ref fa) vals) Q E s
structure Wd (cx : Cx) (G : Str → Option V) : Prop where
 g : cx.base.Ns mainGlobals cx.mg
 b : cx.base.Ns builtinsNs cx.mb
 nolimit : cx.base.NoLimit
 glob : ∀ x v, G x = some v → ∃ u, cx.mg x = some u ∧ Rp cx cx.base u v
 bi : ∀ x f, xZ x = some f → cx.mg x = none
 bv : cx.mb rY = some (.builtin "len") ∧ cx.mb rZ = some (.builtin "max") ∧ cx.mb r4 = some (.builtin "any") ∧ cx.mb xO = some (.type "tuple") ∧
  cx.mb rW = some (.type "enumerate") ∧ cx.mb rX = some (.type "zip") ∧ cx.mb ve = some (.type "reversed")
theorem wK (x : Str) : ∀ l : zm, zD x l = l.lookup x
 | [] => rfl
 | (y, k) :: r => by
  rw [zD, lookup_cons, wK x r]
  cases h : x == y <;> rfl
theorem zr {b : Bool} {o out : Out} (h : chk b o = out) (hb : out ≠ .bad) : b = true ∧ o = out := by
 cases b with
 | true => exact ⟨rfl, h⟩
 | false => exact absurd h.symm hb
section
variable {cx : Cx} {A : Around} {er : Bool} {env : Env} {Mi Mo : List Addr} {ρ : zf} {σ : St} {out : Out} {s : Shared} {n : Nat}
noncomputable abbrev Mod (cx : Cx) : Model := model cx.prog cx.w
theorem Sa.to (S : Sa cx A env Mi Mo ρ σ s.heap) (N : Nx cx A s s') (l : zq cx s'.heap (zc (Mi ++ Mo) s'.heap) σ') : Sa cx A env Mi Mo ρ σ' s'.heap := S.next N.kp l
theorem Sa.seen {s' : Shared} (S : Sa cx A env Mi Mo ρ σ s.heap) (N : Nx cx A s s') : (zc (Mi ++ Mo) s.heap).StaysIn (zc (Mi ++ Mo) s'.heap) := N.kp.seen S.ok.xin S.ok.fin
theorem Sa.base {h : Heap} (S : Sa cx A env Mi Mo ρ σ h) : cx.base.StaysIn h := zZ S.ok.stays zE
theorem Sa.lexkept (S : Sa cx A env Mi Mo ρ σ h) (k : ∀ b o, h.get? b = some o → h'.get? b = some o) : zq cx h' (zc (Mi ++ Mo) h') σ := S.ok.lex.kept k
theorem Sa.fresh (S : Sa cx A env Mi Mo ρ σ h) (hf : o.isFreed = false := by rfl) : (zc (Mi ++ Mo) (h.push o)).get? h.objs.size = some o :=
 vis_get (Heap.get?_push_size _ hf) fun hb => by
  refine zd (S.ok.live _ hb) fun o' e => ?_
  exact Nat.lt_irrefl _ (Heap.lt_size e)
theorem xF (ek : EnvOk env) (l : zU env s.heap x u) (h : Q u s) : wpAny (Mod cx) A (loadName env x) Q E s := by
 rcases l with ⟨hk, m, hn, hm⟩ | ⟨hk, c, o, hc, ho, hd⟩
 ·exact wpAny_loadName_local ek.kind hk hn hm h
 ·refine xL hk (fun hk => ?_) fun hk hn => ?_
  ·exact wpAny_loadName_cell ek.kind hk hc ⟨_, ho, hd⟩ h
  ·exact wpAny_loadName_free ek.kind hk hc ⟨_, ho, hd⟩ h (by
    cases e : x == ("__classdict__" : Str) with
    | false => rfl
    | true => exact absurd (eq_of_beq e) hn)
theorem kq {G : Str → Option V} (W : Wd cx G) (ek : EnvOk env) (st : cx.base.StaysIn s.heap) (hx : env.kindOf x = some .globalImplicit) (hd : (x == ("__debug__" : Str)) = false)
  (hm : cx.mg x = some u) (h : Q u s) {pos : Pos} : wpAny (Mod cx) A (eval (.Name x pos) env) Q E s :=
 Name_function_global ek.kind hx (loadGlobal_global (by rw [ek.globals]; exact W.g.keeps st) hm h) hd
theorem kr {G : Str → Option V} (W : Wd cx G) (ek : EnvOk env) (st : cx.base.StaysIn s.heap) (hx : env.kindOf x = some .globalImplicit) (hd : (x == ("__debug__" : Str)) = false)
  (hm : cx.mg x = none) (hb : cx.mb x = some u) (h : Q u s) {pos : Pos} : wpAny (Mod cx) A (eval (.Name x pos) env) Q E s :=
 Name_function_global ek.kind hx (loadGlobal_builtin (by rw [ek.globals]; exact W.g.keeps st) hm (by rw [ek.builtins]; exact W.b.keeps st) hb h) hd
theorem wL {e : Expr} {r : List Expr} (h : (!(xb e)) = true) : starEach (e :: r) env = (false, eval e env) :: starEach r env := by
 cases e <;> first | rfl | exact ff h
theorem Tu {pos : Pos} {t : Sem Value} {r : List (Bool × Sem Value)} : backTo pos ((false, t) :: r) = (false, t) :: backTo pos r := rfl
theorem wx {g : Heap} {x : V} {f : PyData → Out} (h : yw x f = out) (hb : out ≠ .bad) (R : Rp cx g u x) : ∃ d, (∃ as, Reads g u d as) ∧ f d = out := by
 refine zb (l9 h hb) fun d W0 h1 => ?_
 obtain rfl := W0
 exact zg d R h1
theorem pZ {Ex : Expr → KV → St → Out} (SE : yt cx A er env Mi Mo ρ Ex) (pos : Pos) : ∀ es K σ s (Q : List Value → Shared → Prop) (E : Value → Shared → Prop), uh Ex es K σ = out → out ≠ .bad → Sa cx A env Mi Mo ρ σ s.heap →
  (∀ ds σ' vs s', K ds σ' = out → Nx cx A s s' → (∃ as, ReadsAll (zc (Mi ++ Mo) s'.heap) vs ds as) → zq cx s'.heap (zc (Mi ++ Mo) s'.heap) σ' → Q vs s') →
  (∀ e s', ErrE cx A er out s e s' → E e s') → wpAny (Mod cx) A (spliced (backTo pos (starEach es env))) Q E s
 | [], K, σ, s, Q, E, h, hb, S, hQ, hE => spliced_nil (hQ [] σ [] s h .refl ⟨_, .nil⟩ S.ok.lex)
 | e :: r, K, σ, s, Q, E, h, hb, S, hQ, hE => by
  refine ze (zr h hb) fun hs h' => ?_
  refine (wL hs ..).symm ▸ ?_
  refine spliced_cons (SE e _ σ out s _ _ h' hb S (fun x σ₁ v s₁ hK N₁ R₁ L₁ => ?_) hE)
  refine zb (wx hK hb R₁) fun d W0 hK => ?_
  obtain ⟨as, ra⟩ := W0
  refine pZ SE pos r _ σ₁ s₁ _ _ hK hb (S.to N₁ L₁) (fun ds σ₂ vs s₂ hK₂ N₂ R₂ L₂ => ?_) fun e' s' x => hE _ _ (x.back N₁)
  obtain ⟨bs, rb⟩ := R₂
  exact hQ _ σ₂ _ s₂ hK₂ (N₁.trans N₂) ⟨_, .cons (Reads.keeps ((S.to N₁ L₁).seen N₂) ra) rb⟩ L₂
theorem uv (pos : Pos) : ∀ es : List Expr, u0 es = true → (backTo pos (starEach es env)).any (·.1) = false
 | [], _ => rfl
 | e :: r, h => by
  refine ze (zO h) fun h1 h2 => ?_
  refine (wL h1 ..).symm ▸ ?_; exact uv pos r h2
theorem kt {Ex : Expr → KV → St → Out} (SE : yt cx A er env Mi Mo ρ Ex) (pos : Pos) : ∀ es K σ s (Q : List Value → Shared → Prop) (E : Value → Shared → Prop), u0 es = true → pJ Ex es K σ = out → out ≠ .bad → Sa cx A env Mi Mo ρ σ s.heap →
  (∀ ds σ' vs s', K ds σ' = out → Nx cx A s s' → yM cx (zc (Mi ++ Mo) s'.heap) vs ds → zq cx s'.heap (zc (Mi ++ Mo) s'.heap) σ' → Q vs s') →
  (∀ e s', ErrE cx A er out s e s' → E e s') → wpAny (Mod cx) A (spliced (backTo pos (starEach es env))) Q E s
 | [], K, σ, s, Q, E, _, h, hb, S, hQ, hE => spliced_nil (hQ [] σ [] s h .refl trivial S.ok.lex)
 | e :: r, K, σ, s, Q, E, hs, h, hb, S, hQ, hE => by
  refine ze (zO hs) fun h1 h2 => ?_
  refine (wL h1 ..).symm ▸ ?_
  refine spliced_cons (SE e _ σ out s _ _ h hb S (fun x σ₁ v s₁ hK N₁ R₁ L₁ => ?_) hE)
  refine kt SE pos r _ σ₁ s₁ _ _ h2 hK hb (S.to N₁ L₁) (fun ds σ₂ vs s₂ hK₂ N₂ R₂ L₂ => ?_) fun e' s' x => hE _ _ (x.back N₁)
  exact hQ _ σ₂ _ s₂ hK₂ (N₁.trans N₂) ⟨R₁.keeps ((S.to N₁ L₁).seen N₂), R₂⟩ L₂
theorem ta (SE : yt cx A er env Mi Mo ρ Ex) (pos : Pos) {f : Value} {es : List Expr} {K : List V → St → Out} {Q : Args → Shared → Prop} (h : xj Ex es K σ = out) (hb : out ≠ .bad) (S : Sa cx A env Mi Mo ρ σ s.heap)
  (hQ : ∀ ds σ' vs s', K ds σ' = out → Nx cx A s s' → yM cx (zc (Mi ++ Mo) s'.heap) vs ds → zq cx s'.heap (zc (Mi ++ Mo) s'.heap) σ' → Q ⟨vs, []⟩ s')
  (hE : ∀ e s', ErrE cx A er out s e s' → E e s') : wpAny (Mod cx) A (evalArgs f true (backTo pos (starEach es env)) []) Q E s := by
 refine ze (zr h hb) ?_
 clear h
 intro hs h
 cases es with
 | nil => exact evalArgs_nil3 (hQ [] σ [] s h .refl trivial S.ok.lex)
 | cons e r =>
  obtain hp := (zO hs).1
  obtain q := kt SE pos (e :: r) K σ s _ E hs h hb S hQ hE
  rw [wL hp] at q ⊢
  exact evalArgs_plain q
theorem yN {m : Nat} (h : zi m = true) : m ≤ sizeLine := by
 rw [sizeLine_eq]
 exact Nat.le_of_ble_eq_true h
theorem dE {g : Heap} (h : ReadsAll g vs [] as) : vs = [] := by cases h; rfl
theorem dF {g : Heap} {d : PyData} (h : ReadsAll g vs (d :: ds) as) {R : Prop} (k : ∀ v ws a b, vs = v :: ws → Reads g v d a → ReadsAll g ws ds b → R) : R := by
 cases h with
 | cons h t => exact k _ _ _ _ rfl h t
theorem rall_ind {g : Heap} {M : List Value → List PyData → Prop} (h0 : M [] []) (h1 : ∀ v ws d ds a b, Reads g v d a → ReadsAll g ws ds b → M ws ds → M (v :: ws) (d :: ds)) : ∀ {vs : List Value} {ds : List PyData} {as : List Addr}, ReadsAll g vs ds as → M vs ds := by
 intro vs ds as h
 induction ds generalizing vs as with
 | nil => exact (dE h).symm ▸ h0
 | cons d ds ih => exact dF h fun v ws a b e h t => e.symm ▸ h1 v ws d ds a b h t (ih t)
theorem wi : ∀ {vs : List Value} {ds : List PyData} {as : List Addr}, ReadsAll h vs ds as → vs.length = ds.length :=
 rall_ind (M := fun vs ds => vs.length = ds.length) rfl fun _ _ _ _ _ _ _ _ e => congrArg (· + 1) e
theorem dG (S : Sa cx A env Mi Mo ρ σ s.heap) (r : ∃ as, ReadsAll (zc (Mi ++ Mo) s.heap) vs ds as) (hf : zi ds.length = true)
  (h : ∀ v s', Nx cx A s s' → Rp cx (zc (Mi ++ Mo) s'.heap) v (.dat (.tuple ds)) → zq cx s'.heap (zc (Mi ++ Mo) s'.heap) σ → Q v s') : wpAny (Mod cx) A (newTuple vs) Q E s := by
 refine zd (r) fun as r => ?_
 obtain e := wi r
 refine wpAny_newTuple (h _ _ (.push _) ⟨as, reads_tuple_at (as := as) (S.fresh (o := { cls := .type "tuple", data := .seq vs.toArray })) rfl rfl ?_⟩ (S.lexkept fun b o e => Heap.get?_push_of_some _ e)) (by rw [e]; exact yN hf)
 show ReadsAll _ vs.toArray.toList ds _
 exact ReadsAll.keeps (Sa.seen S (Nx.push _)) r
theorem dH (S : Sa cx A env Mi Mo ρ σ s.heap) (r : ∃ as, ReadsAll (zc (Mi ++ Mo) s.heap) vs ds as) (hf : zi ds.length = true)
  (h : ∀ v s', Nx cx A s s' → Rp cx (zc (Mi ++ Mo) s'.heap) v (.dat (.list ds)) → zq cx s'.heap (zc (Mi ++ Mo) s'.heap) σ → Q v s') : wpAny (Mod cx) A (newList vs) Q E s := by
 refine zd (r) fun as r => ?_
 obtain e := wi r
 refine wpAny_newList (h _ _ (.push _) ⟨_, reads_list_at (as := as) (S.fresh (o := { cls := .type "list", data := .seq vs.toArray })) rfl rfl ?_⟩ (S.lexkept fun b o e => Heap.get?_push_of_some _ e)) (by rw [e]; exact yN hf)
 show ReadsAll _ vs.toArray.toList ds _
 exact ReadsAll.keeps (Sa.seen S (Nx.push _)) r
end
end Mine
end
section
open PySem PySem.W PyProof.Rows PySem.Calls PySem.Spec
set_option maxRecDepth 100000
namespace Mine
variable {i j : Int} {f name x : Str} {g' h h' : Heap} {L a : Addr} {vs : List Value} {t : Tok} {e elt iter o slice target value : Expr} {k : Nat} {M Mi' Z as : List Addr} {y : V} {K : KV} {ss : List Str} {v : Value} {E Q : Value → Shared → Prop} {Ex : Expr → KV → St → Out} {σ : St} {s s' s₁ : Shared} {apos epos p p1 p2 px : Pos} {m : Str → Option Value} {d : PyData} {ρ ρ' : zf} {env : Env} {scope : Scope} {es ifs : List Expr}
section
variable {cx : Cx} {A : Around} {env : Env} {Mi Mo : List Addr} {ρ : zf} {σ : St} {out : Out} {s : Shared} {n : Nat} {u v : Value} {Q E : Value → Shared → Prop}
theorem wM {g : Heap} (r : Rp cx g u (.dat (.int i))) : ∃ t, u = .int i t := by
 refine zd (r) fun as r => ?_; refine zb (reads_int_inv r) fun t e _ => ?_; exact ⟨t, e⟩
theorem vi {g : Heap} {i : Str} (r : Rp cx g u (.dat (.str i))) : ∃ t, u = .str i t := by
 refine zd (r) fun as r => ?_; refine zb (reads_str_inv r) fun t e _ => ?_; exact ⟨t, e⟩
theorem p8 {g : Heap} {i : Bool} (r : Rp cx g u (.dat (.bool i))) : u = .bool i := by
 refine zd (r) fun as r => ?_; exact (reads_bool_inv r).1
theorem ku {g : Heap} (r : Rp cx g u (.dat .none)) : u = .none := by
 refine zd (r) fun as r => ?_; exact (reads_none_inv r).1
theorem yX {g : Heap} {l : List PyData} (r : Rp cx g u (.dat (.list l))) : ∃ a vs as, u = .ref a ∧ g.IsList a vs.toArray ∧ ReadsAll g vs l as ∧ vs.length = l.length := by
 refine zd (r) fun as r => ?_
 obtain ⟨a, o, vs, n, bs, e, h1, h2, h3, h4, _⟩ := reads_list_inv r
 exact vC a (vs.toList) bs e (⟨o, h1, h2, n, by trivial⟩) h4 (wi h4)
theorem vR {g : Heap} {l : List PyData} (r : Rp cx g u (.dat (.tuple l))) : ∃ a vs as, u = .ref a ∧ IsTup g a vs.toArray ∧ ReadsAll g vs l as ∧ vs.length = l.length := by
 refine zd (r) fun as r => ?_
 refine pB (reads_tuple_inv r) fun a o vs n e h1 h2 h3 h4 => ?_
 exact vC a (vs.toList) as e (⟨o, h1, h2, n, by trivial⟩) h4 (wi h4)
theorem yY {g : Heap} {x : V} {f : Int → Out} (h : yc x f = out) (hb : out ≠ .bad) (R : Rp cx g u x) : ∃ i t, u = .int i t ∧ f i = out := by
 refine zb (eU h hb) fun i W0 h1 => ?_
 obtain rfl := W0
 obtain ⟨t, e⟩ := wM R
 exact yj i t e h1
theorem dI {g : Heap} {x : V} {f : Str → Out} (h : se x f = out) (hb : out ≠ .bad) (R : Rp cx g u x) : ∃ i t, u = .str i t ∧ f i = out := by
 refine zb (pU h hb) fun i W0 h1 => ?_
 obtain rfl := W0
 obtain ⟨t, e⟩ := vi R
 exact yj i t e h1
theorem dJ {g : Heap} {x : V} {f : Bool → Out} (h : pI x f = out) (hb : out ≠ .bad) (R : Rp cx g u x) : ∃ i, u = .bool i ∧ f i = out := by
 refine zb (eV h hb) fun i W0 h1 => ?_
 obtain rfl := W0
 exact zg i (p8 R) h1
theorem vj {g : Heap} {x : V} {f : List PyData → Out} (h : xN x f = out) (hb : out ≠ .bad) (R : Rp cx g u x) : ∃ l, Rp cx g u (.dat (.list l)) ∧ f l = out := by
 refine zb (eW h hb) fun i W0 h1 => ?_
 obtain rfl := W0
 exact zg i R h1
theorem qc {g : Heap} {x : V} {f : List PyData → Out} (h : ug x f = out) (hb : out ≠ .bad) (R : Rp cx g u x) : ∃ l, Rp cx g u (.dat (.tuple l)) ∧ f l = out := by
 refine zb (eX h hb) fun i W0 h1 => ?_
 obtain rfl := W0
 exact zg i R h1
theorem tc {g : Heap} {x : V} {f : PyData → Out} (h : opt (xM x) f .bad = out) (hb : out ≠ .bad) (R : Rp cx g u x) : ∃ d, Rp cx g u (.dat d) ∧ f d = out := wx h hb R
theorem yZ {g : Heap} (k : g.StaysIn h) {vs : Array Value} (x : g.IsList a vs) : h.IsList a vs := let ⟨o, e, r⟩ := x; ⟨o, k _ _ e, r⟩
theorem vk {g : Heap} (k : g.StaysIn h) {vs : Array Value} (x : IsTup g a vs) : IsTup h a vs := let ⟨o, e, r⟩ := x; ⟨o, k _ _ e, r⟩
theorem y0 {g : Heap} : Rp cx g (.int i t) (.dat (.int i)) := ⟨_, .int i t⟩
theorem qd {g : Heap} {b : Bool} : Rp cx g (.bool b) (.dat (.bool b)) := ⟨_, .bool b⟩
theorem kv {g : Heap} {i : Str} : Rp cx g (.str i t) (.dat (.str i)) := ⟨_, .str i t⟩
theorem qe {g : Heap} : Rp cx g .none (.dat .none) := ⟨_, .none⟩
theorem td {g : Heap} : ∀ {vs ws : List Value} {ds es : List PyData} {as bs : List Addr}, ReadsAll g vs ds as → ReadsAll g ws es bs → ∃ cs, ReadsAll g (vs ++ ws) (ds ++ es) cs := fun {_ ws _ es _ bs} h r =>
 rall_ind (M := fun vs ds => ∃ cs, ReadsAll g (vs ++ ws) (ds ++ es) cs) ⟨bs, r⟩ (fun _ _ _ _ _ _ h _ ih => ih.elim fun _ q => ⟨_, .cons h q⟩) h
theorem qf {o : Obj} (S : Sa cx A env Mi Mo ρ σ s.heap) : Nx cx A s { s with heap := s.heap.push o } ∧ zq cx (s.heap.push o) (zc (Mi ++ Mo) (s.heap.push o)) σ :=
 ⟨.push _, S.lexkept fun _ _ e => Heap.get?_push_of_some _ e⟩
noncomputable abbrev Fin (cx : Cx) (A : Around) (M : List Addr) (σ : St) (s : Shared) (x : V) (Q : Value → Shared → Prop) : Prop :=
 ∀ w s', Nx cx A s s' → Rp cx (zc M s'.heap) w x → zq cx s'.heap (zc M s'.heap) σ → Q w s'
theorem sD {x : V} {w : Value} (S : Sa cx A env Mi Mo ρ σ s.heap) (h : Fin cx A (Mi ++ Mo) σ s x Q) (r : Rp cx (zc (Mi ++ Mo) s.heap) w x) : Q w { s with toks := k } := h _ _ (.toks k) r S.ok.lex
theorem p9 {l : List PyData} {ws : List Value} {arr : Array Value} (S : Sa cx A env Mi Mo ρ σ s.heap) (h : Fin cx A (Mi ++ Mo) σ s (.dat (.list l)) Q) (r : ReadsAll (zc (Mi ++ Mo) s.heap) ws l as) (e : arr = ws.toArray) :
  Q (.ref s.heap.objs.size) { s with heap := s.heap.push { cls := .type "list", data := .seq arr k } } := by
 subst e
 refine h _ _ (.push _) ⟨_, reads_list_at (as := as) (S.fresh (o := { cls := .type "list", data := .seq ws.toArray k })) rfl rfl ?_⟩ (qf S).2
 show ReadsAll _ ws.toArray.toList l _
 exact ReadsAll.keeps (Sa.seen S (Nx.push _)) r
theorem sF {l : List PyData} {ws : List Value} {arr : Array Value} (S : Sa cx A env Mi Mo ρ σ s.heap) (h : Fin cx A (Mi ++ Mo) σ s (.dat (.tuple l)) Q) (r : ReadsAll (zc (Mi ++ Mo) s.heap) ws l as) (e : arr = ws.toArray) :
  Q (.ref s.heap.objs.size) { s with heap := s.heap.push { cls := .type "tuple", data := .seq arr k } } := by
 subst e
 refine h _ _ (.push _) ⟨as, reads_tuple_at (as := as) (S.fresh (o := { cls := .type "tuple", data := .seq ws.toArray k })) rfl rfl ?_⟩ (qf S).2
 show ReadsAll _ ws.toArray.toList l _
 exact ReadsAll.keeps (Sa.seen S (Nx.push _)) r
theorem dK {x y : List PyData} (S : Sa cx A env Mi Mo ρ σ s.heap) (ru : Rp cx (zc (Mi ++ Mo) s.heap) u (.dat (.list x))) (rv : Rp cx (zc (Mi ++ Mo) s.heap) v (.dat (.list y))) (hf : zi (x.length + y.length) = true)
  (h : Fin cx A (Mi ++ Mo) σ s (.dat (.list (x ++ y))) Q) : wpAny (Mod cx) A (binaryOp .Add u v) Q E s := by
 refine zo fun R_ k_ => ?_
 refine zW (yX ru) fun a vs as W0 hl r1 e1 => ?_
 obtain rfl := W0
 refine zW (yX rv) fun b ws bs W1 hm r2 e2 => ?_
 obtain rfl := W1
 obtain ⟨cs, r3⟩ := td r1 r2
 obtain ⟨⟨cls, dd, data, sl⟩, ho, hc, n, hd⟩ := yZ zE hl
 obtain ⟨⟨cls2, dd2, data2, sl2⟩, ho2, hc2, n2, hd2⟩ := yZ zE hm
 refine k_ ?_
 simp only at hc hd hc2 hd2
 subst hc hd hc2 hd2
 refine concat_meets ⟨_, ho, rfl⟩ ⟨_, ho2, rfl⟩ noFill_list_add seq_list_add PySem.F.slot_list_add PySem.F.entry_list_add (PySem.F.args_list_add_2 _ _)
  (list_addW a b vs.toArray ws.toArray n n2 dd dd2 sl sl2 (by obtain this := yN hf; simp only [size_toArray]; lia)) ⟨ho, ho2, ?_⟩
 exact p9 S h r3 (by simp)
theorem dL {x y : List PyData} (S : Sa cx A env Mi Mo ρ σ s.heap) (ru : Rp cx (zc (Mi ++ Mo) s.heap) u (.dat (.tuple x))) (rv : Rp cx (zc (Mi ++ Mo) s.heap) v (.dat (.tuple y))) (hf : zi (x.length + y.length) = true)
  (h : Fin cx A (Mi ++ Mo) σ s (.dat (.tuple (x ++ y))) Q) : wpAny (Mod cx) A (binaryOp .Add u v) Q E s := by
 have ru' := ru
 have rv' := rv
 refine zW (vR ru) fun a vs as W0 hl r1 e1 => ?_
 obtain rfl := W0
 refine zW (vR rv) fun b ws bs W1 hm r2 e2 => ?_
 obtain rfl := W1
 obtain ⟨cs, r3⟩ := td r1 r2
 obtain ⟨⟨cls, dd, data, sl⟩, ho, hc, n, hd⟩ := vk zE hl
 obtain ⟨⟨cls2, dd2, data2, sl2⟩, ho2, hc2, n2, hd2⟩ := vk zE hm
 simp only at hc hd hc2 hd2
 subst hc hd hc2 hd2
 by_cases hv : vs = []
 ·subst hv
  cases x with
  | cons _ _ => simp at e1
  | nil =>
   exact concat_meets ⟨_, ho, rfl⟩ ⟨_, ho2, rfl⟩ noFill_tuple_add seq_tuple_add PySem.F.slot_tuple_add PySem.F.entry_tuple_add (PySem.F.args_tuple_add_2 _ _)
    (tuple_addW0 a b _ ws.toArray n n2 dd dd2 sl sl2 rfl) ⟨ho, ho2, h _ _ .refl rv' S.ok.lex⟩
 ·by_cases hw : ws = []
  ·subst hw
   cases y with
   | cons _ _ => simp at e2
   | nil =>
    exact concat_meets ⟨_, ho, rfl⟩ ⟨_, ho2, rfl⟩ noFill_tuple_add seq_tuple_add PySem.F.slot_tuple_add PySem.F.entry_tuple_add (PySem.F.args_tuple_add_2 _ _)
     (tuple_addW1 a b vs.toArray _ n n2 dd dd2 sl sl2 (by simpa using hv) rfl) ⟨ho, ho2, h _ _ .refl (by refine (append_nil ..).symm ▸ ?_; exact ru') S.ok.lex⟩
  ·refine concat_meets ⟨_, ho, rfl⟩ ⟨_, ho2, rfl⟩ noFill_tuple_add seq_tuple_add PySem.F.slot_tuple_add PySem.F.entry_tuple_add (PySem.F.args_tuple_add_2 _ _)
    (tuple_addW2 a b vs.toArray ws.toArray n n2 dd dd2 sl sl2 (by simpa using hv) (by simpa using hw) (by obtain this := yN hf; simp only [size_toArray]; lia)) ⟨ho, ho2, ?_⟩
   exact sF S h r3 (by simp)
theorem dM {op : Operator} {a b : V} (hk : Rm A n) (S : Sa cx A env Mi Mo ρ σ s.heap) (ru : Rp cx (zc (Mi ++ Mo) s.heap) u a) (rv : Rp cx (zc (Mi ++ Mo) s.heap) v b) (ho : zl op a b K σ = out) (hb : out ≠ .bad)
  (h : ∀ x, K x σ = out → Fin cx A (Mi ++ Mo) σ s x Q) : wpAny (Mod cx) A (binaryOp op u v) Q E s := by
 cases op with
 | Add =>
  refine zb (tc (f := fun d => opt (uf d) _ _) ho hb ru) fun d ru ho => ?_
  refine y9 (yL ho) (fun i e ho => ?_) fun _ ho => ?_
  ·replace ru := (r8 e ..) ▸ ru
   refine zd (wM ru) fun t W0 => ?_
   refine (W0) ▸ ?_
   refine zx (yY ho hb rv) fun j t' W1 ho => ?_
   obtain rfl := W1
   exact PyProof.Rows.add_int (sD S (h _ ho) y0)
  refine y9 (yL ho) (fun i e ho => ?_) fun _ ho => ?_
  ·rw [u7 e] at ru
   refine zb (vj ho hb rv) fun l rv ho => ?_
   refine ze (zr ho hb) fun hc ho => ?_
   exact dK S ru rv hc (h _ ho)
  refine zb (zA ho hb) fun i e ho => ?_
  rw [u8 e] at ru
  refine zb (qc ho hb rv) fun l rv ho => ?_
  refine ze (zr ho hb) fun hc ho => ?_
  exact dL S ru rv hc (h _ ho)
 | Sub =>
  refine zx (yY (f := fun x => yc b _) ho hb ru) fun i t W2 ho => ?_
  obtain rfl := W2
  refine zx (yY ho hb rv) fun j t' W3 ho => ?_
  obtain rfl := W3
  exact PyProof.Rows.sub_int (sD S (h _ ho) y0)
 | FloorDiv =>
  refine zx (yY (f := fun x => yc b _) ho hb ru) fun i t W4 ho => ?_
  obtain rfl := W4
  refine zx (yY ho hb rv) fun j t' W5 ho => ?_
  obtain rfl := W5
  refine ze (zr ho hb) fun hc ho => ?_
  refine ze (zO hc) fun h1 h2 => ?_
  exact PyProof.Rows.floordiv_int (of_decide_eq_false (Bool.not_eq_true' _ ▸ h2)) (sD S (h _ ho) y0) (.inl (PyProof.noPylong_small (by obtain this := eR h1; (first | lia | omega))))
 | Mod =>
  refine zx (yY (f := fun x => yc b _) ho hb ru) fun i t W6 ho => ?_
  obtain rfl := W6
  refine zx (yY ho hb rv) fun j t' W7 ho => ?_
  obtain rfl := W7
  refine ze (zr ho hb) fun hc ho => ?_
  exact PyProof.Rows.mod_int (of_decide_eq_false (Bool.not_eq_true' _ ▸ hc)) (sD S (h _ ho) y0)
 | Mult =>
  refine zx (yY (f := fun x => yc b _) ho hb ru) fun i t W8 ho => ?_
  obtain rfl := W8
  refine zx (yY ho hb rv) fun j t' W9 ho => ?_
  obtain rfl := W9
  refine ze (zr ho hb) fun hc ho => ?_
  obtain h1 := pS (zO hc).1
  exact PyProof.Rows.mul_int (sD S (h _ ho) y0) (IntMulOk.of_left (intBits_le_64 (by lia) (by lia)))
 | _ => exact absurd ho.symm hb
end
section
variable {cx : Cx} {A : Around} {env : Env} {Mi Mo : List Addr} {ρ : zf} {σ : St} {out : Out} {s : Shared} {n : Nat} {u v : Value} {Q E : Value → Shared → Prop}
noncomputable abbrev sG (cx : Cx) (A : Around) (M : List Addr) (σ : St) (s : Shared) (b : Bool) (Q : Value → Shared → Prop) : Prop :=
 ∀ s', Nx cx A s s' → zq cx s'.heap (zc M s'.heap) σ → Q (.bool b) s'
theorem kx (x y : Str) : (x.cps.toList == y.cps.toList) = (x == y) := by
 rw [Bool.eq_iff_iff]
 simp only [beq_iff_eq]
 constructor
 ·intro h; cases x; cases y; simp only [Str.mk.injEq]; exact Array.toList_inj.mp h
 ·rintro rfl; rfl
theorem ky (x y : Int) : (x == y) = decide (x = y) := by
 rw [Bool.eq_iff_iff]; rfl
theorem dN {x y : PyData} {K : Bool → St → Out} (hk : Rm A n) (S : Sa cx A env Mi Mo ρ σ s.heap) (ru : Rp cx (zc (Mi ++ Mo) s.heap) u (.dat x)) (rv : Rp cx (zc (Mi ++ Mo) s.heap) v (.dat y)) (ho : uZ x y K σ = out) (hb : out ≠ .bad)
  (h : ∀ b, K b σ = out → sG cx A (Mi ++ Mo) σ s b Q) : wpAny (Mod cx) A (compareOp .Eq u v) Q E s := by
 unfold uZ at ho
 split at ho
 ·refine zd (wM ru) fun t W0 => ?_
  obtain rfl := W0; refine zd (wM rv) fun t' W1 => ?_; obtain rfl := W1
  exact PyProof.Rows.eq_int (by rw [ky]; exact h _ ho _ .refl S.ok.lex)
 ·refine zd (vi ru) fun t W2 => ?_
  obtain rfl := W2; refine zd (vi rv) fun t' W3 => ?_; obtain rfl := W3
  exact P.eq_str (by rw [kx]; exact h _ ho _ .refl S.ok.lex)
 ·refine ze (zr ho hb) fun hc ho => ?_
  simp only [Bool.and_eq_true] at hc
  refine zd (ru) fun as r1 => ?_
  refine zd (rv) fun bs r2 => ?_
  exact eq_dataH (Reads.keeps zE r1) (Reads.keeps zE r2) hc.1 hc.2 (by obtain this := hk.units; rw [cLine_is]; lia) (h _ ho _ .refl S.ok.lex)
theorem dO {x y : PyData} {K : Bool → St → Out} (hk : Rm A n) (S : Sa cx A env Mi Mo ρ σ s.heap) (ru : Rp cx (zc (Mi ++ Mo) s.heap) u (.dat x)) (rv : Rp cx (zc (Mi ++ Mo) s.heap) v (.dat y)) (ho : uZ x y (fun c => K (!c)) σ = out) (hb : out ≠ .bad)
  (h : ∀ b, K b σ = out → sG cx A (Mi ++ Mo) σ s b Q) : wpAny (Mod cx) A (compareOp .NotEq u v) Q E s := by
 dsimp only [uZ] at ho
 split at ho
 ·refine zd (wM ru) fun t W0 => ?_
  obtain rfl := W0; refine zd (wM rv) fun t' W1 => ?_; obtain rfl := W1
  exact PyProof.Rows.ne_int (by rw [bne, ky]; exact h _ ho _ .refl S.ok.lex)
 ·refine zd (vi ru) fun t W2 => ?_
  obtain rfl := W2; refine zd (vi rv) fun t' W3 => ?_; obtain rfl := W3
  exact P.ne_str (by rw [bne, kx]; exact h _ ho _ .refl S.ok.lex)
 ·refine ze (zr ho hb) fun hc ho => ?_
  simp only [Bool.and_eq_true] at hc
  refine zd (ru) fun as r1 => ?_
  refine zd (rv) fun bs r2 => ?_
  exact ne_dataH (Reads.keeps zE r1) (Reads.keeps zE r2) hc.1 hc.2 (by obtain this := hk.units; rw [cLine_is]; lia) (h _ ho _ .refl S.ok.lex)
theorem og (x : Str) : ∀ ys : List Str, ys.any (· == x) = zu x ys
 | [] => rfl
 | y :: r => by
  rw [List.any_cons, zu, og x r]
  obtain e : (y == x) = (x == y) := by rw [Bool.eq_iff_iff]; simp only [beq_iff_eq]; exact eq_comm
  rw [e]; cases (x == y) <;> rfl
theorem kz (x : Int) : ∀ ys : List Int, ys.any (· == x) = xa x ys
 | [] => rfl
 | y :: r => by
  rw [List.any_cons, xa, kz x r]
  obtain e : (y == x) = decide (x = y) := by rw [Bool.eq_iff_iff]; simp only [beq_iff_eq, decide_eq_true_eq]; exact eq_comm
  rw [e]; cases decide (x = y) <;> rfl
theorem qg {g : Heap} : ∀ {vs : List Value} {l : List PyData} {as : List Addr} {ss : List Str}, ReadsAll g vs l as → wt l = some ss → StrsAre vs ss := fun {_ _ _ ss} h e =>
 rall_ind (M := fun vs l => ∀ ss, wt l = some ss → StrsAre vs ss) (fun _ e => Option.some.inj e ▸ .nil) (fun v ws d ds a b h _ ih ss e => by
  cases d with
  | str x =>
   refine zb (reads_str_inv h) fun tk e3 _ => ?_
   refine zb (Option.map_eq_some_iff.mp e) fun r e1 e4 => ?_
   exact e3.symm ▸ e4 ▸ .cons x tk (ih r e1)
  | _ => exact nn e) h ss e
theorem kD {g : Heap} : ∀ {vs : List Value} {l : List PyData} {as : List Addr} {ss : List Int}, ReadsAll g vs l as → va l = some ss → IntsAre vs ss := fun {_ _ _ ss} h e =>
 rall_ind (M := fun vs l => ∀ ss, va l = some ss → IntsAre vs ss) (fun _ e => Option.some.inj e ▸ .nil) (fun v ws d ds a b h _ ih ss e => by
  cases d with
  | int x =>
   refine zb (reads_int_inv h) fun tk e3 _ => ?_
   refine zb (Option.map_eq_some_iff.mp e) fun r e1 e4 => ?_
   exact e3.symm ▸ e4 ▸ .cons x tk (ih r e1)
  | _ => exact nn e) h ss e
noncomputable def qh (x : Str) : Value → Bool
 | .str y _ => y == x
 | _ => false
theorem dP : ∀ {vs : List Value} {ss : List Str}, StrsAre vs ss → ∀ y ∈ vs, SeqAt.EqAt A s y (.str x t) (qh x y) := by
 intro vs ss h
 induction h with
 | nil => intro y h; exact nomatch h
 | cons z tz r ih =>
  intro y h
  refine (mem_cons.mp h).elim (fun e => ?_) (ih y)
  refine (e ..).symm ▸ ?_; intro prog w E Q hq; exact PyProof.Rows.eqBool_str hq
theorem dQ : ∀ {vs : List Value} {ss : List Str}, StrsAre vs ss → vs.any (qh x) = ss.any (· == x) := by
 intro vs ss h
 induction h with
 | nil => rfl
 | cons z tz r ih => exact congrArg ((z == x) || ·) ih
theorem kE (hl : s.heap.IsList a vs.toArray) (hi : StrsAre vs ss) (h : Q (.bool (zu x ss)) s) :
  wpAny (Mod cx) A (compareOp .In (.str x t) (.ref a)) Q E s :=
 SeqAt.in_listAt (qh x) hl (fun y hy => dP hi y (by simpa using hy)) (by rw [← Array.any_toList]; show Q (.bool (vs.any (qh x))) s; rw [dQ hi, og]; exact h)
theorem kF {g : Heap} {l : List (Str × PyData)} (D : pY cx g a l) : ∃ f, g.MapOf (strKind cx.prog cx.w) a f ∧ (∀ k, (f k).isSome = (zG k l).isSome) ∧ (∀ k d, zG k l = some d → ∃ v as, f k = some v ∧ Reads g v d as) := by
 refine zb (D) fun f hm hf => ?_
 refine wb f hm (fun k => ?_) (fun k => (hf k).2)
 cases e : zG k l with
 | none => rw [(hf k).1 e]; rfl
 | some d => refine zx ((hf k).2 d e) fun v as e' _ => ?_; rw [e']; rfl
theorem sH {g : Heap} (k : g.StaysIn h) {f : Str → Option Value} (m : g.MapOf (strKind cx.prog cx.w) a f) : h.MapOf (strKind cx.prog cx.w) a f :=
 let ⟨o, es, ep, e, r⟩ := m; ⟨o, es, ep, k _ _ e, r⟩
theorem kG (h : a ≠ sysModules) : (a == sysModules) = false := beq_eq_false_iff_ne.mpr h
theorem kH {a b : V} {K : Bool → St → Out} (S : Sa cx A env Mi Mo ρ σ s.heap) (ru : Rp cx (zc (Mi ++ Mo) s.heap) u a) (rv : Rp cx (zc (Mi ++ Mo) s.heap) v b) (ho : vH a b K σ = out) (hb : out ≠ .bad)
  (h : ∀ b, K b σ = out → sG cx A (Mi ++ Mo) σ s b Q) : wpAny (Mod cx) A (compareOp .In u v) Q E s := by
 have hss : ∀ {s' l K'}, rT s' l K' σ = out → ∃ ss, wt l = some ss ∧ K' (zu s' ss) σ = out := fun ho => by
  refine zb (zA ho hb) fun ss he ho => ?_
  exact zg ss he ((zr ho hb).2)
 refine zb (tc (f := fun d => opt (sd d) _ _) ho hb ru) fun d ru ho => ?_
 refine y9 (yL ho) (fun i e ho => ?_) fun _ ho => ?_
 ·rw [pT e] at ru
  refine zd (vi ru) fun t W0 => ?_
  refine (W0) ▸ ?_
  cases b with
  | dat d' =>
   refine y9 (yL ho) (fun l e ho => ?_) fun _ ho => ?_
   ·rw [u8 e] at rv
    refine zb (hss ho) fun ss he ho => ?_
    refine zW (vR rv) fun a vs as W1 ht r1 _ => ?_
    refine (W1) ▸ ?_
    exact in_tuple_strs (vk zE ht) (qg r1 he) (by rw [og]; exact h _ ho _ .refl S.ok.lex)
   ·refine zb (zA ho hb) fun l e ho => ?_
    rw [u7 e] at rv
    refine zb (hss ho) fun ss he ho => ?_
    refine zW (yX rv) fun a vs as W2 ht r1 _ => ?_
    refine (W2) ▸ ?_
    exact kE (yZ zE ht) (qg r1 he) (h _ ho _ .refl S.ok.lex)
  | dct l =>
   refine zo fun R_ k_ => ?_
   refine yv (rv) fun a W3 D ns => ?_
   obtain rfl := W3
   refine yv (kF D) fun f hm hs _ => ?_
   refine k_ ?_
   exact wpAny_in_of (strKind_is _ _ _ _) (kG ns) (sH zE hm) (by rw [hs]; exact h _ ho _ (.toks _) S.ok.lex)
  | kin l =>
   refine zb (hss ho) fun ss he ho => ?_
   refine zW (yX (cx := cx) rv.1) fun a vs as W4 ht r1 _ => ?_
   refine (W4) ▸ ?_
   exact kE (yZ zE ht) (qg r1 he) (h _ ho _ .refl S.ok.lex)
  | _ => exact absurd ho.symm hb
 ·refine zb (zA ho hb) fun i e ho => ?_
  replace ru := (r8 e ..) ▸ ru
  refine zd (wM ru) fun t W5 => ?_
  refine (W5) ▸ ?_
  refine zb (qc ho hb rv) ?_
  clear rv ho
  intro l rv ho
  refine zb (zA ho hb) fun ss he ho => ?_
  refine ze (zr ho hb) fun _ ho => ?_
  refine zW (vR rv) fun a vs as W6 ht r1 _ => ?_
  refine (W6) ▸ ?_
  exact in_tuple_ints (vk zE ht) (kD r1 he) (by rw [kz]; exact h _ ho _ .refl S.ok.lex)
theorem dR {a b : V} {K : Bool → St → Out} (S : Sa cx A env Mi Mo ρ σ s.heap) (ru : Rp cx (zc (Mi ++ Mo) s.heap) u a) (rv : Rp cx (zc (Mi ++ Mo) s.heap) v b) (ho : vH a b (fun c => K (!c)) σ = out) (hb : out ≠ .bad)
  (h : ∀ b, K b σ = out → sG cx A (Mi ++ Mo) σ s b Q) : wpAny (Mod cx) A (compareOp .NotIn u v) Q E s := by
 refine wpAny_bind ?_
 obtain base := kH (s := s) (Q := fun c s' => ∃ b, c = .bool b ∧ Q (.bool (!b)) s') (E := E) S ru rv ho hb fun b e s' N L => (zg b rfl (h _ e s' N L))
 have base' : wpAny (Mod cx) A (contains v u >>= fun c => (pure (Value.bool c) : Sem Value)) (fun c s' => ∃ b, c = Value.bool b ∧ Q (.bool (!b)) s') E s := base
 intro Γ p hΓ
 obtain q := base' Γ p hΓ
 rw [Sem.wp_bind'] at q
 refine Sem.wp_mono _ _ _ (fun a p' s' h' => ?_) (fun _ _ _ x => x) p s q
 have h'' : ∃ b, Value.bool a = .bool b ∧ Q (.bool (!b)) s' := h'
 refine zb (h'') fun b e hq => ?_
 (injection e with e; subst e)
 exact fun _ _ _ => hq
theorem kI {g : Heap} {a : V} (r : Rp cx g u a) : plainIs u .none = true := by
 cases a with
 | dat d =>
  obtain ⟨as, r⟩ := r
  cases r <;> rfl
 | tok k d => refine rL (r) fun a x t n as W0 _ => ?_; refine (W0) ▸ ?_; rfl
 | lexer => refine zx (r) fun lx tl _ W1 => ?_; refine (W1) ▸ ?_; rfl
 | dct l => refine zb (r) fun a W2 _ => ?_; refine (W2) ▸ ?_; rfl
 | kin l => obtain ⟨_, a, o, rfl, _⟩ := r; rfl
 | fn => refine zb (r) fun a W3 _ => ?_; refine (W3) ▸ ?_; rfl
theorem kJ {g : Heap} {a : V} (r : Rp cx g u a) : (u == Value.none) = isNone a := by
 cases a with
 | dat d =>
  obtain ⟨as, r⟩ := r
  cases r <;> rfl
 | tok k d => refine rL (r) fun a x t n as W0 _ => ?_; refine (W0) ▸ ?_; rfl
 | lexer => refine zx (r) fun lx tl _ W1 => ?_; refine (W1) ▸ ?_; rfl
 | dct l => refine zb (r) fun a W2 _ => ?_; refine (W2) ▸ ?_; rfl
 | kin l => obtain ⟨_, a, o, rfl, _⟩ := r; rfl
 | fn => refine zb (r) fun a W3 _ => ?_; refine (W3) ▸ ?_; rfl
theorem kK {v : V} (h : isNone v = true) : v = .dat .none := by
 cases v with
 | dat d => cases d with
  | none => rfl
  | _ => exact ff h
 | _ => exact ff h
theorem dT {op : CmpOp} {a b : V} {K : Bool → St → Out} (hk : Rm A n) (S : Sa cx A env Mi Mo ρ σ s.heap) (ru : Rp cx (zc (Mi ++ Mo) s.heap) u a) (rv : Rp cx (zc (Mi ++ Mo) s.heap) v b) (ho : zX op a b K σ = out) (hb : out ≠ .bad)
  (h : ∀ b, K b σ = out → sG cx A (Mi ++ Mo) σ s b Q) : wpAny (Mod cx) A (compareOp op u v) Q E s := by
 cases op with
 | Eq =>
  refine zb (wx (f := fun x => yw b _) ho hb ru) fun x ru ho => ?_
  refine zb (wx ho hb rv) fun y rv ho => ?_
  exact dN hk S ru rv ho hb h
 | NotEq =>
  refine zb (wx (f := fun x => yw b _) ho hb ru) fun x ru ho => ?_
  refine zb (wx ho hb rv) fun y rv ho => ?_
  exact dO hk S ru rv ho hb h
 | Lt =>
  refine zx (yY (f := fun x => yc b _) ho hb ru) fun i t W0 ho => ?_
  obtain rfl := W0
  refine zx (yY ho hb rv) fun j t' W1 ho => ?_
  obtain rfl := W1
  exact PyProof.Rows.lt_int (h _ ho _ .refl S.ok.lex)
 | Gt =>
  refine zx (yY (f := fun x => yc b _) ho hb ru) fun i t W2 ho => ?_
  obtain rfl := W2
  refine zx (yY ho hb rv) fun j t' W3 ho => ?_
  obtain rfl := W3
  exact PyProof.Rows.gt_int (h _ ho _ .refl S.ok.lex)
 | In => exact kH S ru rv ho hb h
 | NotIn => exact dR S ru rv ho hb h
 | Is =>
  refine ze (zr ho hb) fun e ho => ?_
  rw [kK e] at rv
  obtain rfl := ku rv
  exact wpAny_is_plain (kI ru) (by refine (kJ ru ..).symm ▸ ?_; exact h _ ho _ .refl S.ok.lex)
 | IsNot =>
  refine ze (zr ho hb) fun e ho => ?_
  rw [kK e] at rv
  obtain rfl := ku rv
  exact wpAny_isNot_plain (kI ru) (by refine (kJ ru ..).symm ▸ ?_; exact h _ ho _ .refl S.ok.lex)
 | _ => exact absurd ho.symm hb
theorem kL {a : V} {K : Bool → St → Out} {Q : Bool → Shared → Prop} (S : Sa cx A env Mi Mo ρ σ s.heap) (ru : Rp cx (zc (Mi ++ Mo) s.heap) u a) (ho : vc a K σ = out) (hb : out ≠ .bad)
  (h : ∀ b s', K b σ = out → Nx cx A s s' → zq cx s'.heap (zc (Mi ++ Mo) s'.heap) σ → Q b s') : wpAny (Mod cx) A (truthy u) Q E s := by
 refine zb (tc (f := fun d => opt (rS d) _ _) ho hb ru) fun d ru ho => ?_
 refine y9 (yL ho) (fun b e ho => ?_) fun _ ho => ?_
 ·rw [l8 e] at ru
  refine (p8 ru) ▸ ?_
  exact wpAny_truthy_bool (h _ _ ho .refl S.ok.lex)
 ·refine zb (zA ho hb) fun l e ho => ?_
  replace ru := (u7 e ..) ▸ ru
  refine ze (zr ho hb) ?_
  clear ho
  intro hc ho
  refine zW (yX ru) fun a vs as W0 hl r1 e1 => ?_
  refine (W0) ▸ ?_
  obtain e2 : (!vs.toArray.isEmpty) = !l.isEmpty := by
   cases vs <;> cases l <;> first | rfl | exact absurd e1 (by simp)
  refine wpAny_truthy_list (yZ zE hl) (by obtain this := yN hc; rw [sizeLine_eq] at this; rw [size_toArray]; lia) ?_
  rw [e2]
  exact h _ _ ho (.toks _) S.ok.lex
end
section
variable {cx : Cx} {A : Around} {env : Env} {Mi Mo : List Addr} {ρ : zf} {σ : St} {out : Out} {s : Shared} {n : Nat} {u v : Value} {Q E : Value → Shared → Prop}
theorem te {g : Heap} : ∀ {vs : List Value} {l : List PyData} {as : List Addr} {k : Nat} {d : PyData}, ReadsAll g vs l as → l[k]? = some d → ∃ v bs, vs[k]? = some v ∧ Reads g v d bs := fun {_ _ _ k d} h e =>
 rall_ind (M := fun vs l => ∀ k d, l[k]? = some d → ∃ v bs, vs[k]? = some v ∧ Reads g v d bs) (fun _ _ e => nn e) (fun v ws d ds a b h _ ih k d' e => by
  cases k with
  | zero => exact ⟨v, a, rfl, Option.some.inj e ▸ h⟩
  | succ k => exact ih k d' e) h k d e
theorem kN {g : Heap} : ∀ {vs : List Value} {l : List PyData} {as : List Addr} (k : Nat), ReadsAll g vs l as → ∃ bs, ReadsAll g (vs.take k) (l.take k) bs
 | _, _, _, 0, _ => ⟨_, .nil⟩
 | _, _, _, k + 1, .nil => ⟨_, .nil⟩
 | _, _, _, k + 1, .cons h t => let ⟨_, r⟩ := kN k t; ⟨_, .cons h r⟩
theorem kO {g : Heap} : ∀ {vs : List Value} {l : List PyData} {as : List Addr} (k : Nat), ReadsAll g vs l as → ∃ bs, ReadsAll g (vs.drop k) (l.drop k) bs
 | _, _, _, 0, r => ⟨_, r⟩
 | _, _, _, k + 1, .nil => ⟨_, .nil⟩
 | _, _, _, k + 1, .cons h t => kO k t
theorem oh {g : Heap} : ∀ {vs : List Value} {l : List PyData} {as : List Addr}, ReadsAll g vs l as → ∃ bs, ReadsAll g vs.reverse l.reverse bs :=
 rall_ind (M := fun vs l => ∃ bs, ReadsAll g vs.reverse l.reverse bs) ⟨_, .nil⟩ fun v ws d ds _ _ h _ ih => ih.elim fun _ r => by
  rw [reverse_cons, reverse_cons]
  exact td r (.cons h .nil)
theorem dU {g : Heap} {l : List PyData} (lo hi : Option Int) (r : ReadsAll g vs l as) : ∃ bs, ReadsAll g (zk vs lo hi) (zk l lo hi) bs := by
 unfold zk
 refine (wi r ..).symm ▸ ?_
 obtain ⟨bs, r1⟩ := kO (kms_lo lo l.length) r
 exact kN _ r1
theorem kP {l : List PyData} {x : PyData} (h : yr l j = some x) : ∃ k, seqIndex? j l.length = some k ∧ l[k]? = some x := by
 unfold yr at h
 by_cases h0 : 0 ≤ j
 ·rw [decide_eq_true h0, cond_true] at h
  refine ⟨j.toNat, ?_, h⟩
  have hl : j.toNat < l.length := (List.getElem?_eq_some_iff.mp h).1
  unfold seqIndex?
  have h1 : ¬ (j < 0) := by lia
  have h2 : (0 ≤ j && j < (l.length : Int)) = true := by simp only [Bool.and_eq_true, decide_eq_true_eq]; lia
  simp only [h1, if_false]
  rw [if_pos h2]
 ·rw [decide_eq_false h0, cond_false] at h
  by_cases h1 : 0 ≤ j + l.length
  ·rw [decide_eq_true h1, cond_true] at h
   refine zg ((j + l.length).toNat) ?_ h
   unfold seqIndex?
   have h3 : j < 0 := by lia
   have h2 : (0 ≤ j + (l.length : Int) && j + (l.length : Int) < (l.length : Int)) = true := by lia
   simp only [h3, if_true]
   rw [if_pos h2]
  ·rw [decide_eq_false h1, cond_false] at h
   injection h
set_option tactic.hygienic true in
theorem dW {x : Value} (hl : s.heap.IsList a vs.toArray) (hf : z0 j = true) (hk : seqIndex? j vs.length = some k) (hx : vs[k]? = some x) (h : Q x s) :
  wpAny (Mod cx) A (getItem (.ref a) (.int j t)) Q E s := by
 obtain hj := pS hf
 unfold seqIndex? at hk
 by_cases h0 : j < 0
 ·simp only [h0, if_true] at hk
  split at hk
  ·rename_i hc
   simp only [Bool.and_eq_true, decide_eq_true_eq] at hc
   (injection hk with hk; subst hk)
   exact wpAny_getItem_list_neg hl h0 (by simp only [size_toArray]; lia) hj.1 (by simpa using hx) h
  ·injection hk
 ·simp only [h0, if_false] at hk
  split at hk
  ·(injection hk with hk; subst hk)
   exact wpAny_getItem_list hl (by lia) hj.2 (by simpa using hx) h
  ·injection hk
theorem oi {l : List PyData} {x : PyData} (S : Sa cx A env Mi Mo ρ σ s.heap) (hl : s.heap.IsList a vs.toArray) (r1 : ReadsAll (zc (Mi ++ Mo) s.heap) vs l as)
  (rv : Rp cx (zc (Mi ++ Mo) s.heap) v (.dat (.int j))) (hf : z0 j = true) (hx : yr l j = some x) (hs : ∀ o i, subscripted slice false o i = operate [o, i] (getItem o i))
  (h : Fin cx A (Mi ++ Mo) σ s (.dat x) Q) : wpAny (Mod cx) A (subscriptTail value slice (.ref a) v) Q E s := by
 refine zd (wM rv) fun t W0 => ?_
 refine (W0) ▸ ?_
 refine zb (kP hx) fun k hk hg => ?_
 refine zx (te r1 hg) fun w bs hw rw' => ?_
 exact tail_any hl.typeIs slot_list_getitem.lookup (dW hl hf (by refine (wi r1 ..).symm ▸ ?_; exact hk) hw (h _ _ .refl ⟨_, rw'⟩ S.ok.lex)) (hs _ _)
theorem dX {l : List PyData} {x : PyData} (S : Sa cx A env Mi Mo ρ σ s.heap) (ru : Rp cx (zc (Mi ++ Mo) s.heap) u (.dat (.tuple l)))
  (rv : Rp cx (zc (Mi ++ Mo) s.heap) v (.dat (.int j))) (hf : z0 j = true) (hx : yr l j = some x) (hs : ∀ o i, subscripted slice false o i = operate [o, i] (getItem o i))
  (h : Fin cx A (Mi ++ Mo) σ s (.dat x) Q) : wpAny (Mod cx) A (subscriptTail value slice u v) Q E s := by
 refine zd (wM rv) fun t W0 => ?_
 refine (W0) ▸ ?_
 refine zW (vR ru) fun a vs as W1 ht r1 e1 => ?_
 refine (W1) ▸ ?_
 refine zb (kP hx) fun k hk hg => ?_
 refine zx (te r1 hg) fun w bs hw rw' => ?_
 obtain hj := pS hf
 exact tail_any (vk zE ht).typeIs slot_tuple_getitem.lookup (getItem_tuple (vk zE ht) hj.1 hj.2 (by simpa [e1] using hk) (by simpa using hw) (h _ _ .refl ⟨_, rw'⟩ S.ok.lex)) (hs _ _)
theorem dY {l : List (Str × PyData)} {j : Str} {x : PyData} (S : Sa cx A env Mi Mo ρ σ s.heap) (ru : Rp cx (zc (Mi ++ Mo) s.heap) u (.dct l))
  (rv : Rp cx (zc (Mi ++ Mo) s.heap) v (.dat (.str j))) (hx : zG j l = some x) (hs : ∀ o i, subscripted slice false o i = operate [o, i] (getItem o i))
  (h : Fin cx A (Mi ++ Mo) σ s (.dat x) Q) : wpAny (Mod cx) A (subscriptTail value slice u v) Q E s := by
 refine zd (vi rv) fun t W0 => ?_
 refine (W0) ▸ ?_
 refine yv (ru) fun a W1 D ns => ?_
 refine (W1) ▸ ?_
 refine yv (kF D) fun f hm _ hf => ?_
 refine zx (hf _ _ hx) fun w as e rw' => ?_
 obtain hm' := sH zE hm
 exact tail_any hm'.typeIs slot_dict_getitem.lookup (wpAny_getItem_of (strKind_is _ _ _ _) hm' e (h _ _ (.toks _) ⟨_, rw'⟩ S.ok.lex)) (hs _ _)
theorem dZ {o i : V} (S : Sa cx A env Mi Mo ρ σ s.heap) (ru : Rp cx (zc (Mi ++ Mo) s.heap) u o) (rv : Rp cx (zc (Mi ++ Mo) s.heap) v i) (ho : indexK o i K σ = out) (hb : out ≠ .bad)
  (hs : ∀ o i, subscripted slice false o i = operate [o, i] (getItem o i)) (h : ∀ x, K x σ = out → Fin cx A (Mi ++ Mo) σ s x Q) : wpAny (Mod cx) A (subscriptTail value slice u v) Q E s := by
 have nths : ∀ {l}, si l i K σ = out → ∃ j t x, v = .int j t ∧ z0 j = true ∧ yr l j = some x ∧ K (.dat x) σ = out := fun ho => by
  refine zx (yY ho hb rv) fun j t e ho => ?_
  refine ze (zr ho hb) fun hc ho => ?_
  refine zb (zA ho hb) fun x hx ho => ?_
  exact vC j t x e hc hx ho
 cases o with
 | dat d =>
  refine y9 (yL ho) (fun l e ho => ?_) fun _ ho => ?_
  ·rw [u7 e] at ru
   refine zW (nths ho) fun j t x W0 hc hx ho => ?_
   refine (W0) ▸ ?_
   refine zW (yX ru) fun a vs as W1 hl r1 e1 => ?_
   refine (W1) ▸ ?_
   exact oi S (yZ zE hl) r1 y0 hc hx hs (h _ ho)
  ·refine zb (zA ho hb) fun l e ho => ?_
   rw [u8 e] at ru
   refine zW (nths ho) fun j t x W2 hc hx ho => ?_
   refine (W2) ▸ ?_
   exact dX S ru y0 hc hx hs (h _ ho)
 | dct l =>
  refine zx (dI ho hb rv) fun j t W3 ho => ?_
  refine (W3) ▸ ?_
  refine zb (zA ho hb) fun x hx ho => ?_
  exact dY S ru kv hx hs (h _ ho)
 | kin l =>
  refine zW (nths ho) fun j t x W4 hc hx ho => ?_
  refine (W4) ▸ ?_
  refine zW (yX (cx := cx) ru.1) fun a vs as W5 hl r1 e1 => ?_
  refine (W5) ▸ ?_
  exact oi S (yZ zE hl) r1 y0 hc hx hs (h _ ho)
 | _ => exact absurd ho.symm hb
theorem kQ {er : Bool} (SE : yt cx A er env Mi Mo ρ Ex) {e : Option Expr} {K : Option Int → St → Out} (ho : part Ex e K σ = out) (hb : out ≠ .bad) (S : Sa cx A env Mi Mo ρ σ s.heap)
  (h : ∀ i v s' σ', K i σ' = out → Nx cx A s s' → IsPart v i → zq cx s'.heap (zc (Mi ++ Mo) s'.heap) σ' → Q v s') (hE : ∀ e s', ErrE cx A er out s e s' → E e s') : wpAny (Mod cx) A (evalPart e env) Q E s := by
 cases e with
 | none => exact wpAny_pure (h none _ _ _ ho .refl .none S.ok.lex)
 | some e =>
  rw [evalPart_some]
  refine SE e _ σ out s _ _ ho hb S (fun x σ' v s' hK N R L => ?_) hE
  refine zx (yY hK hb R) fun i t W0 hK => ?_
  refine (W0) ▸ ?_
  refine ze (zr hK hb) fun hc hK => ?_
  exact h _ _ _ _ hK N (.int _ t) L
theorem d3 {l : List PyData} {lo hi : Option Int} {vl vu : Value} {lower upper : Option Expr} (S : Sa cx A env Mi Mo ρ σ s.heap) (ru : Rp cx (zc (Mi ++ Mo) s.heap) u (.dat (.list l))) (pl : IsPart vl lo) (pu : IsPart vu hi) (hf : zi l.length = true)
  (h : Fin cx A (Mi ++ Mo) σ s (.dat (.list (zk l lo hi))) Q) :
  wpAny (Mod cx) A (subscriptTail value (.Slice lower upper none p) u (.ref s.heap.objs.size)) Q E { s with heap := s.heap.push { cls := .type "slice", data := .fields #[vl, vu, .none] } } := by
 obtain S' : Sa cx A env Mi Mo ρ σ (s.heap.push { cls := .type "slice", data := .fields #[vl, vu, .none] }) := S.next (Nx.push (s := s) _).kp (qf (s := s) S).2
 obtain ru' := ru.keeps (S.seen (s' := { s with heap := s.heap.push { cls := .type "slice", data := .fields #[vl, vu, .none] } }) (Nx.push _))
 refine zW (yX ru') fun a vs as W0 hl r1 e1 => ?_
 refine (W0) ▸ ?_
 obtain hl' := yZ zE hl
 obtain ⟨bs, r2⟩ := dU lo hi r1
 refine tail_any hl'.typeIs slot_list_getitem.lookup (ops := [_, _]) (wpAny_getItem_list_slice hl' (Heap.IsSliceOf.new ..) pl pu .none (by trivial) ?_ (by obtain this := yN hf; rw [size_toArray]; lia)) rfl
 refine (kms_pick_eq ..).symm ▸ ?_
 exact p9 (s := { s with heap := s.heap.push { cls := .type "slice", data := .fields #[vl, vu, .none] } }) S' (fun w s' N R L => h w s' ((Nx.push _).trans N) R L) r2 rfl
end
section
variable {cx : Cx} {A : Around} {env : Env} {Mi Mo : List Addr} {ρ : zf} {σ : St} {out : Out} {s : Shared} {n : Nat} {u v : Value} {Q E : Value → Shared → Prop}
theorem d6 (k : Nat) : Builtin.Slice.slicePlaces ((k : Int) - 1) (-1) (-1) = k := by
 unfold Builtin.Slice.slicePlaces
 obtain h1 : ¬ ((-1 : Int) > 0) := by decide
 simp only [h1, if_false]
 split
 ·rw [show (- -1 : Int) = 1 by decide, Int.ediv_one]; lia
 ·lia
theorem kR {α β : Type} {f g : α → Option β} : ∀ l : List α, (∀ k ∈ l, f k = g k) → l.filterMap f = l.filterMap g
 | [], _ => rfl
 | a :: r, h => by
  rw [filterMap_cons, filterMap_cons, h a (.head _), kR r fun k hk => h k (.tail _ hk)]
theorem d7 (xs : Array Value) : ((List.range xs.size).filterMap fun (k : Nat) => xs[(((xs.size : Int) - 1) + (k : Int) * (-1)).toNat]?).toArray = xs.toList.reverse.toArray := by
 obtain e : (List.range xs.size).filterMap (fun (k : Nat) => xs[(((xs.size : Int) - 1) + (k : Int) * (-1)).toNat]?) = ((List.range xs.size).map fun k => xs.size - 1 - k).filterMap (xs[·]?) := by
  rw [List.filterMap_map]
  refine kR _ fun k hk => ?_
  obtain hk' := List.mem_range.mp hk
  obtain q : (((xs.size : Int) - 1) + (k : Int) * (-1)).toNat = xs.size - 1 - k := by lia
  refine (q ..).symm ▸ ?_
  rfl
 rw [e, krv_range, List.filterMap_reverse, krv_all]
theorem d8 {t sl : Addr} {items : Array Value} {w : Tok} (ht : IsTup s.heap t items) (hs : s.heap.IsSliceOf sl .none .none (.int (-1) w))
  (h : Q (.ref s.heap.objs.size) { s with heap := s.heap.push { cls := .type "tuple", data := .seq items.toList.reverse.toArray } }) (hsz : items.size ≤ sizeLine) : wpAny (Mod cx) A (getItem (.ref t) (.ref sl)) Q E s := by
 obtain hz : sizeOk (.seq items.toList.reverse.toArray) := by
  show items.toList.reverse.toArray.size ≤ sizeLine
  rw [size_toArray, length_reverse, Array.length_toList]
  exact hsz
 refine yv (id hs) fun os hos hcs hds => ?_
 obtain hTs : s.TypeIs (.ref sl) "slice" := (zg os hos hcs)
 dsimp only [getItem]
 try with_reducible refine wpAny_holding ?_
 first | refine wpAny_bind (wpAny_pure ?_) | skip
 refine wpAny_bind (wpAny_sequenceKey ht.typeIs (by rfl) ?_)
 refine wpAny_bind (wpAny_callSpecial?_slot (name := Str.ofString "__getitem__") ht.typeIs slot_tuple_getitem
  (wpAny_call_entry slot_tuple_getitem ht.typeIs entry_tuple_getitem ?_ (args_tuple_getitem _ _)))
 show wpAny _ _ (Builtin.Tuple.tupleItemsOf (.ref t) >>= _) _ _ s
 refine wpAny_bind (tupleItemsOf_ ht ?_)
 refine wpAny_bind (wpAny_typeOf hTs ?_)
 rw [if_pos (by rfl)]
 obtain ap : ∀ {Q : Int × Int × Nat → Shared → Prop} {E : Value → Shared → Prop} {A : Around}, Q ((items.size : Int) - 1, -1, items.size) s → wpAny (Mod cx) A (Builtin.Slice.sliceApplied (.ref sl) (pure (items.size : Int))) Q E s := by
  intro Q E A hq
  refine wpAny_bind (wpAny_bind (wpAny_field hos hds (x := .none) rfl (wpAny_bind (wpAny_field hos hds (x := .none) rfl (wpAny_bind (wpAny_field hos hds (x := .int (-1) w) rfl (wpAny_pure ?_)))))))
  refine wpAny_bind (slicePart_int ?_)
  rw [if_neg (by decide)]
  refine wpAny_bind (slicePart_none (wpAny_bind (slicePart_none (wpAny_bind (wpAny_pure ?_)))))
  obtain e : Builtin.Slice.sliceAdjust none none (-1) (items.size : Int) = ((items.size : Int) - 1, -1) := rfl
  show wpAny _ _ (match Builtin.Slice.sliceAdjust none none (-1) (items.size : Int) with | (lo, hi) => pure (lo, (-1 : Int), Builtin.Slice.slicePlaces lo hi (-1))) _ _ s
  rw [e]
  show wpAny _ _ (pure ((items.size : Int) - 1, (-1 : Int), Builtin.Slice.slicePlaces ((items.size : Int) - 1) (-1) (-1))) _ _ s
  refine (d6 ..).symm ▸ ?_
  exact wpAny_pure hq
 refine wpAny_bind (ap ?_)
 obtain hno : ¬ (((items.size : Int) - 1 == 0 && (-1 : Int) == 1 && items.size == items.size) = true) := by simp
 show wpAny _ _ (if ((items.size : Int) - 1 == 0 && (-1 : Int) == 1 && items.size == items.size) = true then _ else _) _ _ s
 refine (if_neg hno ..).symm ▸ (d7 ..).symm ▸ ?_
 first
  | exact wpAny_bind (m := Builtin.Tuple.tupleExact _) (wpAny_newObj_type (wpAny_pure ⟨_, rfl, wpAny_pure h⟩) hz)
  | exact wpAny_bind (m := Builtin.Tuple.tupleExact _) (wpAny_newObj_type (wpAny_bind (wpAny_pure (wpAny_pure ⟨_, rfl, wpAny_pure h⟩))) hz)
  | exact wpAny_bind (wpAny_bind (m := Builtin.Tuple.tupleExact _) (wpAny_newObj_type (wpAny_pure (wpAny_pure ⟨_, rfl, wpAny_pure h⟩)) hz))
  | exact wpAny_bind (wpAny_bind (m := Builtin.Tuple.tupleExact _) (wpAny_newObj_type (wpAny_pure ⟨_, rfl, wpAny_pure h⟩) hz))
theorem d9 {l : List PyData} {st : Expr} {w : Tok} (S : Sa cx A env Mi Mo ρ σ s.heap) (ru : Rp cx (zc (Mi ++ Mo) s.heap) u (.dat (.tuple l))) (hf : zi l.length = true)
  (h : Fin cx A (Mi ++ Mo) σ s (.dat (.tuple l.reverse)) Q) :
  wpAny (Mod cx) A (subscriptTail value (.Slice none none (some st) p) u (.ref s.heap.objs.size)) Q E { s with heap := s.heap.push { cls := .type "slice", data := .fields #[.none, .none, .int (-1) w] } } := by
 obtain S' : Sa cx A env Mi Mo ρ σ (s.heap.push { cls := .type "slice", data := .fields #[.none, .none, .int (-1) w] }) := S.next (Nx.push (s := s) _).kp (qf (s := s) S).2
 obtain ru' := ru.keeps (S.seen (s' := { s with heap := s.heap.push { cls := .type "slice", data := .fields #[.none, .none, .int (-1) w] } }) (Nx.push _))
 refine zW (vR ru') fun a vs as W0 hl r1 e1 => ?_
 refine (W0) ▸ ?_
 obtain hl' := vk zE hl
 obtain ⟨bs, r2⟩ := oh r1
 refine tail_any hl'.typeIs slot_tuple_getitem.lookup (ops := [_, _]) (d8 hl' (Heap.IsSliceOf.new ..) ?_ (by obtain this := yN hf; simp only [size_toArray]; lia)) rfl
 exact sF (s := { s with heap := s.heap.push { cls := .type "slice", data := .fields #[.none, .none, .int (-1) w] } }) S' (fun w' s' N R L => h w' s' ((Nx.push _).trans N) R L) r2 rfl
theorem ca {a : V} (S : Sa cx A env Mi Mo ρ σ s.heap) (ru : Rp cx (zc (Mi ++ Mo) s.heap) u a) (ho : zK a K σ = out) (hb : out ≠ .bad)
  (h : ∀ x, K x σ = out → Fin cx A (Mi ++ Mo) σ s x Q) : wpAny (Mod cx) A (call (.builtin "len") [u]) Q E s := by
 refine zb (tc (f := fun d => opt (vF d) _ _) ho hb ru) fun d ru ho => ?_
 refine y9 (yL ho) (fun l e ho => ?_) fun _ ho => ?_
 ·rw [u7 e] at ru
  obtain ⟨hc, ho⟩ := zr ho hb
  refine zW (yX ru) fun a vs as W0 hl r1 e1 => ?_
  obtain rfl := W0
  obtain hz := yN hc
  rw [sizeLine_eq] at hz
  refine call_len_list (yZ zE hl) (by simp only [size_toArray]; lia) ?_
  exact h _ ho _ _ (.toks _) (by simp only [size_toArray, e1]; exact y0) S.ok.lex
 ·refine zb (zA ho hb) fun l e ho => ?_
  rw [u8 e] at ru
  refine ze (zr ho hb) fun hc ho => ?_
  refine zW (vR ru) fun a vs as W1 hl r1 e1 => ?_
  refine (W1) ▸ ?_
  obtain hz := yN hc
  rw [sizeLine_eq] at hz
  refine len_tuple (vk zE hl) (by simp only [size_toArray]; lia) ?_
  exact h _ ho _ _ (.toks _) (by simp only [size_toArray, e1]; exact y0) S.ok.lex
theorem cb {l : List PyData} (S : Sa cx A env Mi Mo ρ σ s.heap) (hl : s.heap.IsList a vs.toArray) (r1 : ReadsAll (zc (Mi ++ Mo) s.heap) vs l as)
  (ho : zK (.dat (.list l)) K σ = out) (hb : out ≠ .bad) (h : ∀ x, K x σ = out → Fin cx A (Mi ++ Mo) σ s x Q) : wpAny (Mod cx) A (call (.builtin "len") [.ref a]) Q E s := by
 refine ze (zr (b := zi l.length) (o := K (.dat (.int l.length)) σ) ho hb) fun hc ho => ?_
 have e1 := wi r1
 have hz := yN hc
 rw [sizeLine_eq] at hz
 refine call_len_list hl (by rw [size_toArray]; lia) ?_
 exact h _ ho _ _ (.toks _) (by simp only [size_toArray, e1]; exact y0) S.ok.lex
end
theorem yO (x y : Str) (v : Sl) : ∀ ρ : zf, zt y (zz x v ρ) = if y = x then some v else zt y ρ
 | [] => by
  show cond (x == y) (some v) none = _
  by_cases h : y = x
  ·subst h; simp
  ·obtain this : (x == y) = false := beq_eq_false_iff_ne.mpr (Ne.symm h)
   refine (this ..).symm ▸ (if_neg h ..).symm ▸ ?_; rfl
 | (z, u) :: r => by
  obtain ih := yO x y v r
  show zt y (cond (z == x) ((z, v) :: r) ((z, u) :: zz x v r)) = _
  cases hz : z == x with
  | true =>
   refine (eq_of_beq hz) ▸ ?_
   show cond (z == y) (some v) (zt y r) = _
   by_cases h : y = z
   ·refine (h).symm ▸ ?_; simp
   ·obtain e : (z == y) = false := beq_eq_false_iff_ne.mpr (Ne.symm h)
    refine (e ..).symm ▸ (if_neg h ..).symm ▸ ?_
    show zt y r = cond (z == y) (some u) (zt y r)
    refine (e ..).symm ▸ ?_; rfl
  | false =>
   show cond (z == y) (some u) (zt y (zz x v r)) = _
   rw [ih]
   obtain hzx : z ≠ x := fun q => by rw [q] at hz; simp at hz
   by_cases h : y = x
   ·subst h
    have e : (z == y) = false := beq_eq_false_iff_ne.mpr hzx
    simp [e]
   ·refine (if_neg h ..).symm ▸ (if_neg h ..).symm ▸ ?_; rfl
theorem ce {m' : Str → Option Value} (a : h.Ns L m) (b : h.Ns L m') : m = m' := by
 refine zW (a) fun o es ep e hd _ hf => ?_
 refine zW (b) fun o' es' ep' e' hd' _ hf' => ?_
 rw [e] at e'; obtain rfl := Option.some.inj e'
 rw [hd] at hd'; (injection hd' with hd'; subst hd')
 funext x
 exact (hf x ..) ▸ (hf' x ..).symm ▸ rfl
section
variable {cx : Cx} {A : Around} {env : Env} {Mi Mo : List Addr} {ρ : zf} {σ : St} {out : Out} {s : Shared} {n : Nat} {u v : Value}
structure Nz (cx : Cx) (A : Around) (Mi : List Addr) (s s' : Shared) : Prop where
 eq : s' = { s with heap := s'.heap, toks := s'.toks }
 kp : Kp (Mi ++ cx.X) (Fs A) s.heap s'.heap
theorem Nz.refl : Nz cx A Mi s s := ⟨rfl, .refl⟩
theorem Nx.z (N : Nx cx A s s') : Nz cx A Mi s s' := ⟨N.eq, N.kp.mono (fun _ hb => mem_append_right _ hb) fun _ h => h⟩
noncomputable def yg (Mi Mi' : List Addr) (h : Heap) : Prop := ∀ b ∈ Mi', b ∈ Mi ∨ h.get? b = none
theorem yg.refl : yg Mi Mi h := fun _ hb => .inl hb
theorem Nz.trans {s₂ s₃ : Shared} (a : Nz cx A Mi s₁ s₂) (g : yg Mi Mi' s₁.heap) (b : Nz cx A Mi' s₂ s₃) : Nz cx A Mi s₁ s₃ := by
 refine ⟨by exact b.eq.symm ▸ a.eq.symm ▸ rfl, fun c o hc e => ?_⟩
 have hc' : c ∉ Mi' ++ cx.X := fun z => by
  refine zh (mem_append.mp z) (fun z => ?_) fun z => ?_
  ·refine zh (g c z) (fun q => ?_) fun q => ?_
   ·exact hc (mem_append_left _ q)
   ·rw [e] at q; exact nn q.symm
  ·exact hc (mem_append_right _ z)
 refine zo fun R_ k_ => ?_
 refine ze (a.kp c o hc e) fun W0 k₁ => ?_
 refine zd (W0) fun sl e₁ => ?_
 refine ze (b.kp c _ hc' e₁) fun W1 _ => ?_
 refine zd (W1) fun sl' e₂ => ?_
 refine k_ ?_
 exact ⟨⟨sl', e₂⟩, fun hf => (b.kp c o hc' (k₁ hf)).2 hf⟩
theorem yg.trans {Mi'' : List Addr} {s₂ : Shared} (a : yg Mi Mi' s₁.heap) (b : yg Mi' Mi'' s₂.heap) (k : ∀ b o, b ∉ Mi → s₁.heap.get? b = some o → ∃ o', s₂.heap.get? b = some o') : yg Mi Mi'' s₁.heap := fun c hc => by
 rcases b c hc with q | q
 ·exact a c q
 ·by_cases hM : c ∈ Mi
  ·exact .inl hM
  ·cases e : s₁.heap.get? c with
   | none => exact .inr rfl
   | some o => refine zd (k c o hM e) fun o' e' => ?_; rw [q] at e'; exact nn e'
theorem kT {h h' base : Heap} {L : Addr} {m : Str → Option Value} (hs : Heap.SameBut L h h') (hn : h'.Ns L m) : ∀ {l : List Env}, h.FunFrames base l → h'.FunFrames base l
 | [], _ => trivial
 | e :: r, ⟨hk, ⟨L', o, hf, hb, ho, hd⟩, hr⟩ => by
  refine yV hk ?_ (kT hs hn hr)
  by_cases hL : L' = L
  ·subst hL
   refine xW (hn) fun o' es ep e' hd' _ => ?_
   exact wE L' o' hf hb e' (fun vs q => by rw [hd'] at q; injection q)
  ·exact wE L' o hf hb ((hs.2 L' hL).trans ho) hd
theorem uw (hs : Heap.SameBut L h h') (hL : L ∈ M) : (zc M h).StaysIn (zc M h') := fun b o e =>
 vis_get ((hs.2 b fun q => zQ e (q ▸ hL)).trans (zH e)) (zQ e)
theorem Tv {xs : Array Value} (hs : Heap.SameBut L h h') (hn : h.Ns L m) (hl : h.IsList a xs) : h'.IsList a xs := by
 obtain ⟨o, e, hc, n, hd⟩ := hl
 refine ⟨o, (hs.2 a fun q => ?_).trans e, hc, n, hd⟩
 refine xW (hn) fun o' es ep e' hd' _ => ?_
 rw [← q, e] at e'; obtain rfl := Option.some.inj e'; rw [hd] at hd'; injection hd'
theorem vS {xs : Array Value} (hs : Heap.SameBut L h h') (hn : h.Ns L m) (hl : zI h a xs) : zI h' a xs := by
 obtain ⟨o, e, hc, hnd, n, hd⟩ := hl
 refine ⟨o, (hs.2 a fun q => ?_).trans e, hc, hnd, n, hd⟩
 refine xW (hn) fun o' es ep e' hd' _ => ?_
 rw [← q, e] at e'; obtain rfl := Option.some.inj e'; rw [hd] at hd'; injection hd'
theorem zR.same {h h' g g' : Heap} {L : Addr} {m : Str → Option Value} (hs : Heap.SameBut L h h') (hn : h.Ns L m) (kg : g.StaysIn g') : ∀ {bs : List Addr} {ls : List (List PyData)}, zR h g bs ls → zR h' g' bs ls
 | [], [], _ => trivial
 | b :: _, _ :: _, ⟨⟨vs, as, hl, hr⟩, r⟩ => ⟨⟨vs, as, vS hs hn hl, yk kg hr⟩, zR.same hs hn kg r⟩
 | [], _ :: _, r => r.elim
 | _ :: _, [], r => r.elim
theorem oj {y : Str} {w : Value} (hs : Heap.SameBut env.locals h h') (hn : h.Ns env.locals m) (hn' : h'.Ns env.locals (fun z => if z = x then some u else m z)) (hk : env.kindOf x = some .local) (hy : y ≠ x) (l : zU env h y w) : zU env h' y w := by
 rcases l with ⟨hky, m', hm', e⟩ | ⟨hky, c, o, hc, ho, hd⟩
 ·refine .inl ⟨hky, _, hn', ?_⟩
  rw [if_neg hy, ce hn hm']; exact e
 ·refine .inr ⟨hky, c, o, hc, (hs.2 c fun q => ?_).trans ho, hd⟩
  refine xW (hn) fun o' es ep e' hd' _ => ?_
  rw [← q, ho] at e'; obtain rfl := Option.some.inj e'; rw [hd] at hd'; injection hd'
theorem Sa.store {sl : Sl} (S : Sa cx A env Mi Mo ρ σ h) (hk : env.kindOf x = some .local) (hn : h.Ns env.locals m) (hs : Heap.SameBut env.locals h h') (hn' : h'.Ns env.locals (fun z => if z = x then some u else m z))
  (hsl : vh cx env Mi h' (zc (Mi ++ Mo) h') x sl) (ht : yb (zz x sl ρ) = true ∨ yU (zz x sl ρ) = true) : Sa cx A env Mi Mo (zz x sl ρ) σ h' := by
 obtain hL : env.locals ∈ Mi ++ Mo := mem_append_left _ S.lin
 have kg := uw hs hL
 obtain lx : zq cx h' (zc (Mi ++ Mo) h') σ := S.ok.lex.step kg fun b hb vs hl => by
  refine zb (hl) fun o e r => ?_
  exact zg o ((hs.2 b fun q => S.dis _ S.lin (q ▸ S.xo b hb)).trans e) (r)
 refine ⟨⟨zZ S.ok.stays kg, fun b hb => ?_, ?_, S.ok.fin, S.ok.fx, S.ok.xin, lx⟩, S.ek, ⟨_, hn'⟩, S.lin, S.xo, S.dis, fun y t e => ?_, ht⟩
 ·by_cases q : b = env.locals
  ·refine y5 (hn') fun o _ _ e _ => ?_; exact ⟨o, q ▸ e⟩
  ·refine zd (S.ok.live b hb) fun o e => ?_; exact ⟨o, (hs.2 b q).trans e⟩
 ·refine zb (S.ok.frames) fun frs e f => ?_
  exact zg frs e (kT hs hn' f)
 ·rw [yO] at e
  by_cases hy : y = x
  ·replace e := (if_pos hy ..) ▸ e; refine Option.some.inj e ▸ ?_; cases hy; exact hsl
  ·replace e := (if_neg hy ..) ▸ e
   obtain l := S.loc y t e
   cases t with
   | v z => refine zb (l) fun w h1 h2 => ?_; exact zg w (oj hs hn hn' hk hy h1) (h2.keeps kg)
   | own1 l' => obtain ⟨e1, e2, a, vs, as, h1, h2, h3, h4⟩ := l; exact ⟨e1, e2, a, vs, as, oj hs hn hn' hk hy h1, h2, vS hs hn h3, yk kg h4⟩
   | own2 ll => obtain ⟨e1, e2, a, bs, h1, h2, h3, h4, h5, h6⟩ := l; exact ⟨e1, e2, a, bs, oj hs hn hn' hk hy h1, h2, vS hs hn h3, h4, h5, zR.same hs hn kg h6⟩
theorem kU (h : yb ρ = true ∨ yU ρ = true) : yb (zz x (.v y) ρ) = true ∨ yU (zz x (.v y) ρ) = true := by
 unfold yb yU at h ⊢
 refine (yO ..).symm ▸ (yO ..).symm ▸ ?_
 rcases h with h | h
 ·left
  by_cases e : yy = x
  ·rw [if_pos e]
  ·rw [if_neg e]; exact h
 ·right
  by_cases e : yf = x
  ·rw [if_pos e]
  ·rw [if_neg e]; exact h
theorem ol (S : Sa cx A env Mi Mo ρ σ s.heap) (hs : Heap.SameBut env.locals s.heap h') : Nz cx A Mi s { s with heap := h', toks := k } :=
 ⟨rfl, .of_keeps fun b o hb e => (hs.2 b fun q => hb (mem_append_left _ (q ▸ S.lin))).trans e⟩
theorem yl {sc : zm} (h : zN sc x = true) : zD x sc = some .local := by
 unfold zN at h
 split at h
 ·assumption
 ·exact ff h
structure ScOk (env : Env) (sc : zm) : Prop where
 loc : ∀ x, zD x sc = some .local → env.kindOf x = some .local
 glob : ∀ x, zD x sc = some .globalImplicit → env.kindOf x = some .globalImplicit
 cell : ∀ x, zD x sc = some .cell → env.kindOf x = some .cell
theorem qi (ek : EnvOk env) : (env.scope.kind == .class || (env.scope.kind == .module && env.locals != env.globals)) = false := by rw [ek.kind]; rfl
theorem store_val {Q : Unit → Shared → Prop} (S : Sa cx A env Mi Mo ρ σ s.heap) (hk : env.kindOf x = some .local) (r : Rp cx (zc (Mi ++ Mo) s.heap) u y)
  (h : ∀ s', Nz cx A Mi s s' → Sa cx A env Mi Mo (zz x (.v y) ρ) σ s'.heap → (zc (Mi ++ Mo) s.heap).StaysIn (zc (Mi ++ Mo) s'.heap) → Q () s') : wpAny (Mod cx) A (storeName env x u) Q E s := by
 refine zd (S.ns) fun m hn => ?_
 refine wpAny_storeName_local hk hn (fun h' hn' hs => ?_) (qi S.ek)
 obtain kg := uw hs (mem_append_left Mo S.lin)
 exact h _ (ol S hs) (S.store hk hn hs hn' ⟨u, .inl ⟨hk, _, hn', by simp⟩, r.keeps kg⟩ (kU S.two)) kg
noncomputable def wN : List (Str × PyData) → zf → zf
 | [], ρ => ρ
 | (x, d) :: r, ρ => wN r (zz x (.v (.dat d)) ρ)
theorem qj {x : Str} : ∀ (ps : List (Str × PyData)) (ρ : zf), x ∉ ps.map (·.1) → zt x (wN ps ρ) = zt x ρ
 | [], _, _ => rfl
 | (y, d) :: r, ρ, h => by
  rw [wN, qj r _ fun q => h (mem_cons_of_mem _ q), yO, if_neg fun q => h (by rw [q]; exact mem_cons_self ..)]
theorem om {x : Str} {d : PyData} : ∀ (ps : List (Str × PyData)) (ρ : zf), (ps.map (·.1)).Nodup → (x, d) ∈ ps → zt x (wN ps ρ) = some (.v (.dat d))
 | (y, e) :: r, ρ, hn, h => by
  obtain hn' := nodup_cons.mp hn
  refine zh (mem_cons.mp h) (fun q => ?_) fun q => ?_
  ·cases q
   rw [wN, qj r _ hn'.1, yO, if_pos rfl]
  ·exact om r _ hn'.2 q
theorem cf (ps : List (Str × PyData)) (ρ : zf) (hn : (ps.map (·.1)).Nodup) : zt x (wN ps.reverse ρ) = zt x (wN ps ρ) := by
 by_cases hx : x ∈ ps.map (·.1)
 ·refine zb (mem_map.mp hx) fun W0 hm W1 => ?_
  obtain ⟨y, d⟩ := W0
  refine (W1) ▸ ?_
  exact (om ps ρ hn hm ..).symm ▸ (om ps.reverse ρ (by rw [map_reverse]; exact List.pairwise_reverse.mpr (hn.imp fun h => Ne.symm h)) (mem_reverse.mpr hm) ..).symm ▸ rfl
 ·exact (qj ps ρ hx ..).symm ▸ (qj ps.reverse ρ (by rw [map_reverse]; exact fun q => hx (mem_reverse.mp q)) ..).symm ▸ rfl
theorem Sa.congr (S : Sa cx A env Mi Mo ρ σ h) (e : ∀ x, zt x ρ = zt x ρ') : Sa cx A env Mi Mo ρ' σ h where
 ok := S.ok
 ek := S.ek
 ns := S.ns
 lin := S.lin
 xo := S.xo
 dis := S.dis
 loc := fun x s q => S.loc x s (by rw [e]; exact q)
 two := by obtain t := S.two; unfold yb yU at t ⊢; rw [e, e] at t; exact t
noncomputable def sI (cx : Cx) (A : Around) (env : Env) : List (Value → Sem Unit) → List (Str × PyData) → Prop
 | [], [] => True
 | f :: fs, p :: ps => (∀ (u : Value) (Q : Unit → Shared → Prop) (E : Value → Shared → Prop) (s : Shared), wpAny (Mod cx) A (storeName env p.1 u) Q E s → wpAny (Mod cx) A (f u) Q E s) ∧ sI cx A env fs ps
 | _, _ => False
theorem oq {E : Value → Shared → Prop} : ∀ (fs : List (Value → Sem Unit)) (ps : List (Str × PyData)) (us : List Value) (as : List Addr) (ρ : zf) (s : Shared) (Q : Unit → Shared → Prop), sI cx A env fs ps → Sa cx A env Mi Mo ρ σ s.heap →
  (∀ p ∈ ps, env.kindOf p.1 = some .local) → ReadsAll (zc (Mi ++ Mo) s.heap) us (ps.map (·.2)) as →
  (∀ s', Nz cx A Mi s s' → Sa cx A env Mi Mo (wN ps ρ) σ s'.heap → Q () s') → wpAny (Mod cx) A (assignInOrder fs us) Q E s
 | [], [], us, _, ρ, s, Q, _, S, _, r, h => by cases r; exact wpAny_pure (h s .refl S)
 | [], _ :: _, _, _, _, _, _, hf, _, _, _, _ => hf.elim
 | _ :: _, [], _, _, _, _, _, hf, _, _, _, _ => hf.elim
 | f :: fs, p :: ps, us, as, ρ, s, Q, hf, S, hk, r, h => by
  cases r with
  | cons r1 r2 =>
   refine wpAny_assignInOrder_more (hf.1 _ _ _ _ (store_val (y := .dat p.2) S (hk p (.head _)) ⟨_, r1⟩ fun s₁ N₁ S₁ kg => ?_))
   exact oq fs ps _ _ _ s₁ Q hf.2 S₁ (fun q hq => hk q (.tail _ hq)) (yk kg r2) fun s₂ N₂ S₂ => h s₂ (N₁.trans .refl N₂) S₂
noncomputable def xc : List Expr → List PyData → List (Str × PyData)
 | .Name x _ :: r, d :: ds => (x, d) :: xc r ds
 | _, _ => []
theorem bind_ind {M : List Expr → List PyData → zf → zf → Prop} (h0 : ∀ ρ, M [] [] ρ ρ) (h1 : ∀ x p r d ds ρ ρ', M r ds (zz x (.v (.dat d)) ρ) ρ' → M (.Name x p :: r) (d :: ds) ρ ρ') : ∀ (ts : List Expr) (ds : List PyData) (ρ ρ' : zf), vJ ts ds ρ = some ρ' → M ts ds ρ ρ' := by
 intro ts
 induction ts with
 | nil =>
  intro ds ρ ρ' h
  cases ds with
  | nil => exact Option.some.inj h ▸ h0 ρ
  | cons _ _ => exact nn h
 | cons t r ih =>
  intro ds ρ ρ' h
  cases t with
  | Name x p =>
   cases ds with
   | nil => exact nn h
   | cons d ds => exact h1 x p r d ds ρ ρ' (ih ds _ ρ' h)
  | _ => exact nn h
theorem names_ind {sc : zm} {M : List Expr → Prop} (h0 : M []) (h1 : ∀ x p r, zN sc x = true → M r → M (.Name x p :: r)) : ∀ ts : List Expr, yx sc ts = true → M ts := by
 intro ts
 induction ts with
 | nil => exact fun _ => h0
 | cons t r ih =>
  intro h
  cases t with
  | Name x p => have h := Bool.and_eq_true_iff.mp h; exact h1 x p r h.1 (ih h.2)
  | _ => exact ff h
theorem apart_ind {M : List Expr → Prop} (h0 : M []) (h1 : ∀ x p r, vK x r = false → M r → M (.Name x p :: r)) : ∀ ts : List Expr, wF ts = true → M ts := by
 intro ts
 induction ts with
 | nil => exact fun _ => h0
 | cons t r ih =>
  intro h
  cases t with
  | Name x p => have h := Bool.and_eq_true_iff.mp h; exact h1 x p r (by have q := h.1; rwa [Bool.not_eq_true'] at q) (ih h.2)
  | _ => exact ff h
theorem kV : ∀ (ts : List Expr) (ds : List PyData) (ρ ρ' : zf), vJ ts ds ρ = some ρ' → ρ' = wN (xc ts ds) ρ ∧ ts.length = ds.length ∧ (xc ts ds).map (·.2) = ds :=
 bind_ind (M := fun ts ds ρ ρ' => ρ' = wN (xc ts ds) ρ ∧ ts.length = ds.length ∧ (xc ts ds).map (·.2) = ds) (fun _ => ⟨rfl, rfl, rfl⟩) fun _ _ _ d _ _ _ ih => ⟨ih.1, congrArg (· + 1) ih.2.1, congrArg (d :: ·) ih.2.2⟩
theorem kW {sc : zm} (so : ScOk env sc) : ∀ (ts : List Expr) (ds : List PyData), yx sc ts = true → ∀ p ∈ xc ts ds, env.kindOf p.1 = some .local := fun ts ds h =>
 names_ind (M := fun ts => ∀ ds, ∀ p ∈ xc ts ds, env.kindOf p.1 = some .local) (fun ds _ hp => by cases ds <;> exact absurd hp not_mem_nil) (fun x p r hx ih ds => by
  cases ds with
  | nil => exact fun _ hp => absurd hp not_mem_nil
  | cons d ds => exact forall_mem_cons.mpr ⟨so.loc _ (yl hx), ih ds⟩) ts h ds
theorem cg : ∀ (ts : List Expr), wF ts = true → ∀ (ds : List PyData), vK x ts = false → x ∉ (xc ts ds).map (·.1) :=
 apart_ind (M := fun ts => ∀ (ds : List PyData), vK x ts = false → x ∉ (xc ts ds).map (·.1)) (fun ds _ => by cases ds <;> exact not_mem_nil) fun y q r _ ih ds h => by
  cases ds with
  | nil => exact not_mem_nil
  | cons d ds =>
   have h : cond (x == y) true (vK x r) = false := h
   cases e : x == y with
   | true => rw [e] at h; exact ff h.symm
   | false =>
    rw [e] at h
    exact fun q => (mem_cons.mp q).elim (fun q => ne_of_beq_false e q) (ih ds h)
theorem ch (ts : List Expr) (ds : List PyData) (h : wF ts = true) : ((xc ts ds).map (·.1)).Nodup :=
 (apart_ind (M := fun ts => wF ts = true ∧ ∀ ds : List PyData, ((xc ts ds).map (·.1)).Nodup) ⟨rfl, fun ds => by cases ds <;> exact nodup_nil⟩ (fun y q r hy ih => ⟨by show (!(vK y r) && wF r) = true; rw [hy, ih.1]; rfl, fun ds => by
  cases ds with
  | nil => exact nodup_nil
  | cons d ds => exact nodup_cons.mpr ⟨cg r ih.1 ds hy, ih.2 ds⟩⟩) ts h).2 ds
theorem ci : ∀ (ts : List Expr) (ds : List PyData) (ρ ρ' : zf), vJ ts ds ρ = some ρ' → sI cx A env ((assignEach ts env).map (·.2)) (xc ts ds) ∧ (assignEach ts env).length = ts.length ∧ (assignEach ts env).findIdx? (·.1) = none :=
 bind_ind (M := fun ts ds ρ ρ' => sI cx A env ((assignEach ts env).map (fun z : Bool × (Value → Sem Unit) => z.2)) (xc ts ds) ∧ (assignEach ts env).length = ts.length ∧ (assignEach ts env).findIdx? (fun z : Bool × (Value → Sem Unit) => z.1) = none) (fun _ => ⟨trivial, rfl, rfl⟩) fun x p r d ds ρ ρ' ih => ⟨⟨fun u Q E s q => wpAny_assign_Name q, ih.1⟩, congrArg (· + 1) ih.2.1, by
  show List.findIdx? (·.1) ((false, assign (.Name x p) env) :: assignEach r env) = none
  rw [List.findIdx?_cons, ih.2.2]; rfl⟩
noncomputable def tf (g h : Heap) (target : Expr) (v : Value) (d : PyData) : Prop := match target with
 | .Tuple _ _ _ => ∃ T vals ds as, v = .ref T ∧ h.IsTuple T vals ∧ d = .tuple ds ∧ ReadsAll g vals.toList ds as
 | _ => ∃ as, Reads g v d as
theorem ou {sc : zm} {Q : Unit → Shared → Prop} (hk : Rm A n) (so : ScOk env sc) (hb : zP sc target d ρ = some ρ') (S : Sa cx A env Mi Mo ρ σ s.heap) (it : tf (zc (Mi ++ Mo) s.heap) s.heap target v d)
  (h : ∀ s', Nz cx A Mi s s' → Sa cx A env Mi Mo ρ' σ s'.heap → Q () s') : wpAny (Mod cx) A (assign target env v) Q E s := by
 rcases pX hb with ⟨x, p, rfl, hl, rfl⟩ | ⟨ts, m, p, ds, rfl, rfl, hl, hb⟩
 ·obtain ⟨as, r⟩ := it
  exact wpAny_assign_Name (store_val (y := .dat d) S (so.loc _ (yl hl)) ⟨as, r⟩ fun s' N S' _ => h s' N S')
 ·refine rJ (it) fun T vals ds' as W0 hT hd r => ?_
  refine (W0) ▸ ?_
  obtain rfl := PyData.tuple.inj hd
  refine zo fun R_ k_ => ?_
  refine yE (kV ts ds ρ ρ' hb) fun e1 e2 e3 => ?_
  refine yE (ci (cx := cx) (A := A) (env := env) ts ds ρ ρ' hb) fun f1 f2 f3 => ?_
  refine k_ ?_
  refine wpAny_assign_Tuple hk.handled hT (by exact f2.symm ▸ e2.symm ▸ (wi r ..) ▸ Array.length_toList.symm ▸ rfl) f3 fun h' hx => ?_
  have kp : ∀ b o, s.heap.get? b = some o → h'.get? b = some o := fun b o e => hx b o (Nat.ne_of_lt (Heap.lt_size e)) e
  obtain N₁ : Nx cx A s { s with heap := h' } := .all kp
  obtain S₁ := S.to N₁ (S.lexkept kp)
  refine oq _ (xc ts ds) vals.toList as ρ _ _ f1 S₁ (kW so ts ds hl.1) ?_ fun s' N S' => h s' ((N₁.z).trans .refl N) (by rw [e1]; exact S')
  rw [e3]
  exact yk (S.seen N₁) r
end
section
variable {cx : Cx} {A : Around} {env : Env} {Mi Mo : List Addr} {ρ : zf} {σ : St} {out : Out} {s : Shared} {n : Nat} {u v : Value}
structure Walker (cx : Cx) (A : Around) (target : Expr) (M : List Addr) (h₀ : Heap) (items : List PyData) (it : Value) (h : Heap) (I : Addr) (fp wr hid : List Addr) (P Md : Nat → Value → Heap → Prop) (St : Nat → Heap → Prop) : Prop where
 it : it = .ref I
 turns : KTurns cx.prog cx.w A target I fp wr items.length P Md St
 st : St 0 h
 sub : ∀ b ∈ wr, b ∈ hid
 new : ∀ b ∈ hid, h₀.get? b = none
 fp : ∀ b ∈ fp, b ∈ hid ∨ (b ∉ M ∧ ∃ o, h₀.get? b = some o)
 live : ∀ i h, St i h → (∀ b ∈ hid, ∃ o, h.get? b = some o) ∧ wJ hid h
 item : ∀ i v h', P i v h' → ∀ g : Heap, (zc M h₀).StaysIn g → g.StaysIn h' → ∃ d, items[i]? = some d ∧ ((yK target = true → ∃ ds, d = .tuple ds) → tf g h' target v d)
 self : ∀ i (s : Shared) (Q : Value → Shared → Prop) (E : Value → Shared → Prop), St i s.heap → Q (.ref I) s → wpAny (Mod cx) A (pyIter (.ref I)) Q E s
noncomputable def vT (cx : Cx) (A : Around) (target : Expr) (M : List Addr) (h₀ : Heap) (items : List PyData) (it : Value) (h : Heap) : Prop :=
 ∃ I fp wr hid P Md St, Walker cx A target M h₀ items it h I fp wr hid P Md St
theorem vT.of {h₀ : Heap} {items : List PyData} {it : Value} {I : Addr} {fp wr : List Addr} (hid : List Addr) {P Md : Nat → Value → Heap → Prop} {St : Nat → Heap → Prop}
  (_ : KTurns cx.prog cx.w A target I fp wr items.length P Md St) (W : Walker cx A target M h₀ items it h I fp wr hid P Md St) : vT cx A target M h₀ items it h := ⟨I, fp, wr, hid, P, Md, St, W⟩
theorem cj {I l : Addr} {i : Nat} {Q : Unit → Shared → Prop} (hit : s.heap.IsListIter I l i) (h : Q () s) : wpAny (Mod cx) A (letOwnedTupleGo target (.ref I) v) Q E s := by
 have key : wpAny (Mod cx) A (letOwnedTupleGo (.List [] ⟨0, 0, 0, 0⟩) (.ref I) v) Q E s := by
  refine yv hit fun o ho hc hd => ?_
  cases v with
  | ref a =>
   show wpAny (Mod cx) A (load I >>= _) Q E s
   refine wpAny_bind (wpAny_load ho ?_)
   rw [hc, hd]
   exact wpAny_pure h
  | _ => exact wpAny_pure h
 cases target with
 | Tuple => exact key
 | List => exact key
 | _ => exact wpAny_pure h
theorem kX {g : Heap} {h₀ : Heap} {l : List PyData} {i : Nat} (r : ReadsAll (zc M h₀) vs l as) (hv : vs[i]? = some v) (kg : (zc M h₀).StaysIn g) (kh : g.StaysIn h') :
  ∃ d, l[i]? = some d ∧ ((yK target = true → ∃ ds, d = .tuple ds) → tf g h' target v d) := by
 have hlt : i < l.length := by rw [← wi r]; exact (List.getElem?_eq_some_iff.mp hv).1
 refine zx (te r (List.getElem?_eq_getElem hlt)) fun w bs hw rw' => ?_
 rw [hv] at hw; refine Option.some.inj hw ▸ ?_
 refine zg (l[i]) (List.getElem?_eq_getElem hlt) (fun ht => ?_)
 unfold tf
 split
 ·refine zd (ht rfl) fun ds e => ?_
  rw [e] at rw' ⊢
  refine pB (reads_tuple_inv (Reads.keeps kg rw')) fun a o ws k e' h1 h2 h3 h4 => ?_
  exact rG a ws ds _ e' (⟨o, kh _ _ h1, h2, k, h3⟩) rfl h4
 ·exact ⟨_, Reads.keeps kg rw'⟩
theorem ck {l : List PyData} (hk : Rm A n) (ru : Rp cx (zc M s.heap) u (.dat (.list l)))
  (h : ∀ it s', Nx cx A s s' → (∀ b o, s.heap.get? b = some o → s'.heap.get? b = some o) → vT cx A target M s.heap l it s'.heap → Q it s') : wpAny (Mod cx) A (pyIter u) Q E s := by
 refine zW (yX ru) fun a vs as W0 hl r1 e1 => ?_
 refine (W0) ▸ ?_
 have hl' := yZ zE hl
 obtain hlt : a < s.heap.objs.size := by refine zb (hl') fun _ e _ => ?_; exact Heap.lt_size e
 refine wpAny_pyIter_list hl' ?_
 obtain kp : ∀ b o, s.heap.get? b = some o → (s.heap.push { cls := .type "list_iterator", data := .fields #[.ref a, .int 0 0] }).get? b = some o := fun _ _ e => Heap.get?_push_of_some _ e
 have W := Walks.list (prog := cx.prog) (w := cx.w) (A := A) hk.handled s.heap.objs.size a (Nat.ne_of_lt hlt) vs.toArray
 obtain W' := KTurns.ofWalks (target := target) W fun i v s Q E st hQ => cj (cx := cx) st.1 hQ
 rw [show vs.toArray.size = l.length by trivial] at W'
 refine h _ _ (.push _) kp (.of [s.heap.objs.size] W' ?_)
 refine ⟨rfl, W', ⟨⟨_, Heap.get?_push_size _ rfl, rfl, rfl⟩, hl'.push _⟩, fun b hb => hb, fun b hb => ?_, fun b hb => ?_, fun i h st => ⟨fun b hb => ?_, fun b hb o e c d => ?_⟩, fun i v h' hP g kg kh => ?_, fun i s Q E st hQ => W.self i s Q E st hQ⟩
 ·rw [mem_singleton.mp hb]; exact Heap.get?_none_of_le (Nat.le_refl _)
 ·refine zh (mem_cons.mp hb) (fun W1 => ?_) fun hb => ?_
  ·refine (W1).symm ▸ ?_; exact .inl (mem_singleton.mpr rfl)
  ·refine (mem_singleton.mp hb ..).symm ▸ ?_
   refine zb (hl) fun o e _ => ?_
   exact .inr ⟨zQ e, o, zH e⟩
 ·rw [mem_singleton.mp hb]
  refine ze (st) fun W2 _ => ?_
  refine zb (W2) fun o e _ => ?_; exact ⟨o, e⟩
 ·rw [mem_singleton.mp hb] at e
  refine ze (st) fun W3 _ => ?_
  refine yv (W3) fun o' e' _ d' => ?_
  rw [e] at e'; (injection e' with e'; subst e'); rw [d] at d'; injection d'
 ·exact kX r1 (by simpa using hP) kg kh
theorem kY : ∀ (l : List PyData) (k i : Nat), (yT k l)[i]? = (l[i]?).map fun d => PyData.tuple [.int ((k + i : Nat) : Int), d]
 | [], k, i => by rfl
 | x :: r, k, 0 => by rfl
 | x :: r, k, i + 1 => by
  dsimp only [yT, List.getElem?_cons_succ]
  rw [kY r (k + 1) i, show k + 1 + i = k + (i + 1) by lia]
theorem oz : ∀ (l : List PyData) (k : Nat), (yT k l).length = l.length
 | [], _ => rfl
 | _ :: r, k => by rw [yT, length_cons, length_cons, oz r]
theorem k6 : ∀ (l m : List PyData) (i : Nat) (x y : PyData), l[i]? = some x → m[i]? = some y → (xX l m)[i]? = some (.tuple [x, y])
 | [], _, _, _, _, h, _ => by simp at h
 | _ :: _, [], _, _, _, _, h => by simp at h
 | a :: r, b :: t, 0, x, y, h1, h2 => by simp at h1 h2; subst h1 h2; rfl
 | a :: r, b :: t, i + 1, x, y, h1, h2 => by
  simp only [xX, List.getElem?_cons_succ] at *
  exact k6 r t i x y h1 h2
theorem oC : ∀ (l m : List PyData), (xX l m).length = min l.length m.length
 | [], _ => by rfl
 | _ :: _, [] => by rfl
 | _ :: r, _ :: t => by rw [xX, length_cons, oC r t, length_cons, length_cons]; lia
theorem cm {elts : List Expr} {tk : Nat} {tp : Pos} {l : List PyData} (hk : Rm A n) (ru : Rp cx (zc M s.heap) u (.dat (.list l)))
  (h : ∀ it s', Nx cx A s s' → (∀ b o, s.heap.get? b = some o → s'.heap.get? b = some o) → vT cx A (.Tuple elts tk tp) M s.heap (yT 0 l) it s'.heap → Q it s') : wpAny (Mod cx) A (call (.type "enumerate") [u]) (fun xv s₁ => wpAny (Mod cx) A (pyIter xv) Q E s₁) E s := by
 refine zW (yX ru) fun a vs as W0 hl r1 e1 => ?_
 refine (W0) ▸ ?_
 obtain hl' := yZ zE hl
 obtain hlt : a < s.heap.objs.size := by refine zb (hl') fun _ e _ => ?_; exact Heap.lt_size e
 refine call_enumerate_list hl' fun h' hE hI hsz kp => ?_
 refine wpAny_pyIter_enum hE ?_
 obtain W := (WalksT.enumerate (prog := cx.prog) (w := cx.w) (A := A) hk.handled (s.heap.objs.size + 1) s.heap.objs.size a (Nat.succ_ne_self _) (ktu_ne 1 hlt) (Nat.ne_of_lt hlt) vs.toArray).toU
 obtain W' := KTurns.ofWalksU (elts := elts) (k := tk) (pos := tp) W
 rw [show vs.toArray.size = (yT 0 l).length by simp [e1, oz]] at W'
 refine h _ { s with heap := h' } (.all kp) kp (.of [s.heap.objs.size + 1, s.heap.objs.size] W' ?_)
 refine ⟨rfl, W', ⟨⟨.none, hE⟩, hI, hl'.at fun o e => kp _ _ e⟩, fun b hb => hb, fun b hb => ?_, fun b hb => ?_, fun i h st => ⟨fun b hb => ?_, fun b hb o e c d => ?_⟩, fun i v h' hP g kg kh => ?_, fun i s Q E st hQ => W.self i s Q E st hQ⟩
 ·refine Heap.get?_none_of_le ?_
  refine zh (mem_cons.mp hb) (fun W1 => ?_) fun hb => ?_
  ·refine (W1) ▸ ?_; exact Nat.le_succ _
  ·rw [mem_singleton.mp hb]; exact Nat.le_refl _
 ·rcases mem_cons.mp hb with rfl | hb
  ·exact .inl (mem_cons_self ..)
  refine zh (mem_cons.mp hb) (fun W2 => ?_) fun hb => ?_
  ·refine (W2).symm ▸ ?_; exact .inl (mem_cons_of_mem _ (mem_singleton.mpr rfl))
  ·refine (mem_singleton.mp hb ..).symm ▸ ?_
   refine zb (hl) fun o e _ => ?_
   exact .inr ⟨zQ e, o, zH e⟩
 ·refine yE (st) fun W3 W4 _ => ?_
  obtain ⟨old, he⟩ := W3
  refine zb (W4) fun o e _ => ?_
  refine zh (mem_cons.mp hb) (fun W5 => ?_) fun hb => ?_
  ·refine (W5) ▸ ?_; exact ⟨_, he⟩
  ·refine (mem_singleton.mp hb ..).symm ▸ ?_; exact ⟨o, e⟩
 ·refine yE (st) fun W6 W7 _ => ?_
  obtain ⟨old, he⟩ := W6
  refine yv (W7) fun o' e' _ d' => ?_
  refine zh (mem_cons.mp hb) (fun W8 => ?_) fun hb => ?_
  ·obtain rfl := W8; have he' : h.get? (s.heap.objs.size + 1) = some _ := he
   rw [e] at he'; (injection he' with he'; subst he'); injection d
  ·rw [mem_singleton.mp hb] at e
   rw [e] at e'; (injection e' with e'; subst e'); rw [d] at d'; injection d'
 ·refine yq (hP) fun T vals W9 Wa hT => ?_
  rw [W9]
  refine zo fun R_ k_ => ?_
  obtain ⟨t, x, hx, rfl⟩ := Wa
  have hlt' : i < l.length := by rw [← e1]; exact (List.getElem?_eq_some_iff.mp (by simpa using hx)).1
  refine zx (te r1 (List.getElem?_eq_getElem hlt')) fun w bs hw rw' => ?_
  refine k_ ?_
  obtain hxw : x = w := by
   obtain this : vs[i]? = some x := by simpa using hx
   rw [this] at hw; exact Option.some.inj hw
  subst hxw
  refine zg (.tuple [.int ((0 + i : Nat) : Int), l[i]]) (by rw [kY, List.getElem?_eq_getElem hlt']; rfl) (fun _ => ?_)
  obtain q : ReadsAll g [.int i t, x] [.int ((0 + i : Nat) : Int), l[i]] ([] ++ (bs ++ [])) := by
   rw [Nat.zero_add]
   exact .cons (.int _ t) (.cons (Reads.keeps kg rw') .nil)
  exact rG T _ _ _ rfl hT rfl q
theorem cn {elts : List Expr} {tk : Nat} {tp : Pos} {l m : List PyData} (hk : Rm A n) (ru : Rp cx (zc M s.heap) u (.dat (.list l))) (rv : Rp cx (zc M s.heap) v (.dat (.list m)))
  (h : ∀ it s', Nx cx A s s' → (∀ b o, s.heap.get? b = some o → s'.heap.get? b = some o) → vT cx A (.Tuple elts tk tp) M s.heap (xX l m) it s'.heap → Q it s') : wpAny (Mod cx) A (call (.type "zip") [u, v]) (fun xv s₁ => wpAny (Mod cx) A (pyIter xv) Q E s₁) E s := by
 refine zW (yX ru) fun a vs as W0 hl r1 e1 => ?_
 refine (W0) ▸ ?_
 refine zW (yX rv) fun b ws bs W1 hm r2 e2 => ?_
 refine (W1) ▸ ?_
 obtain hl' := yZ zE hl
 obtain hm' := yZ zE hm
 have hlt : a < s.heap.objs.size := by refine zb (hl') fun _ e _ => ?_; exact Heap.lt_size e
 have hlt2 : b < s.heap.objs.size := by refine zb (hm') fun _ e _ => ?_; exact Heap.lt_size e
 refine call_zip_2 hl' hm' fun h' hz hTI hTO hi1 hi2 hsz kp => ?_
 refine wpAny_pyIter_zip hz ?_
 obtain D : ZipApart (s.heap.objs.size + 4) (s.heap.objs.size + 2) (s.heap.objs.size + 3) s.heap.objs.size (s.heap.objs.size + 1) a b := ktu_apart _ _ _ hlt hlt2
 obtain W := (WalksT.zip2 (prog := cx.prog) (w := cx.w) (A := A) hk.handled _ _ _ _ _ _ _ D vs.toArray ws.toArray).toU
 obtain W' := KTurns.ofWalksU (elts := elts) (k := tk) (pos := tp) W
 rw [show min vs.toArray.size ws.toArray.size = (xX l m).length by simp [e1, e2, oC]] at W'
 refine h _ { s with heap := h' } (.all kp) kp (.of [s.heap.objs.size + 4, s.heap.objs.size + 2, s.heap.objs.size + 3, s.heap.objs.size, s.heap.objs.size + 1] W' ?_)
 obtain five : ∀ b, b ∈ [s.heap.objs.size + 4, s.heap.objs.size + 2, s.heap.objs.size + 3, s.heap.objs.size, s.heap.objs.size + 1] → b = s.heap.objs.size + 4 ∨ b = s.heap.objs.size + 2 ∨ b = s.heap.objs.size + 3 ∨ b = s.heap.objs.size ∨ b = s.heap.objs.size + 1 := fun b hb => by simpa using hb
 refine ⟨rfl, W', ⟨hz, hTI, ⟨_, _, hTO⟩, hi1, hi2, hl'.at fun o e => kp _ _ e, hm'.at fun o e => kp _ _ e⟩, fun c hc => ?_, fun c hc => ?_, fun c hc => ?_, fun i h st => ⟨fun c hc => ?_, fun c hc o e x d => ?_⟩, fun i v h' hP g kg kh => ?_, fun i s Q E st hQ => W.self i s Q E st hQ⟩
 ·simp only [mem_cons, not_mem_nil, or_false] at hc ⊢
  rcases hc with rfl | rfl | rfl | rfl <;> simp
 ·refine Heap.get?_none_of_le ?_
  rcases five c hc with rfl | rfl | rfl | rfl | rfl <;> lia
 ·simp only [mem_cons, not_mem_nil, or_false] at hc
  rcases hc with rfl | rfl | rfl | rfl | rfl | rfl | rfl
  ·exact .inl (by simp)
  ·exact .inl (by simp)
  ·exact .inl (by simp)
  ·exact .inl (by simp)
  ·exact .inl (by simp)
  ·obtain ⟨o, e, _⟩ := hl; exact .inr ⟨zQ e, o, zH e⟩
  ·obtain ⟨o, e, _⟩ := hm; exact .inr ⟨zQ e, o, zH e⟩
 ·refine lD (st) fun z1 z2 W2 W3 W4 _ => ?_
  refine zM (W2) fun x y z3 => ?_
  refine zb (W3) fun o1 z4 _ => ?_
  refine zb (W4) fun o2 z5 _ => ?_
  rcases five c hc with rfl | rfl | rfl | rfl | rfl
  ·exact ⟨_, z1⟩
  ·exact ⟨_, z2⟩
  ·exact ⟨_, z3⟩
  ·exact ⟨_, z4⟩
  ·exact ⟨_, z5⟩
 ·refine lD (st) fun z1 z2 W5 W6 W7 _ => ?_
  refine zM (W5) fun x' y z3 => ?_
  refine yv (W6) fun o1 z4 _ d4 => ?_
  refine yv (W7) fun o2 z5 _ d5 => ?_
  rcases five c hc with rfl | rfl | rfl | rfl | rfl
  ·have q : h.get? (s.heap.objs.size + 4) = some _ := z1
   rw [e] at q; (injection q with q; subst q); injection d
  ·have q : h.get? (s.heap.objs.size + 2) = some _ := z2
   rw [e] at q; (injection q with q; subst q); injection d
  ·have q : h.get? (s.heap.objs.size + 3) = some _ := z3
   rw [e] at q; (injection q with q; subst q); injection d
  ·rw [e] at z4; (injection z4 with z4; subst z4); rw [d] at d4; injection d4
  ·rw [e] at z5; (injection z5 with z5; subst z5); rw [d] at d5; injection d5
 ·refine yq (hP) fun T vals W8 W9 hT => ?_
  rw [W8]
  refine zo fun R_ k_ => ?_
  refine yq (W9) fun x y hx hy Wa => ?_
  obtain rfl := Wa
  have hx' : vs[i]? = some x := by simpa using hx
  have hy' : ws[i]? = some y := by simpa using hy
  have l1 : i < l.length := by rw [← e1]; exact (List.getElem?_eq_some_iff.mp hx').1
  have l2 : i < m.length := by rw [← e2]; exact (List.getElem?_eq_some_iff.mp hy').1
  refine zx (te r1 (List.getElem?_eq_getElem l1)) fun w1 c1 hw1 rw1 => ?_
  refine zx (te r2 (List.getElem?_eq_getElem l2)) fun w2 c2 hw2 rw2 => ?_
  refine k_ ?_
  rw [hx'] at hw1; obtain rfl := Option.some.inj hw1
  replace hw2 := (hy' ..) ▸ hw2; (injection hw2 with hw2; subst hw2)
  refine (zg _ (k6 l m i _ _ (List.getElem?_eq_getElem l1) (List.getElem?_eq_getElem l2)) (fun _ => (rG T _ _ _ rfl hT rfl (.cons (Reads.keeps kg rw1) (.cons (Reads.keeps kg rw2) .nil)))))
end
section
variable {cx : Cx} {A : Around} {er : Bool} {env : Env} {Mi Mo : List Addr} {ρ : zf} {σ : St} {out : Out} {s : Shared} {n : Nat} {u v : Value} {G : Str → Option V}
noncomputable def co : Bi → Str
 | .len => rY
 | .max => rZ
 | .any => r4
 | .tuple => xO
 | .enumerate => rW
 | .zip => rX
 | .reversed => ve
theorem k7 {b : Bi} (h : xZ f = some b) : f = co b := by
 unfold xZ at h
 cases h1 : f == rY with
 | true => replace h := (h1 ..) ▸ h; refine Option.some.inj h ▸ ?_; exact eq_of_beq h1
 | false =>
 replace h := (h1 ..) ▸ h
 cases h2 : f == rZ with
 | true => replace h := (h2 ..) ▸ h; refine Option.some.inj h ▸ ?_; exact eq_of_beq h2
 | false =>
 replace h := (h2 ..) ▸ h
 cases h3 : f == r4 with
 | true => replace h := (h3 ..) ▸ h; refine Option.some.inj h ▸ ?_; exact eq_of_beq h3
 | false =>
 replace h := (h3 ..) ▸ h
 cases h4 : f == xO with
 | true => replace h := (h4 ..) ▸ h; refine Option.some.inj h ▸ ?_; exact eq_of_beq h4
 | false =>
 replace h := (h4 ..) ▸ h
 cases h5 : f == rW with
 | true => replace h := (h5 ..) ▸ h; refine Option.some.inj h ▸ ?_; exact eq_of_beq h5
 | false =>
 replace h := (h5 ..) ▸ h
 cases h6 : f == rX with
 | true => replace h := (h6 ..) ▸ h; refine Option.some.inj h ▸ ?_; exact eq_of_beq h6
 | false =>
 replace h := (h6 ..) ▸ h
 cases h7 : f == ve with
 | true => replace h := (h7 ..) ▸ h; refine Option.some.inj h ▸ ?_; exact eq_of_beq h7
 | false => replace h := (h7 ..) ▸ h; exact nn h
noncomputable def wj : Bi → Value
 | .len => .builtin "len"
 | .max => .builtin "max"
 | .any => .builtin "any"
 | .tuple => .type "tuple"
 | .enumerate => .type "enumerate"
 | .zip => .type "zip"
 | .reversed => .type "reversed"
theorem cp {b : Bi} (h : xZ f = some b) : (f == ("__debug__" : Str)) = false := by
 rw [k7 h]
 cases b <;> rfl
theorem cq {b : Bi} (W : Wd cx G) (h : xZ f = some b) : cx.mb f = some (wj b) := by
 obtain ⟨b1, b2, b3, b4, b5, b6, b7⟩ := W.bv
 refine (k7 h ..).symm ▸ ?_
 cases b
 ·exact b1
 ·exact b2
 ·exact b3
 ·exact b4
 ·exact b5
 ·exact b6
 ·exact b7
theorem oE {b : Bi} {pos : Pos} (W : Wd cx G) (S : Sa cx A env Mi Mo ρ σ s.heap) (hx : env.kindOf f = some .globalImplicit) (hb : xZ f = some b) (h : Q (wj b) s) : wpAny (Mod cx) A (eval (.Name f pos) env) Q E s :=
 kr W S.ek S.base hx (cp hb) (W.bi f b hb) (cq W hb) h
theorem sJ {g : Heap} {x : V} (r : yM cx g vs [x]) : ∃ u, vs = [u] ∧ Rp cx g u x := by
 match vs, r with
 | [u], r => exact zg u rfl (r.1)
 | [], r => exact r.elim
 | _ :: _ :: _, r => exact r.2.elim
theorem k8 {g : Heap} {x : V} (r : yM cx g vs [x, y]) : ∃ u v, vs = [u, v] ∧ Rp cx g u x ∧ Rp cx g v y := by
 match vs, r with
 | [u, v], r => exact wc u v rfl (r.1) (r.2.1)
 | [], r => exact r.elim
 | [_], r => exact r.2.elim
 | _ :: _ :: _ :: _, r => exact r.2.2.elim
theorem k9 {g : Heap} (r : yM cx g vs []) : vs = [] := by
 match vs, r with
 | [], _ => rfl
 | _ :: _, r => exact r.elim
theorem ja {gl : Str → Bool} (W : Wd cx G) (hk : Rm A n) (SE : yt cx A er env Mi Mo ρ Ex) (hgl : ∀ f, gl f = true → env.kindOf f = some .globalImplicit) {K : List PyData → St → Out}
  (h : src Ex gl (yK target) e K σ = out) (hb : out ≠ .bad) (S : Sa cx A env Mi Mo ρ σ s.heap)
  (hQ : ∀ items σ' it s₀ s', K items σ' = out → zi items.length = true → Nx cx A s s₀ → Nx cx A s₀ s' → (∀ b o, s₀.heap.get? b = some o → s'.heap.get? b = some o) → zq cx s₀.heap (zc (Mi ++ Mo) s₀.heap) σ' → vT cx A target (Mi ++ Mo) s₀.heap items it s'.heap → Q it s')
  (hE : ∀ e s', ErrE cx A er out s e s' → E e s') : wpAny (Mod cx) A (eval e env) (fun xv s₁ => wpAny (Mod cx) A (pyIter xv) Q E s₁) E s := by
 have tup : ∀ {b}, (yK target && b) = true → (∃ elts tk tp, target = .Tuple elts tk tp) ∧ b = true := fun h => by
  refine ⟨?_, (zO h).2⟩
  have h := (zO h).1
  cases target <;> first | exact (vB _ _ _ rfl) | exact ff h
 have plain : u4 Ex e K σ = out → wpAny (Mod cx) A (eval e env) (fun xv s₁ => wpAny (Mod cx) A (pyIter xv) Q E s₁) E s := by
  intro h
  refine SE e _ σ out s _ _ (zr h hb).2 hb S (fun x σ₁ v s₁ hK N₁ R₁ L₁ => ?_) hE
  refine zb (vj hK hb R₁) fun l R₁ hK => ?_
  refine ze (zr hK hb) fun hf hK => ?_
  exact ck hk R₁ fun it s' N' kp W' => hQ _ σ₁ it s₁ s' hK hf N₁ N' kp L₁ W'
 refine y9 (yL h) (fun W0 e1 h => ?_) fun _ h => ?_
 ·obtain ⟨⟨f, args⟩, b⟩ := W0; refine zb (yd e1) fun q e2 e3 => ?_
  refine zb (u6 e3) fun b' hbi e4 => ?_
  cases e4
  have name : ∀ {T}, wj b = .type T → gl f = true → wpAny (Mod cx) A (callWith (Expr.pos e) (.type T) [] (backTo (Expr.pos e) (starEach args env)) []) (fun xv s₁ => wpAny (Mod cx) A (pyIter xv) Q E s₁) E s → wpAny (Mod cx) A (eval e env) (fun xv s₁ => wpAny (Mod cx) A (pyIter xv) Q E s₁) E s := fun {T} hT hg hw => by
   refine zM (pW e2) fun p pos W1 => ?_
   obtain rfl := W1
   exact Call_Name rfl (oE W S (hgl f hg) hbi (by refine (hT ..).symm ▸ ?_; exact hw))
  cases b with
  | enumerate =>
   obtain ⟨hc, h2⟩ := zr (o := xj Ex args _ σ) h hb
   clear h
   obtain ⟨⟨elts, tk, tp, rfl⟩, hc⟩ := tup hc
   refine name rfl hc (PyProof.Rows.callWith_type (uv _ args (zr h2 hb).1) (ta SE _ h2 hb S (fun ds σ₁ vs s₁ hK N₁ R₁ L₁ => ?_) hE))
   refine zo fun R_ k_ => ?_
   refine zb (u9 hK hb) ?_
   clear hK
   intro x W2 hK
   obtain rfl := W2
   refine zb (sJ R₁) fun u W3 ru => ?_
   obtain rfl := W3
   refine zb (vj hK hb ru) fun l ru hK => ?_
   refine ze (zr hK hb) fun hf hK => ?_
   refine k_ ?_
   exact cm hk ru fun it s' N' kp W' => hQ _ σ₁ it s₁ s' hK (by rw [oz]; exact hf) N₁ N' kp L₁ W'
  | zip =>
   obtain ⟨hc, h2⟩ := zr (o := xj Ex args _ σ) h hb
   clear h
   obtain ⟨⟨elts, tk, tp, rfl⟩, hc⟩ := tup hc
   refine name rfl hc (PyProof.Rows.callWith_type (uv _ args (zr h2 hb).1) (ta SE _ h2 hb S (fun ds σ₁ vs s₁ hK N₁ R₁ L₁ => ?_) hE))
   refine zo fun R_ k_ => ?_
   refine zx (ka hK hb) ?_
   clear hK
   intro x y W4 hK
   obtain rfl := W4
   refine yq (k8 R₁) fun u v W5 ru rv => ?_
   obtain rfl := W5
   refine zb (vj (f := fun l => xN y _) hK hb ru) fun l ru hK => ?_
   refine zb (vj hK hb rv) fun m rv hK => ?_
   refine ze (zr hK hb) fun hf hK => ?_
   refine k_ ?_
   refine cn hk ru rv fun it s' N' kp W' => hQ _ σ₁ it s₁ s' hK ?_ N₁ N' kp L₁ W'
   rw [oC]
   exact Nat.ble_eq_true_of_le (Nat.le_trans (Nat.min_le_left _ _) (Nat.le_of_ble_eq_true (zO hf).1))
  | _ => exact plain h
 ·exact plain h
end
noncomputable def xm (env : Env) : zm → List (Str × Addr) → List (Str × Addr)
 | [], cs => cs
 | (y, k) :: r, cs => if k == .free then xm env r ((y, (env.cells.lookup y).getD 0) :: cs) else xm env r cs
theorem cr (h : ∀ p ∈ scope.names, p.2 = .free → ∃ c, env.cells.lookup p.1 = some c) : closureFor scope env = pure (xm env scope.names []) := by
 obtain all : ∀ (names : zm) (cs : List (Str × Addr)), (∀ p ∈ names, p.2 = .free → ∃ c, env.cells.lookup p.1 = some c) →
   (forIn names cs (fun (x : Str × NameKind) (cs : List (Str × Addr)) => if (x.2 == NameKind.free) = true then (cellOf env x.1 >>= fun a => (pure (ForInStep.yield ((x.1, a) :: cs)) : Sem (ForInStep (List (Str × Addr))))) else pure (ForInStep.yield cs))) = pure (xm env names cs) := by
  intro names
  induction names with
  | nil => intro cs _; rfl
  | cons p r ih =>
   intro cs hp
   rw [List.forIn_cons]
   obtain ⟨y, k⟩ := p
   cases hk : k == NameKind.free with
   | true =>
    refine zd (hp (y, k) (.head _) (eq_of_beq hk)) fun c e => ?_
    simp only [if_true, xm, hk]
    obtain e1 : cellOf env y = pure c := by unfold cellOf; rw [e]
    rw [e1, e]
    exact ih _ fun q hq => hp q (.tail _ hq)
   | false =>
    simp only [Bool.false_eq_true, if_false, xm, hk]
    exact ih _ fun q hq => hp q (.tail _ hq)
 obtain q := all scope.names [] h
 obtain e : ∀ m : Sem (List (Str × Addr)), m = pure (xm env scope.names []) → (m >>= fun cs => pure cs) = pure (xm env scope.names []) := by intro m hm; rw [hm]; rfl
 refine e _ (Eq.trans ?_ q)
 congr 1
theorem qk {env : Env} {x : Str} {c : Addr} (he : env.cells.lookup x = some c) : ∀ (names : zm) (cs : List (Str × Addr)), (cs.lookup x = none ∨ cs.lookup x = some c) → (cs.lookup x = some c ∨ ∃ k, (x, k) ∈ names ∧ k = .free) → (xm env names cs).lookup x = some c
 | [], cs, _, h => by
  refine pr h (fun h => ?_) fun k h _ => ?_
  ·exact h
  ·cases h
 | (y, k) :: r, cs, h0, h => by
  dsimp only [xm]
  by_cases hk : (k == NameKind.free) = true
  ·rw [if_pos hk]
   by_cases hy : x = y
   ·refine (hy) ▸ ?_
    refine qk he r _ (.inr ?_) (.inl ?_) <;> · rw [lookup_cons, he]; simp
   ·have e : (x == y) = false := beq_eq_false_iff_ne.mpr hy
    refine qk he r _ ?_ ?_
    ·rw [lookup_cons, e]; exact h0
    ·rw [lookup_cons, e]
     refine pr h (fun h => ?_) fun k' h h' => ?_
     ·exact .inl h
     ·rcases mem_cons.mp h with q | q
      ·(injection q with q; subst q); exact absurd rfl hy
      ·exact .inr ⟨k', q, h'⟩
  ·rw [if_neg hk]
   refine qk he r _ h0 ?_
   rcases h with h | ⟨k', h, h'⟩
   ·exact .inl h
   ·rcases mem_cons.mp h with q | q
    ·cases q; subst h'; exact absurd rfl hk
    ·exact .inr ⟨k', q, h'⟩
theorem ql {x : Str} {k : NameKind} : ∀ {l : zm}, zD x l = some k → (x, k) ∈ l
 | (y, j) :: r, h => by
  dsimp only [zD] at h
  cases e : x == y with
  | true => replace h := (e ..) ▸ h; refine Option.some.inj h ▸ ?_; rw [eq_of_beq e]; exact mem_cons_self ..
  | false => obtain h := (e ..) ▸ h; exact mem_cons_of_mem _ (ql h)
set_option tactic.hygienic true in
theorem ux {sc ns : zm} {ρ : zf} : ∀ {l : zm}, yF sc ρ ns l = true → ∀ p ∈ l, (p.2 = .local → zN ns p.1 = true) ∧ p.2 ≠ .cell ∧ (p.2 = .free → zD p.1 sc = some .cell ∧ (∃ s, zt p.1 ρ = some s) ∧ p.1 ≠ ("__classdict__" : Str))
 | (y, k) :: r, h, p, hp => by
  dsimp only [yF] at h
  rw [Bool.and_eq_true] at h
  refine zh (mem_cons.mp hp) (fun q => ?_) fun q => ?_
  ·subst q
   obtain h1 := h.1
   cases k with
   | «local» => exact yV (fun _ => h1) ((fun e => nomatch e)) ((fun e => nomatch e))
   | cell => exact ff h1
   | free =>
    refine yV ((fun e => nomatch e)) ((fun e => nomatch e)) (fun _ => ?_)
    simp only at h1
    split at h1
    ·rename_i e
     simp only [Bool.and_eq_true, Bool.not_eq_true'] at h1
     refine yV e (Option.isSome_iff_exists.mp h1.1) (fun q => ?_)
     obtain h2 := h1.2
     simp only at q
     rw [q] at h2
     simp at h2
    ·exact ff h1
   | globalImplicit => exact yV ((fun e => nomatch e)) ((fun e => nomatch e)) ((fun e => nomatch e))
   | globalExplicit => exact yV ((fun e => nomatch e)) ((fun e => nomatch e)) ((fun e => nomatch e))
  ·exact ux h.2 p q
theorem jb {k : ScopeKind} (h : xC k = true) : k = .function := by
 cases k <;> first | rfl | exact ff h
set_option tactic.hygienic true in
theorem qm {ns : zm} {x : Str} {s : Sl} : ∀ {ρ : zf}, zt x (y6 ns ρ) = some s → zD x ns = some .free ∧ zt x ρ = some s
 | (y, v) :: r, h => by
  dsimp only [y6] at h
  split at h
  ·rename_i e
   dsimp only [zt] at h
   cases q : y == x with
   | true =>
    rw [q] at h; (injection h with h; subst h)
    refine (eq_of_beq q) ▸ ?_
    exact ⟨e, by dsimp only [zt]; simp⟩
   | false =>
    rw [q] at h
    obtain ⟨a, b⟩ := qm (ρ := r) h
    exact ⟨a, by unfold zt; rw [q]; exact b⟩
  ·rename_i e
   obtain ⟨a, b⟩ := qm (ρ := r) h
   refine ⟨a, ?_⟩
   unfold zt
   cases q : y == x with
   | true => obtain rfl := eq_of_beq q; exact absurd a (fun z => e z)
   | false => exact b
theorem jc {f : Str × NameKind → Str × NameKind} (hf : ∀ p, (f p).1 = p.1) (x : Str) : ∀ l : zm, (l.map f).lookup x = (l.lookup x).map fun k => (f (x, k)).2
 | [] => rfl
 | p :: r => by
  refine (map_cons ..).symm ▸ ?_
  obtain e := hf p
  obtain ⟨y, k⟩ := p
  cases hq : f (y, k) with
  | mk y' k' =>
   rw [hq] at e
   simp only at e
   subst e
   rw [lookup_cons, lookup_cons]
   cases h : x == y' with
   | true => refine (eq_of_beq h) ▸ ?_; simp [hq]
   | false => exact jc hf x r
theorem oF {cl : List (Str × Addr)} {C : Addr} (hk : env.scope.kind = .function) (x : Str) :
  (compEnvC scope cl C env).kindOf x = (zD x scope.names).map fun k => if (k == .free && env.kindOf x == some .cell) then .cell else k := by
 rw [wK]
 show (scope.names.map _).lookup x = _
 rw [jc (fun p => by obtain ⟨a, b⟩ := p; dsimp only; split <;> rfl)]
 cases scope.names.lookup x with
 | none => rfl
 | some k =>
  simp only [Option.map_some, hk]
  obtain e : (ScopeKind.function == ScopeKind.function) = true := rfl
  refine (e ..).symm ▸ (Bool.and_true ..).symm ▸ ?_
  split <;> rfl
section
variable {cx : Cx} {A : Around} {er : Bool} {env : Env} {Mi Mo : List Addr} {ρ : zf} {σ : St} {out : Out} {s : Shared} {n : Nat} {u v : Value} {G : Str → Option V}
theorem cu {l r : Expr} {op : CmpOp} {pos : Pos} {whole : Sem Value} {Q : Bool → Shared → Prop} {M : Model}
  (h : wpAny M A (eval (.Compare l [op] [r] pos) env) (fun c s' => wpAny M A (truthy c) Q E s') E s) : wpAny M A (isTrue (.Compare l [op] [r] pos) env whole) Q E s := by
 obtain e : isTrue (.Compare l [op] [r] pos) env whole = (eval (.Compare l [op] [r] pos) env >>= fun c => holding [c] (truthy c)) := by
  rw [isTrue_Compare1, eval_Compare1]
  simp only [bind_assoc]
 rw [e]
 exact wpAny_bind (wpAny_mono h (fun c s' h' => wpAny_holding h') fun _ _ x => x)
noncomputable def oG (cx : Cx) (A : Around) (er : Bool) (env : Env) (Mi Mo : List Addr) (ρ : zf) (T : Expr → (Bool → St → Out) → St → Out) : Prop :=
 ∀ e K σ out s (Q : Bool → Shared → Prop) (E : Value → Shared → Prop), T e K σ = out → out ≠ .bad → Sa cx A env Mi Mo ρ σ s.heap →
  (∀ b σ' s', K b σ' = out → Nx cx A s s' → zq cx s'.heap (zc (Mi ++ Mo) s'.heap) σ' → Q b s') →
  (∀ e s', ErrE cx A er out s e s' → E e s') → wpAny (Mod cx) A (isTrue e env (eval e env)) Q E s
theorem oH {T : Expr → (Bool → St → Out) → St → Out} (ST : oG cx A er env Mi Mo ρ T) (op : BoolOp) : ∀ es K σ s (Q : Bool → Shared → Prop) (E : Value → Shared → Prop), rV T op es K σ = out → out ≠ .bad → Sa cx A env Mi Mo ρ σ s.heap →
  (∀ b σ' s', K b σ' = out → Nx cx A s s' → zq cx s'.heap (zc (Mi ++ Mo) s'.heap) σ' → Q b s') →
  (∀ e s', ErrE cx A er out s e s' → E e s') → wpAny (Mod cx) A (allTrue op es env) Q E s
 | [], K, σ, s, Q, E, h, hb, S, hQ, hE => by
  cases op with
  | And => exact wpAny_allTrue_And_nil (hQ _ _ _ h .refl S.ok.lex)
  | Or => exact wpAny_allTrue_Or_nil (hQ _ _ _ h .refl S.ok.lex)
 | e :: r, K, σ, s, Q, E, h, hb, S, hQ, hE => by
  cases op with
  | And =>
   refine wpAny_allTrue_And_cons (ST e _ σ out s _ _ h hb S (fun b σ₁ s₁ hK N₁ L₁ => ?_) hE)
   cases b with
   | true => exact oH ST .And r K σ₁ s₁ Q E hK hb (S.to N₁ L₁) (fun b σ₂ s₂ hK₂ N₂ L₂ => hQ b σ₂ s₂ hK₂ (N₁.trans N₂) L₂) fun e s' x => hE _ _ (x.back N₁)
   | false => exact hQ _ _ _ hK N₁ L₁
  | Or =>
   refine wpAny_allTrue_Or_cons (ST e _ σ out s _ _ h hb S (fun b σ₁ s₁ hK N₁ L₁ => ?_) hE)
   cases b with
   | false => exact oH ST .Or r K σ₁ s₁ Q E hK hb (S.to N₁ L₁) (fun b σ₂ s₂ hK₂ N₂ L₂ => hQ b σ₂ s₂ hK₂ (N₁.trans N₂) L₂) fun e s' x => hE _ _ (x.back N₁)
   | true => exact hQ _ _ _ hK N₁ L₁
theorem jd {α : Type} {l : List α} (h : one l = true) : ∃ a, l = [a] := by
 cases l with
 | nil => exact ff h
 | cons a r => exact ⟨a, by exact (x4 h ..).symm ▸ rfl⟩
theorem qn {Ex : Expr → KV → St → Out} (SE : yt cx A er env Mi Mo ρ Ex) : ∀ k, oG cx A er env Mi Mo ρ (tv Ex k)
 | 0 => fun e K σ out s Q E h hb => absurd h.symm hb
 | k + 1 => fun e K σ out s Q E h hb S hQ hE => by
  have plain : Ex e (fun v σ => vc v K σ) σ = out → isTrue e env (eval e env) = (do let v ← eval e env; standAt e.pos; holding [v] (truthy v)) → wpAny (Mod cx) A (isTrue e env (eval e env)) Q E s := by
   intro h he
   refine wpAny_isTrue_value (SE e _ σ out s _ _ h hb S (fun x σ₁ v s₁ hK N₁ R₁ L₁ => ?_) hE) he
   exact kL (S.to N₁ L₁) R₁ hK hb fun b s' hb' N' L' => hQ b σ₁ s' hb' (N₁.trans N') L'
  cases e with
  | BoolOp op vs p => exact wpAny_isTrue_BoolOp (oH (qn SE k) op vs K σ s Q E h hb S hQ hE)
  | UnaryOp => exact absurd h.symm hb
  | IfExp => exact absurd h.symm hb
  | Compare l ops rs p =>
   obtain ⟨ho, h⟩ := zr h hb
   refine ze (zO ho) fun h1 h2 => ?_
   refine zd (jd h1) fun op W0 => ?_
   obtain rfl := W0
   obtain ⟨r, rfl⟩ := jd h2
   refine cu (SE _ _ σ out s _ _ h hb S (fun x σ₁ v s₁ hK N₁ R₁ L₁ => ?_) hE)
   refine zb (dJ hK hb R₁) fun i W1 hK => ?_
   refine (W1) ▸ ?_
   exact wpAny_truthy_bool (hQ _ _ _ hK N₁ L₁)
  | _ => exact plain h rfl
end
section
variable {cx : Cx} {A : Around} {er : Bool} {env : Env} {Mi Mo : List Addr} {ρ : zf} {σ : St} {out : Out} {s : Shared} {n : Nat} {u v : Value} {G : Str → Option V}
theorem cv {pos : Pos} {it acc : Value} {R : Result → Shared → Prop} (I : Nat → Shared → Prop)
  (turn : ∀ n s, I n s → wpAny (Mod cx) A (pyNext it) (fun r s₁ => match r with
   | none => R (.ok .next) s₁
   | some v => wpAny (Mod cx) A (letOwnedTupleGo target it v) (fun _ s₁' => wpAny (Mod cx) A (assign target env v) (fun _ s₂ =>
     wpAny (Mod cx) A (forIn ifs true fun c r => if r = true then do let ok ← isTrue c env (eval c env); pure (ForInStep.yield ok) else pure (ForInStep.yield r)) (fun ok s₃ =>
      if ok = true then wpAny (Mod cx) A (eval elt env) (fun x s₄ => wpAny (Mod cx) A (call (.builtin "list.append") [acc, x]) (fun _ s₅ => ∃ m, m < n ∧ I m s₅) (fun _ _ => False) s₄) (fun _ _ => False) s₃
      else ∃ m, m < n ∧ I m s₃) (fun _ _ => False) s₂) (fun _ _ => False) s₁') (fun _ _ => False) s₁) (fun _ _ => False) s)
  (k : Nat) (h : I k s) : codeAny (Mod cx) A (.compLoop (.ListComp elt [⟨target, iter, ifs, 0⟩] scope pos) 0 it acc env) R s := by
 refine codeAny_loop rfl I (fun n s hI => ?_) k h
 show wpAny _ A ((compTurn (.ListComp elt [⟨target, iter, ifs, 0⟩] scope pos) 0 it acc env).onRaise (fun x => do noteFrame x env; theTreesLotGoes x)) _ _ s
 refine wpAny_noted ?_
 refine (compTurn_list ..).symm ▸ ?_
 refine wpAny_bind (wpAny_standAt (wpAny_bind (wpAny_mono (turn n s hI) (fun r s₁ h₁ => ?_) fun _ _ h' => h'.elim)))
 cases r with
 | none => exact wpAny_pure h₁
 | some v =>
  refine wpAny_bind (wpAny_mono h₁ (fun _ s₁' h₁' => ?_) fun _ _ h' => h'.elim)
  refine wpAny_bind (wpAny_mono h₁' (fun _ s₂ h₂ => wpAny_bind (wpAny_mono h₂ (fun ok s₃ h₃ => ?_) fun _ _ h' => h'.elim)) fun _ _ h' => h'.elim)
  cases ok with
  | false => exact wpAny_pure ⟨rfl, h₃⟩
  | true =>
   exact wpAny_bind (wpAny_bind (wpAny_mono h₃ (fun x s₄ h₄ => wpAny_bind (wpAny_mono h₄ (fun _ s₅ h₅ => wpAny_pure (wpAny_pure ⟨rfl, h₅⟩)) fun _ _ h' => h'.elim)) fun _ _ h' => h'.elim))
theorem cw {T : Expr → (Bool → St → Out) → St → Out} (ST : oG cx A false env Mi Mo ρ T) {K : Bool → St → Out} {Q : Bool → Shared → Prop} (h : uj T ifs K σ = out) (hb : out ≠ .bad) (S : Sa cx A env Mi Mo ρ σ s.heap)
  (hQ : ∀ b σ' s', K b σ' = out → Nx cx A s s' → zq cx s'.heap (zc (Mi ++ Mo) s'.heap) σ' → Q b s') :
  wpAny (Mod cx) A (forIn ifs true fun c r => if r = true then do let ok ← isTrue c env (eval c env); pure (ForInStep.yield ok) else pure (ForInStep.yield r)) Q (fun _ _ => False) s := by
 unfold uj at h
 split at h
 ·exact wpAny_tests_nil (hQ _ _ _ h .refl S.ok.lex)
 ·exact wpAny_tests_one (ST _ K σ out s _ _ h hb S hQ fun e s' x => by cases x.er)
 ·exact absurd h.symm hb
theorem cy {ns : zm} (hx : zD x ns ≠ some .local) (ts : List Expr) (ds : List PyData) (ρ ρ' : zf) (hl : yx ns ts = true) (h : vJ ts ds ρ = some ρ') : zt x ρ' = zt x ρ :=
 bind_ind (M := fun ts ds ρ ρ' => yx ns ts = true → zt x ρ' = zt x ρ) (fun _ _ => rfl) (fun y p r d ds ρ ρ' ih hl => by
  have hl := Bool.and_eq_true_iff.mp hl
  rw [ih hl.2, yO, if_neg]
  intro e
  exact hx (e ▸ yl hl.1)) ts ds ρ ρ' h hl
theorem cz {ns : zm} (hx : zD x ns ≠ some .local) (h : zP ns target d ρ = some ρ') : zt x ρ' = zt x ρ := by
 rcases pX h with ⟨y, p, rfl, hl, rfl⟩ | ⟨ts, m, p, ds, rfl, rfl, hl, h⟩
 ·rw [yO, if_neg]
  intro e
  obtain hx := (e ..) ▸ hx
  exact hx (yl hl)
 ·exact cy hx ts ds ρ ρ' hl.1 h
theorem qp {ns : zm} (h : zP ns target d ρ = some ρ') : yK target = true → ∃ ds, d = .tuple ds := by
 intro ht
 rcases pX h with ⟨y, p, W0, hl, W1⟩ | ⟨ts, m, p, ds, W2, e, hl, h⟩
 ·obtain rfl := W0; obtain rfl := W1; exact ff ht
 ·obtain rfl := W2; exact ⟨ds, e⟩
theorem Sa.less (S : Sa cx A env Mi Mo ρ σ h) (e : ∀ x s, zt x ρ' = some s → zt x ρ = some s) (t : yb ρ' = true ∨ yU ρ' = true) : Sa cx A env Mi Mo ρ' σ h where
 ok := S.ok
 ek := S.ek
 ns := S.ns
 lin := S.lin
 xo := S.xo
 dis := S.dis
 loc := fun x s q => S.loc x s (e x s q)
 two := t
theorem Sa.drop {H : List Addr} (S : Sa cx A env Mi (H ++ Mo) ρ σ h) (S₀ : Sa cx A env Mi Mo ρ σ h ∨ (∀ b ∈ Fs A, b ∈ Mi ++ Mo) ∧ (∀ b ∈ cx.X, b ∈ Mo)) : Sa cx A env Mi Mo ρ σ h := by
 refine xL S₀ (fun S₀ => ?_) fun hf hx => ?_
 ·exact S₀
 have sub : ∀ b ∈ Mi ++ Mo, b ∈ Mi ++ (H ++ Mo) := fun b hb => by
  refine zh (mem_append.mp hb) (fun q => ?_) fun q => ?_
  ·exact mem_append_left _ q
  ·exact mem_append_right _ (mem_append_right _ q)
 obtain kg : (zc (Mi ++ (H ++ Mo)) h).StaysIn (zc (Mi ++ Mo) h) := xk sub
 refine ⟨⟨zZ S.ok.stays kg, fun b hb => S.ok.live b (sub b hb), S.ok.frames, hf, S.ok.fx, fun b hb => mem_append_right _ (hx b hb), S.ok.lex.step kg fun _ _ _ hl => hl⟩, S.ek, S.ns, S.lin, hx, fun b hb q => S.dis b hb (mem_append_right _ q), fun x t e => ?_, S.two⟩
 obtain l := S.loc x t e
 cases t with
 | v z => refine zb (l) fun w h1 h2 => ?_; exact zg w h1 (h2.keeps kg)
 | own1 l' => obtain ⟨e1, e2, a, vs, as, h1, h2, h3, h4⟩ := l; exact ⟨e1, e2, a, vs, as, h1, h2, h3, yk kg h4⟩
 | own2 ll =>
  obtain ⟨e1, e2, a, bs, h1, h2, h3, h4, h5, h6⟩ := l
  obtain k2 : ∀ {bs : List Addr} {ls : List (List PyData)}, zR h (zc (Mi ++ (H ++ Mo)) h) bs ls → zR h (zc (Mi ++ Mo) h) bs ls := by
   intro bs
   induction bs with
   | nil => intro ls r; cases ls <;> exact r
   | cons b r ih =>
    intro ls q
    cases ls with
    | nil => exact q.elim
    | cons l ls => obtain ⟨⟨vs, as, g1, g2⟩, g3⟩ := q; exact ⟨⟨vs, as, g1, yk kg g2⟩, ih g3⟩
  exact ⟨e1, e2, a, bs, h1, h2, h3, h4, h5, k2 h6⟩
end
section
variable {cx : Cx} {A : Around} {er : Bool} {env : Env} {Mi Mo : List Addr} {ρ : zf} {σ : St} {out : Out} {s : Shared} {n : Nat} {u v : Value} {G : Str → Option V}
theorem je {sc ns : zm} (so : ScOk env sc) (hc : yF sc ρ ns ns = true) (S : Sa cx A env Mi Mo ρ σ h) {t : Sl} (e : zt x (y6 ns ρ) = some t) :
  ∃ y u, t = .v y ∧ zD x ns = some .free ∧ (∃ c o, env.cells.lookup x = some c ∧ h.get? c = some o ∧ o.data = .cell (some u)) ∧ env.kindOf x = some .cell ∧ x ≠ ("__classdict__" : Str) ∧ Rp cx (zc (Mi ++ Mo) h) u y := by
 refine ze (qm e) fun hf hr => ?_
 refine yE (ux hc (x, .free) (ql hf)) fun _ _ h3 => ?_
 refine yE (h3 rfl) fun hs _ hd => ?_
 obtain hcell := so.cell x hs
 obtain l := S.loc x t hr
 cases t with
 | own1 l' => refine yE (l) fun _ ek _ => ?_; rw [hcell] at ek; cases ek
 | own2 l' => refine yE (l) fun _ ek _ => ?_; rw [hcell] at ek; cases ek
 | v y =>
  refine zb (l) fun u lo r => ?_
  rcases lo with ⟨hk, _⟩ | ⟨_, c, o, h1, h2, h3⟩
  ·replace hk := (hcell ..) ▸ hk; cases hk
  ·exact ⟨y, u, rfl, hf, ⟨c, o, h1, h2, h3⟩, hcell, hd, r⟩
set_option tactic.hygienic true in
theorem jf {sc ns : zm} (so : ScOk env sc) (hc : yF sc ρ ns ns = true) (S : Sa cx A env Mi Mo ρ σ h) : yb (y6 ns ρ) = true := by
 unfold yb
 split
 ·rename_i e
  refine zx (je so hc S e) fun y u q _ => ?_
  injection q
 ·rfl
theorem cA {sc : zm} {cl : List (Str × Addr)} {C : Addr} (hk : env.scope.kind = .function) (hc : yF sc ρ scope.names scope.names = true) : ScOk (compEnvC scope cl C env) scope.names where
 loc := fun x h => by rw [oF hk, h]; rfl
 glob := fun x h => by rw [oF hk, h]; rfl
 cell := fun x h => absurd rfl (ux hc (x, .cell) (ql h)).2.1
theorem jg {l : Addr} {items : Array Value} {x : Value} (hsz : items.size ≤ sizeLine) (hl : zI s.heap l items)
  (hQ : ∀ h', zI h' l (items.push x) → Heap.SameBut l s.heap h' → Q .none { s with heap := h' }) : wpAny (Mod cx) A (call (.builtin "list.append") [.ref l, x]) Q E s := by
 refine zo fun R_ k_ => ?_
 obtain ⟨⟨cls, dd, data, sl⟩, ho, hc, hn, n, hd⟩ := id hl
 refine k_ ?_
 simp only at hc hn hd
 subst hc hn hd
 obtain hd' : (Obj.mapSeq (·.push x) { cls := .type "list", data := .seq items n, slots := sl } : Obj).data = .seq (items.push x) (n + 1) := by simp [Obj.mapSeq]
 refine wpAny_call_entry slot_list_append hl.list.typeIs entry_list_append ?_ (args_list_append _ _)
 show wpAny _ _ (updateSeq l (·.push x) >>= fun _ => ret .none) _ _ s
 refine wpAny_bind ?_
 refine wpAny_updateSeq ho rfl (wpAny_pure ⟨.none, rfl, hQ _ ?_ (Heap.SameBut.update ..)⟩)
 exact ⟨_, Heap.get?_update_self _ ho (Obj.isFreed_of_seq hd'), Obj.cls_mapSeq .., by dsimp only [Obj.mapSeq], _, hd'⟩
theorem jh {sc : zm} {Ex' : zf → Expr → KV → St → Out} {gl : Str → Bool} {pos : Pos} {K : List PyData → St → Out} {RR : Value → Addr → Result → Shared → Prop}
  (W : Wd cx G) (hk : Rm A n) (so : ScOk env sc) (SE : yt cx A er env Mi Mo ρ Ex) (IH : ∀ env' Mi' Mo' ρ', ScOk env' scope.names → yt cx A false env' Mi' Mo' ρ' (Ex' ρ')) (hgl : ∀ f, gl f = true → env.kindOf f = some .globalImplicit)
  (hfun : scope.kind = .function) (hc : yF sc ρ scope.names scope.names = true)
  (h : src Ex gl (yK target) iter (fun items => compK (fun x => zP scope.names target x (y6 scope.names ρ)) (fun ρ' => uj (tv (Ex' ρ') k) ifs) (fun ρ' => Ex' ρ' elt) items K) σ = out) (hb : out ≠ .bad) (S : Sa cx A env Mi Mo ρ σ s.heap)
  (hQ : ∀ ds σ' C D m s', K ds σ' = out → Nx cx A s s' → s'.heap.Ns C m → s.heap.get? C = none → (∃ o, s'.heap.get? C = some o) → (∃ o, (zc (C :: (Mi ++ Mo)) s'.heap).get? D = some o ∧ o.dict = none) → Rp cx (zc (C :: (Mi ++ Mo)) s'.heap) (.ref D) (.dat (.list ds)) → zq cx s'.heap (zc (C :: (Mi ++ Mo)) s'.heap) σ' → RR (.ref D) C (.ok .next) s')
  (hE : ∀ e s', ErrE cx A er out s e s' → E e s') :
  wpAny (Mod cx) A (eval iter env) (fun x s₁ => wpAny (Mod cx) A (pyIter x) (fun it s₂ => wpAny (Mod cx) A (newList []) (fun acc s₃ => wpAny (Mod cx) A (newFunctionEnv scope env.globals (xm env scope.names []) [] env.qual none .none (some env)) (fun cenv s₄ =>
   codeAny (Mod cx) A (.compStart (.ListComp elt [⟨target, iter, ifs, 0⟩] scope pos) 0 it acc { cenv with scope := relabel scope env }) (RR acc cenv.locals) s₄) E s₃) E s₂) E s₁) E s := by
 refine ja W hk SE hgl h hb S (fun items σ₁ it s₀ s₂ hK hfit N₀ N₂ kp₂ L₀ Wk => ?_) hE
 refine lG (Wk) fun I fp wr hid P Md St Wk => ?_
 have S₀ := S.to N₀ L₀
 obtain hcell : ∀ y ∈ scope.names, y.2 ≠ .cell := fun y hy => (ux hc y hy).2.1
 refine wpAny_newObj_type (wpAny_newFunctionEnv hcell (by intro y hy; simp at hy) (fun h₁ hns₁ hsb₁ => ?_) hfun) (by show (#[] : Array Value).size ≤ sizeLine; decide)
 dsimp only at hns₁ hsb₁ ⊢
 generalize hD : s₂.heap.objs.size = D at hns₁ hsb₁ ⊢
 generalize hH : s₂.heap.push { cls := .type "list", data := .seq ([] : List Value).toArray } = H₂ at hns₁ hsb₁ ⊢
 generalize hC : H₂.objs.size = C at hns₁ hsb₁ ⊢
 have hCD : C = D + 1 := by exact hC ▸ hH ▸ (Heap.size_push ..).symm ▸ hD.symm ▸ rfl
 have old₂ : ∀ b o, s₂.heap.get? b = some o → b ≠ C ∧ b ≠ D := fun b o e => by
  obtain this := Heap.lt_size e
  rw [hD] at this
  exact ⟨fun q => by rw [q, hCD] at this; exact absurd this (Nat.not_lt.mpr (Nat.le_succ _)), fun q => by rw [q] at this; exact Nat.lt_irrefl _ this⟩
 have kp₁ : ∀ b o, s₂.heap.get? b = some o → h₁.get? b = some o := fun b o e => hsb₁.extBut b o (old₂ b o e).1 (Heap.get?_push_of_some _ (hH ▸ Heap.get?_push_of_some _ e))
 have kp : ∀ b o, s₀.heap.get? b = some o → h₁.get? b = some o := fun b o e => kp₁ b o (kp₂ b o e)
 have hDC : D ≠ C := by rw [hCD]; exact Nat.ne_of_lt (Nat.lt_succ_self _)
 have newC : s₀.heap.get? C = none := by
  cases e : s₀.heap.get? C with
  | none => rfl
  | some o => exact absurd rfl (old₂ C o (kp₂ C o e)).1
 have newD : s₀.heap.get? D = none := by
  cases e : s₀.heap.get? D with
  | none => rfl
  | some o => exact absurd rfl (old₂ D o (kp₂ D o e)).2
 have liveM : ∀ b ∈ Mi ++ Mo, ∃ o, s₀.heap.get? b = some o := S₀.ok.live
 have notM : ∀ b, s₀.heap.get? b = none → b ∉ Mi ++ Mo := fun b e q => by refine zd (liveM b q) fun o e' => ?_; rw [e] at e'; injection e'
 have hhid := Wk.new
 have hid₂ : ∀ b ∈ hid, ∃ o, s₂.heap.get? b = some o := (Wk.live 0 _ Wk.st).1
 have hidC : C ∉ hid := fun q => by refine zd (hid₂ C q) fun o e => ?_; exact (old₂ C o e).1 rfl
 have hidD : D ∉ hid := fun q => by refine zd (hid₂ D q) fun o e => ?_; exact (old₂ D o e).2 rfl
 have hacc : zI h₁ D #[] := ⟨_, hsb₁.extBut _ _ hDC (Heap.get?_push_of_some _ (by rw [← hH, ← hD]; exact Heap.get?_push_size _ rfl)), rfl, rfl, 0, rfl⟩
 have st₁ : St 0 h₁ := Wk.turns.frame _ _ _ Wk.st fun b _ o e => kp₁ b o e
 have hMo : ∀ b ∈ Mi ++ Mo, b ∈ D :: (hid ++ (Mi ++ Mo)) := fun b hb => mem_cons_of_mem _ (mem_append_right _ hb)
 have kg₁ : (zc (Mi ++ Mo) s₀.heap).StaysIn (zc ([C] ++ (D :: (hid ++ (Mi ++ Mo)))) h₁) := fun b o e => by
  obtain e' := zH e
  refine vis_get (kp b o e') fun q => ?_
  simp only [cons_append, nil_append, mem_cons, mem_append] at q
  rcases q with rfl | rfl | q | q
  ·rw [newC] at e'; injection e'
  ·rw [newD] at e'; injection e'
  ·rw [hhid b q] at e'; injection e'
  ·exact zQ e (mem_append.mpr q)
 have S₁ : Sa cx A (compEnvC scope (xm env scope.names []) C env) [C] (D :: (hid ++ (Mi ++ Mo))) (y6 scope.names ρ) σ₁ h₁ := by
  refine ⟨⟨zZ S₀.ok.stays kg₁, fun b hb => ?_, ?_, fun b hb => mem_append_right _ (hMo b (S₀.ok.fin b hb)), S₀.ok.fx, fun b hb => mem_append_right _ (hMo b (S₀.ok.xin b hb)), S₀.ok.lex.step kg₁ fun b hb vs hl => ?_⟩,
   ⟨hfun, S₀.ek.globals, S₀.ek.builtins⟩, ⟨_, hns₁⟩, mem_singleton.mpr rfl, fun b hb => hMo b (S₀.ok.xin b hb), fun b hb q => ?_, fun x t e => ?_, .inl (jf so hc S₀)⟩
  ·simp only [cons_append, nil_append, mem_cons, mem_append] at hb
   rcases hb with rfl | rfl | hb | hb
   ·refine y5 (hns₁) fun o _ _ e _ => ?_; exact ⟨o, e⟩
   ·refine zb (hacc) fun o e _ => ?_; exact ⟨o, e⟩
   ·refine zd (hid₂ b hb) fun o e => ?_; exact ⟨o, kp₁ b o e⟩
   ·refine zd (liveM b (mem_append.mpr hb)) fun o e => ?_; exact ⟨o, kp b o e⟩
  ·refine zb (S₀.ok.frames) fun frs e f => ?_
   exact zg frs e (f.of_keeps fun b o hb _ => (zg o (kp b o hb) rfl))
  ·refine zb (hl) fun o e r => ?_; exact zg o (kp b o e) r
  ·rw [mem_singleton.mp hb] at q
   simp only [mem_cons, mem_append] at q
   refine rH q (fun q => ?_) (fun q => ?_) fun q => ?_
   ·exact hDC q.symm
   ·exact hidC q
   ·exact notM C newC (mem_append.mpr q)
  ·obtain ⟨y, u, W0, hf, W1, hcl, hnd, r⟩ := je so hc S₀ e
   rw [W0]
   refine yq (W1) fun c o c1 c2 c3 => ?_
   refine zg u (.inr ⟨.inl ?_, c, o, ?_, kp c o c2, c3⟩) (r.keeps kg₁)
   ·rw [oF S₀.ek.kind, hf]
    simp [hcl]
   ·exact qk c1 scope.names [] (.inl rfl) (.inr ⟨.free, ql hf, rfl⟩)
 have so' : ScOk (compEnvC scope (xm env scope.names []) C env) scope.names := cA S₀.ek.kind hc
 have fpk : ∀ (h h' : Heap), (∀ b ∈ hid, ∀ o, h.get? b = some o → h'.get? b = some o) → (∀ b o, b ∉ [C] ++ (D :: (hid ++ (Mi ++ Mo))) → h.get? b = some o → h'.get? b = some o) → ∀ b ∈ fp, ∀ o, h.get? b = some o → h'.get? b = some o := by
  intro h h' k1 k2 b hb o e
  rcases Wk.fp b hb with q | ⟨q1, o₀, q2⟩
  ·exact k1 b q o e
  ·refine k2 b o (fun z => ?_) e
   simp only [cons_append, nil_append, mem_cons, mem_append] at z
   rcases z with rfl | rfl | z | z
   ·rw [newC] at q2; injection q2
   ·rw [newD] at q2; injection q2
   ·rw [hhid b z] at q2; injection q2
   ·exact q1 (mem_append.mpr z)
 have hFC : ∀ b ∈ Fs A, b ∉ D :: hid := fun b hb q => by
  refine zd (liveM b (S₀.ok.fin b hb)) fun o e => ?_
  refine zh (mem_cons.mp q) (fun W2 => ?_) fun q => ?_
  ·obtain rfl := W2; rw [newD] at e; injection e
  ·rw [hhid b q] at e; injection e
 have hXn : ∀ b ∈ cx.X, b ∉ D :: hid := fun b hb q => by
  refine zd (liveM b (S₀.ok.xin b hb)) fun o e => ?_
  refine zh (mem_cons.mp q) (fun W3 => ?_) fun q => ?_
  ·obtain rfl := W3; rw [newD] at e; injection e
  ·rw [hhid b q] at e; injection e
 obtain loop : ∀ s₃ : Shared, s₃ = { s₂ with heap := h₁, toks := s₃.toks } →
   codeAny (Mod cx) A (.compLoop (.ListComp elt [⟨target, iter, ifs, 0⟩] scope pos) 0 (.ref I) (.ref D) (compEnvC scope (xm env scope.names []) C env)) (RR (.ref D) C) s₃ := by
  intro s₃ e₃
  refine cv
   (fun k' s' => ∃ i ds ys as σi, i ≤ items.length ∧ k' = items.length + 1 - i ∧ s' = { s₂ with heap := s'.heap, toks := s'.toks } ∧ St i s'.heap ∧ zI s'.heap D (List.toArray ys) ∧
    ReadsAll (zc ([C] ++ (D :: (hid ++ (Mi ++ Mo)))) s'.heap) ys ds as ∧ ys.length ≤ i ∧ Sa cx A (compEnvC scope (xm env scope.names []) C env) [C] (D :: (hid ++ (Mi ++ Mo))) (y6 scope.names ρ) σi s'.heap ∧
    Kp cx.X (Fs A) s₀.heap s'.heap ∧
    compK (fun x => zP scope.names target x (y6 scope.names ρ)) (fun ρ' => uj (tv (Ex' ρ') k) ifs) (fun ρ' => Ex' ρ' elt) (items.drop i) (fun es => K (ds ++ es)) σi = out) ?_ (items.length + 1)
   ⟨0, [], [], [], σ₁, Nat.zero_le _, rfl, by rw [e₃], by rw [e₃]; exact st₁, by rw [e₃]; exact hacc, .nil, Nat.le_refl _, by rw [e₃]; exact S₁, by rw [e₃]; exact .of_all kp, hK⟩
  rintro k' s' ⟨i, ds, ys, as, σi, hi, rfl, e', st', hl', hr', hyl, S', kp', hrun⟩
  by_cases hlt : i < items.length
  ·refine Wk.turns.item i _ _ _ hlt st' fun v h₂ tk₂ hMd k₂ => ?_
   refine Wk.turns.go i v _ _ _ hMd fun h₃ hP st₃ k₃ => ?_
   have k23 : ∀ b o, b ∉ wr → s'.heap.get? b = some o → h₃.get? b = some o := fun b o hb e => k₃ b o hb (k₂ b o hb e)
   have Z₃ : Kp (D :: hid) (Fs A) s'.heap h₃ := .of_keeps fun b o hb e => k23 b o (fun q => hb (mem_cons_of_mem _ (Wk.sub b q))) e
   have live₃ : ∀ b ∈ D :: hid, ∃ o, h₃.get? b = some o := fun b hb => by
    refine zh (mem_cons.mp hb) (fun W4 => ?_) fun hb => ?_
    ·refine (W4) ▸ ?_; refine zb (hl') fun o e _ => ?_
     exact ⟨o, k23 _ o (fun q => hidD (Wk.sub _ q)) e⟩
    ·exact (Wk.live _ _ st₃).1 b hb
   have nc₃ : wJ (D :: hid) s'.heap := fun b hb o e c d => by
    refine zh (mem_cons.mp hb) (fun W5 => ?_) fun hb => ?_
    ·obtain rfl := W5; obtain ⟨o', e'', _, _, nn, d'⟩ := hl'
     rw [e] at e''; (injection e'' with e''; subst e''); rw [d] at d'; injection d'
    ·exact (Wk.live _ _ st').2 b hb o e c d
   have inZ : ∀ b ∈ D :: hid, b ∈ D :: (hid ++ (Mi ++ Mo)) := fun b hb => by
    refine zh (mem_cons.mp hb) (fun W6 => ?_) fun hb => ?_
    ·refine (W6) ▸ ?_; exact mem_cons_self ..
    ·exact mem_cons_of_mem _ (mem_append_left _ hb)
   have kg₃ : (zc ([C] ++ (D :: (hid ++ (Mi ++ Mo)))) s'.heap).StaysIn (zc ([C] ++ (D :: (hid ++ (Mi ++ Mo)))) h₃) := Z₃.seen (fun b hb => mem_append_right _ (inZ b hb)) S'.ok.fin
   have L₃ : zq cx h₃ (zc ([C] ++ (D :: (hid ++ (Mi ++ Mo)))) h₃) σi := S'.ok.lex.step kg₃ fun b hb vs hl => by
    refine zb (hl) fun o e r => ?_
    exact (zg o (k23 b o (fun q => hXn b hb (mem_cons_of_mem _ (Wk.sub b q))) e) (r))
   have S₃ := S'.step Z₃ inZ hFC live₃ nc₃ L₃
   have kgv : (zc (Mi ++ Mo) s₀.heap).StaysIn (zc ([C] ++ (D :: (hid ++ (Mi ++ Mo)))) h₃) := fun b o e => by
    obtain e1 := zH e
    have nb : b ∉ [C] ++ (D :: (hid ++ (Mi ++ Mo))) := fun q => by
     simp only [cons_append, nil_append, mem_cons, mem_append] at q
     rcases q with rfl | rfl | q | q
     ·rw [newC] at e1; injection e1
     ·rw [newD] at e1; injection e1
     ·rw [hhid b q] at e1; injection e1
     ·exact zQ e (mem_append.mpr q)
    refine vis_get (k23 b o (fun q => ?_) (kp'.at (fun q => zQ e (S₀.ok.xin b q)) e1 fun q => zQ e (S₀.ok.fin b q))) nb
    rw [hhid b (Wk.sub b q)] at e1; injection e1
   refine zb (Wk.item i v h₃ hP _ kgv zE) fun d hd hit => ?_
   obtain hdrop : items.drop i = d :: items.drop (i + 1) := by
    rw [List.drop_eq_getElem_cons hlt]
    congr 1
    rw [List.getElem?_eq_getElem hlt] at hd
    exact Option.some.inj hd
   rw [hdrop] at hrun
   refine zb (zA hrun hb) fun ρ₁ hbind hrun => ?_
   refine ou hk so' hbind S₃ (hit (qp hbind)) fun s₄ N₄ S₄ => ?_
   obtain kp₄ : ∀ b o, b ∉ [C] ++ cx.X → h₃.get? b = some o → ∃ sl, s₄.heap.get? b = some { o with slots := sl } := fun b o hb e => (N₄.kp b o hb e).1
   refine cw (qn (IH _ _ _ _ so') k) hrun hb S₄ fun ok σ₅ s₅ hK₅ N₅ L₅ => ?_
   obtain S₅ := S₄.to N₅ L₅
   have Zkeep : ∀ {s₆ : Shared}, Nx cx A s₅ s₆ → Kp ([C] ++ cx.X) (Fs A) h₃ s₆.heap := fun {s₆} N₆ =>
    N₄.kp.trans ((N₅.trans N₆).kp.mono (fun b hb => mem_append_right _ hb) fun _ hb => hb)
   obtain noF : ∀ b, b ∈ hid ∨ b = D → b ∉ [C] ++ cx.X ∧ b ∉ Fs A := fun b hb => by
    refine ⟨fun q => ?_, fun q => ?_⟩
    ·refine zh (mem_append.mp q) (fun q => ?_) fun q => ?_
     ·rw [mem_singleton.mp q] at hb
      refine zh hb (fun hb => ?_) fun hb => ?_
      ·exact hidC hb
      ·exact hDC hb.symm
     ·exact hXn b q (by refine zh hb (fun hb => ?_) fun hb => ?_; exact mem_cons_of_mem _ hb; rw [hb]; exact mem_cons_self ..)
    ·exact hFC b q (by refine zh hb (fun hb => ?_) fun hb => ?_; exact mem_cons_of_mem _ hb; rw [hb]; exact mem_cons_self ..)
   have stKeep : ∀ {s₆ : Shared}, Nx cx A s₅ s₆ → St (i + 1) s₆.heap := fun {s₆} N₆ => by
    have z := Zkeep N₆
    refine Wk.turns.frame _ _ _ st₃ (fpk _ _ (fun b hb o e => z.at (noF b (.inl hb)).1 e (noF b (.inl hb)).2) fun b o hb e => z.at (fun q => hb ?_) e fun q => hb (mem_append_right _ (hMo b (S₀.ok.fin b q))))
    rcases mem_append.mp q with q | q
    ·exact mem_append_left _ q
    ·exact mem_append_right _ (hMo b (S₀.ok.xin b q))
   have lKeep : ∀ {s₆ : Shared}, Nx cx A s₅ s₆ → zI s₆.heap D (List.toArray ys) := fun {s₆} N₆ => by
    obtain ⟨o, e, r⟩ := hl'
    exact (zg o ((Zkeep N₆).at (noF D (.inr rfl)).1 (k23 D o (fun q => hidD (Wk.sub _ q)) e) (noF D (.inr rfl)).2) (r))
   have rKeep : ∀ {s₆ : Shared}, Nx cx A s₅ s₆ → ReadsAll (zc ([C] ++ (D :: (hid ++ (Mi ++ Mo)))) s₆.heap) ys ds as := fun {s₆} N₆ => by
    refine yk ((Zkeep N₆).seen (fun b hb => ?_) S'.ok.fin) (yk kg₃ hr')
    rcases mem_append.mp hb with q | q
    ·exact mem_append_left _ q
    ·exact mem_append_right _ (hMo b (S₀.ok.xin b q))
   have kpKeep : ∀ {s₆ : Shared}, Nx cx A s₅ s₆ → Kp cx.X (Fs A) s₀.heap s₆.heap := fun {s₆} N₆ => fun b o hb e => by
    refine ze (kp' b o hb e) fun W7 k1 => ?_
    refine zd (W7) fun sl e1 => ?_
    have nw : b ∉ wr := fun q => by rw [hhid b (Wk.sub b q)] at e; injection e
    have nC : b ∉ [C] ++ cx.X := fun q => by
     refine zh (mem_append.mp q) (fun q => ?_) fun q => ?_
     ·rw [mem_singleton.mp q, newC] at e; injection e
     ·exact hb q
    refine ze (Zkeep N₆ b _ nC (k23 b _ nw e1)) fun W8 _ => ?_
    refine zd (W8) fun sl' e2 => ?_
    exact ⟨⟨sl', e2⟩, fun hf => (Zkeep N₆).at nC (k23 b _ nw (k1 hf)) hf⟩
   have fwd : ∀ x t, zt x (y6 scope.names ρ) = some t → zt x ρ₁ = some t := fun x t e => by
    rw [cz (fun q => ?_) hbind]
    ·exact e
    ·replace q := ((qm e).1 ..) ▸ q; cases q
   have two₀ : yb (y6 scope.names ρ) = true ∨ yU (y6 scope.names ρ) = true := .inl (jf so hc S₀)
   have eq₅ : ∀ {s₆ : Shared}, Nx cx A s₅ s₆ → s₆ = { s₂ with heap := s₆.heap, toks := s₆.toks } := fun {s₆} N₆ => by
    rw [N₆.eq, N₅.eq, N₄.eq]
    simp only
    rw [e']
   cases ok with
   | false =>
    exact ⟨items.length + 1 - (i + 1), by lia, i + 1, ds, ys, as, σ₅, hlt, rfl, eq₅ .refl, stKeep .refl, lKeep .refl, rKeep .refl, Nat.le_succ_of_le hyl, S₅.less fwd two₀, kpKeep .refl, hK₅⟩
   | true =>
    refine IH _ _ _ _ so' elt _ σ₅ out s₅ _ _ hK₅ hb S₅ (fun x σ₆ y s₆ hK₆ N₆ R₆ L₆ => ?_) fun e s' x => by cases x.er
    refine zb (wx hK₆ hb R₆) fun d' W9 hK₆ => ?_
    obtain ⟨bs, r₆⟩ := W9
    ·obtain S₆ := S₅.to N₆ L₆
     obtain hl₆ := lKeep N₆
     obtain hz : (List.toArray ys).size ≤ sizeLine := by
      obtain this := yN hfit
      rw [size_toArray]; lia
     refine jg hz hl₆ fun h₇ hl₇ hs₇ => ?_
     obtain Z₇ : Kp [D] (Fs A) s₆.heap h₇ := .of_keeps fun b o hb e => (hs₇.2 b fun q => hb (mem_singleton.mpr q)).trans e
     obtain inD : ∀ b ∈ [D], b ∈ D :: (hid ++ (Mi ++ Mo)) := fun b hb => by refine (mem_singleton.mp hb ..).symm ▸ ?_; exact mem_cons_self ..
     obtain kg₇ := Z₇.seen (M := [C] ++ (D :: (hid ++ (Mi ++ Mo)))) (fun b hb => mem_append_right _ (inD b hb)) S₆.ok.fin
     obtain S₇ := S₆.step Z₇ inD (fun b hb q => hFC b hb (by rw [mem_singleton.mp q]; exact mem_cons_self ..)) (fun b hb => by rw [mem_singleton.mp hb]; refine zb (hl₇) fun o e _ => ?_; exact ⟨o, e⟩)
      (.lists fun b hb => by rw [mem_singleton.mp hb]; exact ⟨_, hl₆.list⟩) (S₆.ok.lex.step kg₇ fun b hb vs hl => by
       refine zb (hl) fun o e r => ?_
       exact (zg o ((hs₇.2 b fun q => hXn b hb (by rw [q]; exact mem_cons_self ..)).trans e) (r)))
     obtain ⟨cs, r₇⟩ := td (yk kg₇ (rKeep N₆)) (.cons (Reads.keeps kg₇ r₆) .nil)
     refine ⟨items.length + 1 - (i + 1), by lia, i + 1, ds ++ [d'], ys ++ [y], cs, σ₆, hlt, rfl, ?_, ?_, ?_, r₇, ?_, S₇.less fwd two₀, ?_, ?_⟩
     ·obtain q := eq₅ N₆
      show ({ s₆ with heap := h₇ } : Shared) = _
      exact q.symm ▸ rfl
     ·exact Wk.turns.frame _ _ _ (stKeep N₆) fun b hb o e => by
       refine (hs₇.2 b fun q => ?_).trans e
       rcases Wk.fp b hb with z | ⟨_, o₀, z⟩
       ·exact hidD (q ▸ z)
       ·rw [q, newD] at z; injection z
     ·obtain q : (List.toArray ys).push y = (ys ++ [y]).toArray := by simp
      rw [← q]; exact hl₇
     ·rw [length_append, List.length_singleton]; exact Nat.succ_le_succ ‹_›
     ·intro b o hb e
      refine ze (kpKeep N₆ b o hb e) fun Wa k1 => ?_
      refine zd (Wa) fun sl e1 => ?_
      have nD : b ≠ D := fun q => by rw [q, newD] at e; injection e
      exact ⟨⟨sl, (hs₇.2 b nD).trans e1⟩, fun hf => (hs₇.2 b nD).trans (k1 hf)⟩
     ·show compK _ _ _ _ (fun es => K (ds ++ [d'] ++ es)) σ₆ = out
      obtain q : (fun es => K (ds ++ [d'] ++ es)) = fun es => K (ds ++ (d' :: es)) := by
       funext es; rw [append_assoc]; rfl
      rw [q]; exact hK₆
  ·obtain hin : i = items.length := Nat.le_antisymm hi (Nat.not_lt.mp hlt)
   subst hin
   refine Wk.turns.done _ _ _ st' fun h₂ tk₂ k₂ => ?_
   rw [List.drop_length] at hrun
   have hrun' : K ds σi = out := by refine (append_nil ds ..) ▸ ?_; exact hrun
   have newX : ∀ b, s₀.heap.get? b = none → s.heap.get? b = none := fun b e => by
    cases e' : s.heap.get? b with
    | none => rfl
    | some o =>
     by_cases hx : b ∈ cx.X
     ·obtain ⟨o', q⟩ := liveM b (S₀.ok.xin b hx); rw [e] at q; cases q
     ·obtain ⟨o', q⟩ := N₀.kp.ex hx e'; rw [e] at q; cases q
   have Z : Kp hid (Fs A) s'.heap h₂ := .of_keeps fun b o hb e => k₂ b o (fun q => hb (Wk.sub b q)) e
   have inZ : ∀ b ∈ hid, b ∈ [C] ++ (D :: (hid ++ (Mi ++ Mo))) := fun b hb => mem_append_right _ (mem_cons_of_mem _ (mem_append_left _ hb))
   have kg₂ := (Z.seen inZ S'.ok.fin)
   have less : (zc ([C] ++ (D :: (hid ++ (Mi ++ Mo)))) h₂).StaysIn (zc (C :: (Mi ++ Mo)) h₂) := xk fun b hb => by
    refine zh (mem_cons.mp hb) (fun q => ?_) fun q => ?_
    ·rw [q]; exact mem_append_left _ (mem_singleton.mpr rfl)
    ·exact mem_append_right _ (hMo b q)
   obtain ⟨m', hm'⟩ := S'.ns
   obtain hnC : h₂.Ns C m' := by
    refine y5 (hm') fun o es ep e r => ?_
    exact w7 o es ep (k₂ C o (fun q => hidC (Wk.sub _ q)) e) (r)
   refine hQ ds σi C D m' _ hrun' (N₀.trans ⟨?_, ?_⟩) hnC (newX C newC) ?_ ?_ ?_ ?_
   ·show ({ s' with heap := h₂, toks := tk₂ } : Shared) = _
    exact e'.symm ▸ N₂.eq.symm ▸ rfl
   ·intro b o hb e
    refine ze (kp' b o hb e) fun Wb k1 => ?_
    refine zd (Wb) fun sl e1 => ?_
    have nw : b ∉ wr := fun q => by rw [hhid b (Wk.sub b q)] at e; injection e
    exact ⟨⟨sl, k₂ b _ nw e1⟩, fun hf => k₂ b o nw (k1 hf)⟩
   ·refine y5 (hnC) fun o _ _ e _ => ?_; exact ⟨o, e⟩
   ·refine pz (hl') fun o e _ hndd _ => ?_
    refine (zg o (vis_get (k₂ D o (fun q => hidD (Wk.sub _ q)) e) (fun q => ?_)) (hndd))
    refine zh (mem_cons.mp q) (fun q => ?_) fun q => ?_
    ·exact hDC q
    ·exact notM D newD q
   ·obtain ⟨o, e, hcl, hndd, nn, hd⟩ := hl'
    refine ⟨_, reads_list_at (vis_get (k₂ D o (fun q => hidD (Wk.sub _ q)) e) fun q => ?_) hcl hd (yk less (yk kg₂ hr'))⟩
    refine zh (mem_cons.mp q) (fun q => ?_) fun q => ?_
    ·exact hDC q
    ·exact notM D newD q
   ·exact S'.ok.lex.step (zZ kg₂ less) fun b hb vs hl => by
     refine zb (hl) fun o e r => ?_
     exact (zg o (k₂ b o (fun q => hXn b hb (mem_cons_of_mem _ (Wk.sub b q))) e) (r))
 refine (Wk.it ..).symm ▸ ?_
 exact codeAny_compStart_list (loop _ rfl) (Wk.self 0 _ _ _ st₁ (loop _ rfl))
end
section
open PySem.F
theorem cC : checkTypeCall "tuple" ⟨[], []⟩ = pure () := by kernel_rfl
theorem cD : checkBuiltinCall "tuple.__new__" ⟨[.type "tuple"], []⟩ = pure () := by kernel_rfl
theorem cF (a : Value) : argsOk "object.__init__" ⟨[a], []⟩ := by unfold argsOk; kernel_rfl
theorem cG : Meets (Builtin.«tuple.__new__» ⟨[.type "tuple"], []⟩)
   (fun _ R s => R (.ok (.ret (.ref s.heap.objs.size))) { s with heap := s.heap.push { cls := .type "tuple", data := .seq #[] } }) :=
 .of_wp fun prog w A R s h => by
  obtain ⟨hp, g, d, tk, os⟩ := s
  obtain hsub := sub_tuple_self
  obtain hinit := init_tuple_lookup
  obtain hmh := madeHere_tuple
  wp_walk
  exact ⟨_, rfl, h⟩
theorem cH {prog : Program} {w : World} {A : Around}
  (h : Q (.ref s.heap.objs.size) { s with heap := s.heap.push { cls := .type "tuple", data := .seq #[] } }) : wpAny (model prog w) A (call (.type "tuple") []) Q E s :=
 callType_new F.called_tuple (by rfl) cC cD (fun obj => cF obj) F.entry_tuple_new
  cG ⟨⟨_, Heap.get?_push_size _ rfl, rfl⟩, h⟩
end
section
variable {cx : Cx} {A : Around} {env : Env} {Mi Mo : List Addr} {ρ : zf} {σ : St} {out : Out} {s : Shared} {n : Nat} {u v : Value} {Q E : Value → Shared → Prop}
theorem ji : ∀ (l : List Int) (m y : Int), wu m (l ++ [y]) = if wu m l < y then y else wu m l
 | [], m, y => by
  show wu (cond (decide (m < y)) y m) [] = if m < y then y else m
  dsimp only [wu]
  by_cases h : m < y <;> simp [h]
 | x :: r, m, y => ji r _ y
theorem jj (val : Nat → Int) : ∀ (k : Nat), val (argBest (fun i j => decide (val i > val j)) k) = wu (val 0) ((List.range k).map fun i => val (i + 1))
 | 0 => rfl
 | k + 1 => by
  rw [List.range_succ, map_append, List.map_singleton, ji, ← jj val k]
  show val (if decide (val (k + 1) > val (argBest (fun i j => decide (val i > val j)) k)) = true then k + 1 else argBest (fun i j => decide (val i > val j)) k) = _
  by_cases h : val (argBest (fun i j => decide (val i > val j)) k) < val (k + 1)
  ·rw [if_pos h, if_pos (by simpa using h)]
  ·rw [if_neg h, if_neg (by simpa using h)]
theorem cI : ∀ {vs : List Value} {ns : List Int}, IntsAre vs ns → ∃ ps : List (Int × Tok), vs.toArray = intItems ps.toArray ∧ ps.map (·.1) = ns := by
 intro vs ns h
 induction h with
 | nil => exact zg ([]) (by simp [intItems]) rfl
 | cons n t r ih =>
  refine zb (ih) fun ps e1 e2 => ?_
  refine zg ((n, t) :: ps) ?_ (by rw [← e2]; rfl)
  obtain e1' := congrArg Array.toList e1
  simp only [intItems, List.map_toArray] at e1' ⊢
  rw [map_cons, e1']
theorem cJ (ps : List (Int × Tok)) (x : Int) (xs : List Int) (e : ps.map (·.1) = x :: xs) : numAt ps.toArray 0 = x ∧ (List.range (ps.length - 1)).map (fun i => numAt ps.toArray (i + 1)) = xs := by
 cases ps with
 | nil => injection e
 | cons p r =>
  simp only [map_cons, List.cons.injEq] at e
  refine ⟨by simpa [numAt] using e.1, ?_⟩
  rw [← e.2]
  refine List.ext_getElem (by simp) fun i h1 h2 => ?_
  obtain h3 : i < r.length := by simpa using h2
  simp [numAt, h3]
theorem cK {l : List PyData} {x : Int} {xs : List Int} (S : Sa cx A env Mi Mo ρ σ s.heap) (hk : Rm A n) (ru : Rp cx (zc (Mi ++ Mo) s.heap) u (.dat (.list l))) (hi : va l = some (x :: xs))
  (h : Fin cx A (Mi ++ Mo) σ s (.dat (.int (wu x xs))) Q) : wpAny (Mod cx) A (call (.builtin "max") [u]) Q E s := by
 refine zW (yX ru) fun a vs as W0 hl r1 e1 => ?_
 refine (W0) ▸ ?_
 refine zb (cI (kD r1 hi)) fun ps e2 e3 => ?_
 obtain hl' := yZ zE hl
 rw [e2] at hl'
 refine ze (cJ ps x xs e3) fun q1 q2 => ?_
 obtain hlen : ps.length = xs.length + 1 := by
  obtain this := congrArg List.length e3
  simpa using this
 refine max_intList hk.handled hl' (by simp [hlen]) fun v h' tk hv kp => ?_
 refine zd (intItems_at hv) fun t W1 => ?_
 rw [W1]
 rw [jj (numAt ps.toArray), q1, show ps.toArray.size = ps.length by rfl, q2]
 exact h _ _ (.all kp) y0 (S.lexkept kp)
theorem cL (cx : Cx) {g : Heap} : ∀ {vs : List Value} {l : List PyData} {as : List Addr} {bs : List Bool}, ReadsAll g vs l as → vb l = some bs → vs = bs.map Value.bool := fun {_ _ _ bs} h e =>
 rall_ind (M := fun vs l => ∀ bs, vb l = some bs → vs = bs.map Value.bool) (fun _ e => Option.some.inj e ▸ rfl) (fun v ws d ds a b h _ ih bs e => by
  cases d with
  | bool x =>
   refine zb (Option.map_eq_some_iff.mp e) fun r e1 e4 => ?_
   rw [p8 (cx := cx) ⟨_, h⟩, ih r e1, ← e4]
   rfl
  | _ => exact nn e) h bs e
theorem cM (bs : List Bool) : (List.range bs.length).any (fun i => bs[i]?.getD false) = bs.any id := by
 rw [Bool.eq_iff_iff]
 simp only [List.any_eq_true, List.mem_range, id]
 constructor
 ·rintro ⟨i, hi, h⟩
  rw [List.getElem?_eq_getElem hi] at h
  exact zg (bs[i]) (List.getElem_mem hi) (by simpa using h)
 ·rintro ⟨b, hb, h⟩
  obtain ⟨i, hi, e⟩ := List.getElem_of_mem hb
  exact zg i hi (by rw [List.getElem?_eq_getElem hi, e]; trivial)
theorem cN {l : List PyData} {bs : List Bool} (S : Sa cx A env Mi Mo ρ σ s.heap) (hk : Rm A n) (ru : Rp cx (zc (Mi ++ Mo) s.heap) u (.dat (.list l))) (hi : vb l = some bs)
  (h : Fin cx A (Mi ++ Mo) σ s (.dat (.bool (bs.any id))) Q) : wpAny (Mod cx) A (call (.builtin "any") [u]) Q E s := by
 refine zW (yX ru) fun a vs as W0 hl r1 e1 => ?_
 refine (W0) ▸ ?_
 obtain rfl := cL cx r1 hi
 obtain hl' := yZ zE hl
 obtain hlt : a < s.heap.objs.size := by refine zb (hl') fun _ e _ => ?_; exact Heap.lt_size e
 refine call_any_walk (wpAny_pyIter_list hl' ?_)
 refine ⟨_, _, _, _, _, _, fun i => bs[i]?.getD false, rfl, Walks.list (A := A.in1) hk.handled _ a (Nat.ne_of_lt hlt) _, ⟨⟨_, Heap.get?_push_size _ rfl, rfl, rfl⟩, hl'.push _⟩, ?_, fun h' tk kp => ?_⟩
 ·intro i v s Q E hP hQ
  have hP' : bs[i]?.map Value.bool = some v := by simpa using hP
  refine zb (Option.map_eq_some_iff.mp hP') fun b e W1 => ?_
  refine (W1) ▸ ?_
  simp only [e, Option.getD_some] at hQ
  exact wpAny_truthy_bool hQ
 ·obtain e : (bs.map Value.bool).toArray.size = bs.length := by simp
  rw [e, cM]
  obtain kp' : ∀ b o, s.heap.get? b = some o → h'.get? b = some o := fun b o e => kp b o (fun q => by
   obtain e := (mem_singleton.mp q ..) ▸ e
   exact absurd (Heap.lt_size e) (Nat.lt_irrefl _)) (Heap.get?_push_of_some _ e)
  exact h _ _ (.all kp') (qd) (S.lexkept kp')
theorem cO {f : Bi} {xs : List V} (S : Sa cx A env Mi Mo ρ σ s.heap) (hk : Rm A n) (rv : yM cx (zc (Mi ++ Mo) s.heap) vs xs) (ho : xD f xs K σ = out) (hb : out ≠ .bad)
  (h : ∀ x, K x σ = out → Fin cx A (Mi ++ Mo) σ s x Q) : wpAny (Mod cx) A (call (wj f) vs) Q E s := by
 have one : ∀ {g : V → Out}, x0 xs g = out → ∃ x u, vs = [u] ∧ Rp cx (zc (Mi ++ Mo) s.heap) u x ∧ g x = out := fun ho => by
  refine zb (u9 ho hb) fun x W0 ho => ?_
  obtain rfl := W0
  refine zb (sJ rv) fun u e ru => ?_
  exact wc x u e ru ho
 cases f with
 | len =>
  refine yq (one ho) fun x u W1 ru ho => ?_
  refine (W1) ▸ ?_
  exact ca S ru ho hb h
 | max =>
  refine yq (one ho) fun x u W2 ru ho => ?_
  obtain rfl := W2
  refine zb (vj ho hb ru) fun l ru ho => ?_
  refine zb (zA ho hb) fun W3 hi ho => ?_
  obtain ⟨y, ys⟩ := W3
  refine zb (yd hi) fun is e hi => ?_
  rw [pV hi] at e
  exact cK S hk ru e (h _ (zr ho hb).2)
 | any =>
  refine yq (one ho) fun x u W4 ru ho => ?_
  obtain rfl := W4
  refine zb (vj ho hb ru) fun l ru ho => ?_
  refine zb (zA ho hb) fun bs hi ho => ?_
  exact cN S hk ru hi (h _ (zr ho hb).2)
 | tuple =>
  cases xs with
  | nil =>
   refine (k9 rv) ▸ ?_
   exact cH (sF (ws := []) (as := []) S (h _ ho) .nil rfl)
  | cons x r =>
   replace ho : x0 (x :: r) (fun v => xN v (fun l => chk (zi l.length) (K (.dat (.tuple l)) σ))) = out := ho
   refine yq (one ho) fun x u W5 ru ho => ?_
   refine (W5) ▸ ?_
   refine zb (vj ho hb ru) ?_
   clear ru ho
   intro l ru ho
   refine ze (zr ho hb) fun hf ho => ?_
   refine zW (yX ru) fun a vs as W6 hl r1 e1 => ?_
   refine (W6) ▸ ?_
   refine call_tuple_list (yZ zE hl) (fun h' kp => ?_) (by obtain this := yN hf; rw [size_toArray]; lia)
   obtain N₁ : Nx cx A s { s with heap := h' } := .all kp
   obtain S₁ : Sa cx A env Mi Mo ρ σ ({ s with heap := h' } : Shared).heap := S.to N₁ (S.lexkept kp)
   exact sF (s := { s with heap := h' }) S₁ (fun w s' N R L => h _ ho w s' (N₁.trans N) R L) (yk (S.seen N₁) r1) rfl
 | _ => exact absurd ho.symm hb
end
structure Prim (cx : Cx) : Prop where
 kind : ∀ (A : Around) (s : Shared) (g : Heap) (u : Value) (k : Str) (d : PyData) (Q E : Value → Shared → Prop), Rm A 0 → cx.base.StaysIn s.heap → g.StaysIn s.heap → xl cx g u k d →
  (∀ t h' tk, (∀ b o, s.heap.get? b = some o → h'.get? b = some o) → Q (.str k t) { s with heap := h', toks := tk }) → wpAny (Mod cx) A (getAttr u z6 true) Q E s
 value : ∀ (A : Around) (s : Shared) (g : Heap) (u : Value) (k : Str) (d : PyData) (Q E : Value → Shared → Prop), Rm A 0 → cx.base.StaysIn s.heap → g.StaysIn s.heap → xl cx g u k d →
  (∀ x h' tk, (∃ as, Reads g x d as) → (∀ b o, s.heap.get? b = some o → h'.get? b = some o) → Q x { s with heap := h', toks := tk }) → wpAny (Mod cx) A (getAttr u z7 true) Q E s
 next : ∀ lx tl, cx.lex = some (lx, tl) → ∃ f, ut cx f ∧
  (∀ (A : Around) (pl : Sem Bool) (s : Shared) (Q : Value × List Value → Shared → Prop) (E : Value → Shared → Prop), cx.base.StaysIn s.heap → xE cx s.heap lx tl → Q (.ref f, [.ref lx]) s → wpAny (Mod cx) A (getMethod (.ref lx) wv pl) Q E s) ∧
  ∀ (A : Around) (M : List Addr) (s : Shared) (σ : St) (t : Tk) (Q E : Value → Shared → Prop), Rm A 0 → Ok cx A M s.heap (t :: σ) →
   (∀ v s', Nx cx A s s' → xl cx (zc M s'.heap) v t.1 t.2 → zq cx s'.heap (zc M s'.heap) σ → Q v s') → wpAny (Mod cx) A (call (.ref f) [.ref lx]) Q E s
 unpop : ∀ lx tl, cx.lex = some (lx, tl) → ∃ f, ut cx f ∧
  (∀ (A : Around) (pl : Sem Bool) (s : Shared) (Q : Value × List Value → Shared → Prop) (E : Value → Shared → Prop), cx.base.StaysIn s.heap → xE cx s.heap lx tl → Q (.ref f, [.ref lx]) s → wpAny (Mod cx) A (getMethod (.ref lx) wh pl) Q E s) ∧
  ∀ (A : Around) (M : List Addr) (s : Shared) (σ : St) (u : Value) (k : Str) (d : PyData) (Q E : Value → Shared → Prop), Rm A 0 → zi (σ.length + 1) = true → Ok cx A M s.heap σ → xl cx (zc M s.heap) u k d →
   (∀ s', Nx cx A s s' → zq cx s'.heap (zc M s'.heap) ((k, d) :: σ) → Q .none s') → wpAny (Mod cx) A (call (.ref f) [.ref lx, u]) Q E s
 raise : ∀ (A : Around) (env : Env) (s : Shared) (p1 p2 p3 pos : Pos) (m : Str) (k : Nat) (Q : Flow → Shared → Prop) (E : Value → Shared → Prop), Rm A 0 → EnvOk env → env.kindOf wH = some .globalImplicit → cx.base.StaysIn s.heap →
  (∀ h' tk ea vs, Heap.MadeExcOf s.heap h' ea (.ref cx.errC) vs → E (.ref ea) { s with heap := h', toks := tk }) →
  wpAny (Mod cx) A (exec (.Raise (some (.Call (.Name wH p1) [.Constant (.str m) k p2] [] p3)) none pos) env) Q E s
 rev : ∀ (A : Around) (s : Shared) (t : Addr) (items : Array Value) (Q E : Value → Shared → Prop), A.handled = none → IsTup s.heap t items → items.size ≤ sizeLine →
  (∀ (h' : Heap) tk, (∀ b o, s.heap.get? b = some o → h'.get? b = some o) → Q (.ref h'.objs.size) { s with heap := h'.push { cls := .type "tuple", data := .seq items.toList.reverse.toArray }, toks := tk }) →
  wpAny (Mod cx) A (call (.type "reversed") [.ref t]) (fun v s₁ => wpAny (Mod cx) A (call (.type "tuple") [v]) Q E s₁) E s
section
variable {cx : Cx} {A : Around} {er : Bool} {env : Env} {Mi Mo : List Addr} {ρ : zf} {σ : St} {out : Out} {s : Shared} {n : Nat} {u v : Value} {G : Str → Option V}
theorem tg {whole : Sem Value} (h : um o = false) : attributeBase o name env whole = whole := by
 cases o with
 | Call f a k p =>
  cases f with
  | Name id q =>
   cases a with
   | nil =>
    cases k with
    | nil =>
     have h2 : (id != ("super" : Str)) = true := by rw [bne, show (id == ("super" : Str)) = false from h]; rfl
     exact if_pos (by rw [h2]; rfl)
    | cons _ _ => rfl
   | cons _ _ => rfl
  | _ => rfl
 | _ => rfl
theorem Rm.mono {m : Nat} (h : Rm A n) (hm : m ≤ n) : Rm A m := ⟨h.handled, by obtain this := h.depth; lia, by obtain this := h.units; lia⟩
theorem sK {pos : Pos} {args : List Expr} (hs : um o = false) (hc : vL args apos pos = true)
  (h : wpAny (Mod cx) A (eval o env) (fun ov s₁ => wpAny (Mod cx) A (getMethod ov name (do return (← importBound o env).getD true)) (fun fx s₂ => wpAny (Mod cx) A (callWith pos fx.1 fx.2 (backTo pos (starEach args env)) []) Q E s₂) E s₁) E s) :
  wpAny (Mod cx) A (eval (.Call (.Attribute o name apos) args [] pos) env) Q E s := by
 unfold vL at hc
 simp only [Bool.and_eq_true] at hc
 obtain hline : (apos.endLine == pos.line) = true := by rw [beq_iff_eq]; exact Nat.eq_of_beq_eq_true hc.2
 obtain hlen : args.length ≤ 2 := Nat.le_of_ble_eq_true hc.1.1
 obtain hn := hc.1.2
 have hform : methodCallForm (args.length + ([] : List Keyword).length) (backTo pos (starEach args env)) (backToKw pos (keywordEach [] env)) = true := by
  unfold methodCallForm
  obtain hk : backToKw pos (keywordEach [] env) = [] := rfl
  have hp := uv (env := env) pos args hn
  refine (hk ..).symm ▸ ?_
  simp only [List.all_nil, Bool.and_true, List.isEmpty_nil, if_true, length_nil, Nat.add_zero, Bool.and_eq_true, decide_eq_true_eq]
  refine ⟨?_, by lia⟩
  rw [all_eq_true]
  intro x hx
  rw [List.any_eq_false] at hp
  obtain this := hp x hx
  simpa using this
 have hpos : methodCallPos true o env apos pos = pure pos := by unfold methodCallPos; simp [hline]
 rw [arm_eval_Call, tg hs]
 refine wpAny_bind (wpAny_mono h (fun ov s₁ h₁ => wpAny_bind (wpAny_standAt ?_)) fun _ _ e => e)
 unfold methodCall calleeOf
 rw [hform]
 refine wpAny_bind (wpAny_holding (wpAny_mono h₁ (fun fx s₂ h₂ => ?_) fun _ _ e => e))
 exact wpAny_bind (wpAny_of_eq hpos h₂)
theorem oI (SE : yt cx A er env Mi Mo ρ Ex) {pos : Pos} {f : Addr} {o : Obj} {fd : FuncData} {first : List Value} {K : List V → St → Out} (h : xj Ex es K σ = out) (hb : out ≠ .bad) (S : Sa cx A env Mi Mo ρ σ s.heap)
  (hf : cx.base.get? f = some o) (hd : o.data = .func fd)
  (hQ : ∀ ds σ' vs s', K ds σ' = out → Nx cx A s s' → yM cx (zc (Mi ++ Mo) s'.heap) vs ds → zq cx s'.heap (zc (Mi ++ Mo) s'.heap) σ' → wpAny (Mod cx) A (call (.ref f) (first ++ vs)) Q E s')
  (hE : ∀ e s', ErrE cx A er out s e s' → E e s') : wpAny (Mod cx) A (callWith pos (.ref f) first (backTo pos (starEach es env)) []) Q E s :=
 callWith_function (o := o) (fd := fd) (ta SE pos h hb S (fun ds σ' vs s' hK N R L => ⟨⟨(S.to N L).base _ _ hf, hd⟩, hQ ds σ' vs s' hK N R L⟩) hE)
theorem jk (SE : yt cx A er env Mi Mo ρ Ex) {pos : Pos} {id : String} {first : List Value} {K : List V → St → Out} (h : xj Ex es K σ = out) (hb : out ≠ .bad) (S : Sa cx A env Mi Mo ρ σ s.heap)
  (hQ : ∀ ds σ' vs s', K ds σ' = out → Nx cx A s s' → yM cx (zc (Mi ++ Mo) s'.heap) vs ds → zq cx s'.heap (zc (Mi ++ Mo) s'.heap) σ' → wpAny (Mod cx) A (call (.builtin id) (first ++ vs)) Q E s')
  (hE : ∀ e s', ErrE cx A er out s e s' → E e s') : wpAny (Mod cx) A (callWith pos (.builtin id) first (backTo pos (starEach es env)) []) Q E s :=
 callWith_builtin (uv pos es (zr h hb).1) (ta SE pos h hb S hQ hE)
theorem cP {l : List (Str × PyData)} {vs : List V} (h : uk (.dct l) name vs K σ = out) (hb : out ≠ .bad) : ∃ x d, vs = [.dat (.str x), .dat d] ∧ K (.dat ((zG x l).getD d)) σ = out := by
 refine zo fun R_ k_ => ?_
 refine zx (ka h hb) fun v w e h => ?_
 refine zb (pU (f := fun s => yw w _) h hb) fun x e1 h => ?_
 refine zb (l9 h hb) fun d e2 h => ?_
 refine k_ ?_
 exact yj x d (by exact e.symm ▸ e1.symm ▸ e2.symm ▸ rfl) ((zr h hb).2)
theorem cQ {l : List PyData} {vs : List V} (h : uk (.kin l) name vs K σ = out) (hb : out ≠ .bad) : ∃ x ss i, vs = [.dat (.str x)] ∧ wt l = some ss ∧ zi l.length = true ∧ vd x 0 ss = some i ∧ K (.dat (.int (i : Nat))) σ = out := by
 refine zo fun R_ k_ => ?_
 refine zb (u9 h hb) fun v e h => ?_
 refine zb (pU h hb) fun x e1 h => ?_
 refine ze (zr h hb) fun _ h => ?_
 refine zb (zA h hb) fun ss e2 h => ?_
 refine ze (zr h hb) fun hf h => ?_
 refine zb (zA h hb) fun i e3 h => ?_
 refine k_ ?_
 exact rE x ss i (by exact e.symm ▸ e1.symm ▸ rfl) e2 hf e3 h
theorem jl {vs : List V} (h : uk .lexer name vs K σ = out) (hb : out ≠ .bad) :
  (name = wv ∧ vs = [] ∧ ∃ t τ, σ = t :: τ ∧ K (.tok t.1 t.2) τ = out) ∨ (name = wh ∧ ∃ k d, vs = [.tok k d] ∧ zi (σ.length + 1) = true ∧ K (.dat .none) ((k, d) :: σ) = out) := by
 cases vs with
 | nil =>
  refine ze (zr (o := lI K σ) h hb) ?_
  clear h
  intro e h
  cases σ with
  | nil => exact absurd h.symm hb
  | cons t τ => exact .inl ⟨eq_of_beq e, rfl, t, τ, rfl, h⟩
 | cons v r =>
  replace h : x0 (v :: r) (fun v => opt (sq v) (fun t => chk (name == wh && zi (σ.length + 1)) (K (.dat .none) (t :: σ))) .bad) = out := h
  refine zo fun R_ k_ => ?_
  refine zb (u9 h hb) fun v e h => ?_
  refine zb (zA h hb) fun t e1 h => ?_
  refine ze (zr h hb) fun e2 h => ?_
  refine ze (zO e2) fun e3 e4 => ?_
  refine k_ ?_
  exact .inr ⟨eq_of_beq e3, t.1, t.2, by exact e.symm ▸ (eT e1 ..).symm ▸ rfl, e4, h⟩
theorem jm (k : Str) : ∀ {vs : List Value} {ns : List Str}, StrsAre vs ns → ∀ (j : Nat) (h1 : j < vs.length) (h2 : j < ns.length), isStrOf k vs[j] = (ns[j] == k) := by
 intro vs ns h
 induction h with
 | nil => intro j h; exact absurd h (Nat.not_lt_zero j)
 | cons n t r ih =>
  intro j h1 h2
  cases j with
  | zero => rfl
  | succ j => exact ih j (Nat.lt_of_succ_lt_succ h1) (Nat.lt_of_succ_lt_succ h2)
theorem jn : ∀ {vs : List Value} {ns : List Str}, StrsAre vs ns → vs.length = ns.length := by
 intro vs ns h
 induction h with
 | nil => rfl
 | cons _ _ _ ih => exact congrArg (· + 1) ih
theorem jo (k : Str) : ∀ (ns : List Str) (b i : Nat), vd k b ns = some i → ∃ j, i = b + j ∧ ∃ (h : j < ns.length), (ns[j] == k) = true ∧ ∀ m (h : m < ns.length), m < j → (ns[m] == k) = false
 | [], _, _, h => nomatch h
 | x :: r, b, i, h => by
  dsimp only [vd] at h
  cases e : x == k with
  | true =>
   rw [e] at h; refine Option.some.inj h ▸ ?_
   exact ⟨0, rfl, Nat.succ_pos _, e, fun m _ hm => absurd hm (Nat.not_lt_zero _)⟩
  | false =>
   rw [e] at h
   obtain ⟨j, rfl, hj, h1, h2⟩ := jo k r (b + 1) i h
   refine ⟨j + 1, by lia, Nat.succ_lt_succ hj, h1, fun m hm hlt => ?_⟩
   cases m with
   | zero => exact e
   | succ m => exact h2 m (Nat.lt_of_succ_lt_succ hm) (Nat.lt_of_succ_lt_succ hlt)
theorem cR {l : Addr} {ns : List Str} {k : Str} {i : Nat} (hl : s.heap.IsList l vs.toArray) (hi : StrsAre vs ns) (hx : vd k 0 ns = some i) (hz : ns.length ≤ sizeLine)
  (h : Q (.int i s.toks) { s with toks := s.toks + 1 }) : wpAny (Mod cx) A (call (.builtin "list.index") [.ref l, .str k t]) Q E s := by
 refine zo fun R_ k_ => ?_
 obtain ⟨⟨cls, dd, data, sl⟩, ho, hc, n, hd⟩ := id hl
 simp only at hc hd
 subst hc hd
 obtain hlen := jn hi
 obtain ⟨j, e, hj, h1, h2⟩ := jo k ns 0 i hx
 refine k_ ?_
 obtain rfl : i = j := by lia
 rw [sizeLine_eq] at hz
 refine call_meets PySem.F.slot_list_index ⟨_, ho, rfl⟩ PySem.F.entry_list_index (PySem.F.args_list_index_2 _ _)
  (PySem.SeqAt.list_indexAt l vs.toArray n dd sl (.str k t) (isStrOf k) i (by simpa [hlen] using hj) (by lia) ?_ ?_) ⟨ho, fun y hy => (eq_isStrOf k t hi y (by simpa using hy)).at _ _, h⟩
 ·show isStrOf k vs[i] = true
  rw [jm k hi _ (by (first | lia | omega)) hj]; exact h1
 ·intro m hm hlt
  show isStrOf k vs[m] = false
  rw [jm k hi m (by trivial) (by rw [← hlen]; trivial)]
  exact h2 m _ hlt
theorem cS (P : Prim cx) (hk : Rm A n) (SE : yt cx A er env Mi Mo ρ Ex) {pos : Pos} {args : List Expr}
  (hc : (vL args apos pos && !(um o)) = true) (h : Ex o (fun ov σ => chk (lJ ov name) (xj Ex args (fun vs => uk ov name vs K) σ)) σ = out) (hb : out ≠ .bad) (S : Sa cx A env Mi Mo ρ σ s.heap)
  (hQ : ∀ x σ' v s', K x σ' = out → Nx cx A s s' → Rp cx (zc (Mi ++ Mo) s'.heap) v x → zq cx s'.heap (zc (Mi ++ Mo) s'.heap) σ' → Q v s')
  (hE : ∀ e s', ErrE cx A er out s e s' → E e s') : wpAny (Mod cx) A (eval (.Call (.Attribute o name apos) args [] pos) env) Q E s := by
 simp only [Bool.and_eq_true, Bool.not_eq_true'] at hc
 refine sK hc.2 hc.1 (SE o _ σ out s _ _ h hb S (fun x σ₁ ov s₁ hK N₁ R₁ L₁ => ?_) hE)
 refine ze (zr hK hb) ?_
 clear hK
 intro hm hK
 have S₁ := S.to N₁ L₁
 cases x with
 | lexer =>
  refine zx (R₁) fun lx tl hl W0 => ?_
  refine (W0) ▸ ?_
  obtain lo : xE cx s₁.heap lx tl := by
   obtain q := S₁.ok.lex
   unfold zq at q
   obtain q := (hl ..) ▸ q
   exact q.1.keeps zE
  have hm' : name = wv ∨ name = wh := by
   have hm2 : (name == wv || name == wh) = true := hm
   simp only [Bool.or_eq_true, beq_iff_eq] at hm2
   exact hm2
  rcases hm' with rfl | rfl
  ·refine yv (P.next lx tl hl) fun f W1 h1 h2 => ?_
   obtain ⟨o', fd, hf, hd⟩ := W1
   refine h1 _ _ _ _ _ S₁.base lo (oI SE hK hb S₁ hf hd (fun ds σ₂ vs s₂ hK₂ N₂ R₂ L₂ => ?_) fun e s' x => hE _ _ (x.back N₁))
   have S₂ := S₁.to N₂ L₂
   rcases jl hK₂ hb with ⟨_, rfl, t, τ, rfl, hK₃⟩ | ⟨q, _⟩
   ·obtain rfl := k9 R₂
    exact h2 A (Mi ++ Mo) s₂ _ _ _ _ (hk.mono (Nat.zero_le _)) S₂.ok fun v s' N' T L' => hQ _ _ v s' hK₃ ((N₁.trans N₂).trans N') T L'
   ·exact absurd q (by decide)
  ·refine yv (P.unpop lx tl hl) fun f W2 h1 h2 => ?_
   obtain ⟨o', fd, hf, hd⟩ := W2
   refine h1 _ _ _ _ _ S₁.base lo (oI SE hK hb S₁ hf hd (fun ds σ₂ vs s₂ hK₂ N₂ R₂ L₂ => ?_) fun e s' x => hE _ _ (x.back N₁))
   have S₂ := S₁.to N₂ L₂
   rcases jl hK₂ hb with ⟨q, _⟩ | ⟨_, k, d, rfl, hf', hK₃⟩
   ·exact absurd q (by decide)
   ·refine zb (sJ R₂) fun u W3 ru => ?_
    obtain rfl := W3
    exact h2 A (Mi ++ Mo) s₂ _ _ _ _ _ _ (hk.mono (Nat.zero_le _)) hf' S₂.ok ru fun s' N' L' => hQ _ _ _ s' hK₃ ((N₁.trans N₂).trans N') qe L'
 | dct l =>
  refine yv (id R₁) fun a W4 D ns => ?_
  obtain rfl := W4
  obtain rfl : name = pM := eq_of_beq hm
  refine zb (id D) fun f hm' hs => ?_
  obtain hm₁ := sH zE hm'
  refine getMethod_builtin hm₁.typeIs PySem.F.plainAttrs_dict PySem.F.slot_dict_get PySem.F.type_dict_get hm₁.noDict ?_
  refine jk SE hK hb S₁ (fun ds σ₂ vs s₂ hK₂ N₂ R₂ L₂ => ?_) fun e s' x => hE _ _ (x.back N₁)
  obtain S₂ := S₁.to N₂ L₂
  obtain R₁' : Rp cx (zc (Mi ++ Mo) s₂.heap) (.ref a) (.dct l) := R₁.keeps (S₁.seen N₂)
  refine yv (R₁') fun a' e' D' ns' => ?_
  (injection e' with e'; subst e')
  refine zb (D') fun f' hm2 hs2 => ?_
  refine zx (cP hK₂ hb) fun ss dd W5 hK₃ => ?_
  obtain rfl := W5
  refine yq (k8 R₂) fun x y W6 rx ry => ?_
  refine (W6) ▸ ?_
  obtain ⟨t, rfl⟩ := vi rx
  refine call_meetsIn PySem.F.slot_dict_get (sH zE hm2).typeIs PySem.F.entry_dict_get (PySem.F.args_dict_get_3 _ _ _) (meets_dict_get_default (strKind cx.prog cx.w) a (strKind_is cx.prog cx.w _ t) (kG ns) y)
   ⟨_, sH zE hm2, hQ _ _ _ _ hK₃ ((N₁.trans N₂).trans (.toks _)) ?_ S₂.ok.lex⟩
  cases e : zG ss l with
  | none => refine ((hs2 ss).1 e ..).symm ▸ ?_; exact ry
  | some d' =>
   refine zx ((hs2 ss).2 d' e) fun w as e1 e2 => ?_
   refine (e1 ..).symm ▸ ?_
   exact ⟨as, e2⟩
 | kin l =>
  refine zo fun R_ k_ => ?_
  obtain ⟨R, a, o', rfl, ho, hd⟩ := id R₁
  obtain rfl : name = xY := eq_of_beq hm
  refine zW (yX (cx := cx) R) fun a' vs as e' hl r1 e1 => ?_
  refine k_ ?_
  (injection e' with e'; subst e')
  refine getMethod_builtin (yZ zE hl).typeIs PySem.F.plainAttrs_list PySem.F.slot_list_index PySem.F.type_list_index (fun a e => by (injection e with e; subst e); exact (zg _ (zH ho) hd)) ?_
  refine jk SE hK hb S₁ (fun ds σ₂ ws s₂ hK₂ N₂ R₂ L₂ => ?_) fun e s' x => hE _ _ (x.back N₁)
  obtain S₂ := S₁.to N₂ L₂
  obtain R₁' : Rp cx (zc (Mi ++ Mo) s₂.heap) (.ref a) (.kin l) := R₁.keeps (S₁.seen N₂)
  refine zW (yX (cx := cx) R₁'.1) fun a' vs' as' e' hl' r1' e1' => ?_
  (injection e' with e'; subst e')
  refine rI (cQ hK₂ hb) fun k ss i W7 hs hfz hi hK₃ => ?_
  obtain rfl := W7
  refine zb (sJ R₂) fun x W8 rx => ?_
  refine (W8) ▸ ?_
  obtain ⟨t, rfl⟩ := vi rx
  obtain st := qg r1' hs
  exact cR (yZ zE hl') st hi (by refine (jn st ..) ▸ (e1' ..).symm ▸ ?_; exact yN hfz) (hQ _ _ _ _ hK₃ ((N₁.trans N₂).trans (.toks _)) y0 S₂.ok.lex)
 | _ => exact ff hm
theorem cU (P : Prim cx) (hk : Rm A 0) (SE : yt cx A er env Mi Mo ρ Ex) {pos : Pos}
  (hc : um o = false) (h : Ex o (fun v => lX v name K) σ = out) (hb : out ≠ .bad) (S : Sa cx A env Mi Mo ρ σ s.heap)
  (hQ : ∀ x σ' v s', K x σ' = out → Nx cx A s s' → Rp cx (zc (Mi ++ Mo) s'.heap) v x → zq cx s'.heap (zc (Mi ++ Mo) s'.heap) σ' → Q v s')
  (hE : ∀ e s', ErrE cx A er out s e s' → E e s') : wpAny (Mod cx) A (eval (.Attribute o name pos) env) Q E s := by
 refine Attribute_any_ (SE o _ σ out s _ _ h hb S (fun x σ₁ ov s₁ hK N₁ R₁ L₁ => ?_) hE) (by rw [arm_eval_Attribute, tg hc])
 have S₁ := S.to N₁ L₁
 cases x with
 | tok kk d =>
  replace hK : cond (name == z6) (K (.dat (.str kk)) σ₁) (cond (name == z7) (K (.dat d) σ₁) .bad) = out := hK
  cases e1 : name == z6 with
  | true =>
   refine (eq_of_beq e1) ▸ ?_
   obtain hK := (e1 ..) ▸ hK
   exact P.kind A s₁ _ ov kk d _ _ hk S₁.base zE R₁ fun t h' tk kp => hQ _ _ _ _ hK (N₁.trans (.all kp)) ⟨_, .str _ _⟩ (S₁.lexkept kp)
  | false =>
   rw [e1] at hK
   cases e2 : name == z7 with
   | true =>
    refine (eq_of_beq e2) ▸ ?_
    rw [e2] at hK
    exact P.value A s₁ _ ov kk d _ _ hk S₁.base zE R₁ fun x h' tk r kp => hQ _ _ _ _ hK (N₁.trans (.all kp)) (by refine zd (r) fun as r => ?_; exact ⟨as, Reads.keeps (S₁.seen (Nx.all (s := s₁) (n := tk) kp)) r⟩) (S₁.lexkept kp)
   | false => rw [e2] at hK; exact absurd hK.symm hb
 | _ => exact absurd hK.symm hb
end
section
variable {cx : Cx} {A : Around} {er : Bool} {env : Env} {Mi Mo : List Addr} {ρ : zf} {σ : St} {out : Out} {s : Shared} {n : Nat} {u v : Value} {G : Str → Option V}
theorem Sa.hide (S : Sa cx A env Mi Mo ρ σ h) (new : ∀ b ∈ Z, h.get? b = none) (kp : ∀ b o, h.get? b = some o → h'.get? b = some o) (live : ∀ b ∈ Z, ∃ o, h'.get? b = some o) : Sa cx A env Mi (Z ++ Mo) ρ σ h' := by
 have kg : (zc (Mi ++ Mo) h).StaysIn (zc (Mi ++ (Z ++ Mo)) h') := fun b o e => by
  refine vis_get (kp b o (zH e)) fun q => ?_
  refine zh (mem_append.mp q) (fun q => ?_) fun q => ?_
  ·exact zQ e (mem_append_left _ q)
  ·refine zh (mem_append.mp q) (fun q => ?_) fun q => ?_
   ·exact absurd (zH e) (by rw [new b q]; simp)
   ·exact zQ e (mem_append_right _ q)
 obtain K : Kp [] (Fs A) h h' := .of_all kp
 have up : ∀ b ∈ Mi ++ Mo, b ∈ Mi ++ (Z ++ Mo) := fun b hb => by
  refine zh (mem_append.mp hb) (fun q => ?_) fun q => ?_
  ·exact mem_append_left _ q
  ·exact mem_append_right _ (mem_append_right _ q)
 refine ⟨⟨zZ S.ok.stays kg, fun b hb => ?_, ?_, fun b hb => up b (S.ok.fin b hb), S.ok.fx, fun b hb => up b (S.ok.xin b hb), S.ok.lex.step kg fun b _ vs hl => hl.next K (by simp)⟩, S.ek, ?_, S.lin, fun b hb => mem_append_right _ (S.xo b hb), fun b hb q => ?_, fun x t e => ?_, S.two⟩
 ·rcases mem_append.mp hb with q | q
  ·refine zd (S.ok.live b (mem_append_left _ q)) fun o e => ?_; exact ⟨o, kp b o e⟩
  ·rcases mem_append.mp q with q | q
   ·exact live b q
   ·refine zd (S.ok.live b (mem_append_right _ q)) fun o e => ?_; exact ⟨o, kp b o e⟩
 ·refine zb (S.ok.frames) fun frs e f => ?_
  exact zg frs e (K.frames f (by simp))
 ·refine zd (S.ns) fun m hm => ?_; exact ⟨m, K.ns (by simp) hm⟩
 ·rcases mem_append.mp q with q | q
  ·refine zd (S.ok.live b (mem_append_left _ hb)) fun o e => ?_; rw [new b q] at e; injection e
  ·exact S.dis b hb q
 ·exact (S.loc x t e).next K kg S.lin (by simp) (fun b hb => by cases hb)
noncomputable def wy (cx : Cx) (env : Env) : Prop := ∃ c o vs, env.code = .ref c ∧ cx.base.get? c = some o ∧ o.data = .fields vs
theorem cV {Q : Bool → Shared → Prop} (hc : wy cx env) (st : cx.base.StaysIn s.heap) (h : ∀ b, Q b s) : wpAny (Mod cx) A (inMainModule env) Q E s := by
 refine xW (hc) fun c o vs e ho hd => ?_
 dsimp only [inMainModule]
 try dsimp only
 refine (e ..).symm ▸ ?_
 split
 ·exact wpAny_pure (h _)
 ·refine wpAny_bind (wpAny_fieldsOf (st _ _ ho) hd ?_)
  split
  ·exact wpAny_bind (wpAny_askSetting (wpAny_pure (h _)))
  ·exact wpAny_pure (h _)
theorem jp {S : Int → Bool} {m : Nat} {k : Int} {Q : Bool → Shared → Prop} (hS : s.heap.SetOf (intKind cx.prog cx.w) a S m) (hm : m + 1 < scanBound)
  (h : ∀ h' tk, Heap.SameBut a s.heap h' → h'.SetOf (intKind cx.prog cx.w) a (fun k' => S k' || decide (k' = k)) (if S k then m else m + 1) → Q (!S k) { s with heap := h', toks := tk }) : wpAny (Mod cx) A (setAdd a (.int k t)) Q E s := by
 refine wpAny_holding (wpAny_bind ((intKind cx.prog cx.w).pyHash (intKind_is _ _ _ _) ?_))
 exact wpAny_setAddHashed_of (s := { s with toks := s.toks + 1 }) (intKind_is _ _ _ _) rfl hS hm fun h' hs hS' => h h' _ hs hS'
theorem cW {S : Int → Bool} {m : Nat} {Q : Unit → Shared → Prop} (hS : s.heap.SetOf (intKind cx.prog cx.w) a S m)
  (h : ∀ h', Heap.SameBut a s.heap h' → h'.SetOf (intKind cx.prog cx.w) a S m → Q () { s with heap := h' }) : wpAny (Mod cx) A (setUnled a) Q E s := by
 obtain ⟨o, es, ep, t, ho, hex, hd, hel, hmem, hb, hf, hn⟩ := hS
 obtain hf' : ({ t with led := false } : SetTable).fits es.size = true := by cases t; exact hf
 refine wpAny_bind (wpAny_setState_of ho hd hf ?_)
 refine wpAny_storeSet_of ho hd ?_ (fits_of_scanBound hb)
 refine ze (SetOf_store (knd := intKind cx.prog cx.w) ho hex hd hel hmem hb hf') fun _ hS => ?_
 obtain hS := (hn ..) ▸ hS
 exact h _ (Heap.SameBut.update s.heap a (Obj.putSet es { t with led := false })) hS
theorem cX {l : Expr} {k1 k2 : Nat} {p3 pos : Pos} (hc : wy cx env)
  (h : wpAny (Mod cx) A (eval l env) (fun a s₁ => cx.base.StaysIn s₁.heap ∧ ∃ x t, a = .int x t ∧ ∀ h' tk, (∀ b o, s₁.heap.get? b = some o → h'.get? b = some o) → Q (.bool (!(xa x [i, j]))) { s₁ with heap := h', toks := tk }) E s) :
  wpAny (Mod cx) A (eval (.Compare l [.NotIn] [.Set [.Constant (.int i) k1 p1, .Constant (.int j) k2 p2] 0 p3] pos) env) Q E s := by
 refine kdi_eval rfl (wpAny_mono h (fun a s₁ h₁ => ?_) fun _ _ x => x)
 refine zo fun R_ k_ => ?_
 obtain ⟨st, x, t, rfl, hQ⟩ := h₁
 refine k_ ?_
 rw [arm_eval_Set]
 refine wpAny_bind (wpAny_standAt (wpAny_bind (cV hc st fun b => ?_)))
 rw [kds_star _ rfl, List.map_map]
 obtain hsb : ∀ {h₁ h₂ : Heap} {b : Addr} {o : Obj}, Heap.SameBut s₁.heap.objs.size h₁ h₂ → s₁.heap.get? b = some o → h₁.get? b = some o → h₂.get? b = some o := fun hs e e' => by
  refine (hs.2 _ fun q => ?_).trans e'
  rw [q] at e; exact Nat.lt_irrefl _ (Heap.lt_size e)
 refine kds_core (ts := (evalEach [.Constant (.int i) k1 p1, .Constant (.int j) k2 p2] env).map fun t => do let v ← t; standAt p3; pure v) rfl rfl (by show 2 ≤ 30; decide) rfl fun led => ?_
 refine kds_all p3 _ _ _ (wpAny_Constant_int (wpAny_Constant_int ?_))
 obtain hS0 := (setObjOf_fresh (knd := intKind cx.prog cx.w) led).setOf (h := s₁.heap.push { cls := .type "set", dict := none, data := .set #[] 0 (.fresh 0 0 led) }) (Heap.get?_push_size _ rfl) (by decide)
 refine kds_fill_cons (jp (s := { s₁ with heap := _, toks := _ }) hS0 (by decide) fun h₂ tk₂ sb₂ hS₂ => ?_)
 refine kds_fill_cons (jp (s := { s₁ with heap := h₂, toks := tk₂ }) hS₂ (by decide) fun h₃ tk₃ sb₃ hS₃ => ?_)
 refine kds_fill_nil rfl (kdi_mark (cW (s := { s₁ with heap := h₃, toks := tk₃ }) hS₃ fun h₄ sb₄ hS₄ => ?_))
 refine wpAny_notInSet_of (s := { s₁ with heap := h₄, toks := tk₃ }) (intKind_is _ _ x t) rfl hS₄ ?_
 obtain e : (false || decide (x = i) || decide (x = j)) = xa x [i, j] := by
  dsimp only [xa, Bool.false_or]
  cases decide (x = i) <;> cases decide (x = j) <;> rfl
 refine (e ..).symm ▸ ?_
 exact hQ h₄ _ fun b o e' => hsb sb₄ e' (hsb sb₃ e' (hsb sb₂ e' (Heap.get?_push_of_some _ e')))
theorem cY {k1 : Nat} {pos : Pos} {r : Expr} (SE : yt cx A er env Mi Mo ρ Ex)
  (h : Ex r (fun b σ => yc b (fun n => chk (decide (0 ≤ n) && decide (n ≤ 1000)) (K (.dat (.list (List.replicate n.toNat (.int i)))) σ))) σ = out) (hb : out ≠ .bad) (S : Sa cx A env Mi Mo ρ σ s.heap)
  (hQ : ∀ x σ' v s', K x σ' = out → Nx cx A s s' → Rp cx (zc (Mi ++ Mo) s'.heap) v x → zq cx s'.heap (zc (Mi ++ Mo) s'.heap) σ' → Q v s')
  (hE : ∀ e s', ErrE cx A er out s e s' → E e s') : wpAny (Mod cx) A (eval (.BinOp (.List [.Constant (.int i) k1 p1] p2) .Mult r pos) env) Q E s := by
 refine wpAny_BinOp (wpAny_List ?_)
 show wpAny _ _ (spliced [(false, eval (.Constant (.int i) k1 p1) env)]) _ _ _
 refine spliced_cons (wpAny_Constant_int (spliced_nil ⟨by show 1 ≤ sizeLine; decide, ?_⟩))
 obtain N₁ : Nx cx A s { s with heap := s.heap.push { cls := .type "list", data := .seq [Value.int i s.toks].toArray }, toks := s.toks + 1 } := .all fun b o e => Heap.get?_push_of_some _ e
 obtain S₁ := S.to N₁ (S.lexkept fun b o e => Heap.get?_push_of_some _ e)
 refine SE r _ σ out _ _ _ h hb S₁ (fun x σ₂ w s₂ hK N₂ R₂ L₂ => ?_) fun e s' x => hE _ _ (x.back N₁)
 refine zx (yY hK hb R₂) fun m t W0 hK => ?_
 obtain rfl := W0
 ·obtain ⟨hc, hK⟩ := zr hK hb
  have hc : 0 ≤ m ∧ m ≤ 1000 := ⟨of_decide_eq_true (zO hc).1, of_decide_eq_true (zO hc).2⟩
  obtain S₂ := S₁.to N₂ L₂
  have nX : s.heap.objs.size ∉ cx.X := fun q => by
   refine zd (S.ok.live _ (S.ok.xin _ q)) fun o e => ?_; exact Nat.lt_irrefl _ (Heap.lt_size e)
  have nF : s.heap.objs.size ∉ Fs A := fun q => by
   refine zd (S.ok.live _ (S.ok.fin _ q)) fun o e => ?_; exact Nat.lt_irrefl _ (Heap.lt_size e)
  obtain hl : s₂.heap.get? s.heap.objs.size = some { cls := .type "list", data := .seq [Value.int i s.toks].toArray } := N₂.kp.at nX (Heap.get?_push_size _ rfl) nF
  obtain hz : (1 : Nat) * m.toNat ≤ 1000 := by lia
  refine wpAny_binaryOp_repeat_ref (T := "list") (U := "int") (by rfl) ⟨_, hl, rfl⟩ (fun s' => typeIs_int s' m t) noFill_list_mul PySem.F.fills_int_mul PySem.F.slot_int_rmul repeat_list PySem.F.slot_int_index.lookup
   (call_meets PySem.F.slot_int_rmul (typeIs_int s₂ m t) PySem.F.entry_int_rmul (PySem.F.args_int_rmul_2 _ _) (int___rmul___int_list m t _ [Value.int i s.toks].toArray 0)
    ⟨hl, rfl, ⟨_, hl, rfl⟩, call_meets PySem.F.slot_list_mul ⟨_, hl, rfl⟩ PySem.F.entry_list_mul (PySem.F.args_list_mul_2 _ _)
     (AutoListH.list___mul___list_int_3 _ [Value.int i s.toks].toArray 0 m t (by simp [Builtin.List.listFitsIndex]; lia) (by show ¬ (1 * m.toNat > _); lia) (by simp [Builtin.List.listTooLong, sizeLine]; lia))
     ⟨hl, ?_⟩⟩)
  rw [listMul_foldl_if]
  obtain rr : ∀ k : Nat, ∃ as, ReadsAll (zc (Mi ++ Mo) s₂.heap) (List.replicate k (Value.int i s.toks)) (List.replicate k (PyData.int i)) as := by
   intro k
   induction k with
   | zero => exact ⟨_, .nil⟩
   | succ k ih =>
    refine zd (ih) fun as r => ?_
    exact ⟨_, .cons (.int i _) r⟩
  obtain fl : ∀ k : Nat, (List.replicate k [Value.int i s.toks]).flatten = List.replicate k (Value.int i s.toks) := by
   intro k
   induction k with
   | zero => rfl
   | succ k ih => rw [List.replicate_succ, List.flatten_cons, ih, List.replicate_succ]; rfl
  refine zd (rr m.toNat) fun as r => ?_
  obtain fl' : (List.replicate m.toNat [Value.int i s.toks].toArray.toList).flatten = List.replicate m.toNat (Value.int i s.toks) := fl m.toNat
  exact p9 (s := s₂) S₂ (fun w s' N R L => hQ _ _ w s' hK ((N₁.trans N₂).trans N) R L) r (by exact fl'.symm ▸ rfl)
theorem jq {k : Option Expr} {ks : List (Option Expr)} (h : ui (k :: ks) = some ss) : ∃ x, (∃ n p, k = some (.Constant (.str x) n p)) ∧ ∃ ss', ui ks = some ss' ∧ x :: ss' = ss := by
 refine zo fun R_ k_ => ?_
 refine zb (yd h) fun x e1 h => ?_
 refine zb (u6 h) fun ss' e2 h => ?_
 refine zb (yd e1) fun e e3 e4 => ?_
 refine zM (ke e4) fun n p W0 => ?_
 refine k_ ?_
 obtain rfl := W0
 exact ⟨x, ⟨n, p, e3⟩, ss', e2, h⟩
theorem jr {Ex : Expr → KV → St → Out} (SE : yt cx A er env Mi Mo ρ Ex) (pos : Pos) : ∀ (ks : List (Option Expr)) (es : List Expr) (ss : List Str) K σ s (Q : List (Value × Value) → Shared → Prop) (E : Value → Shared → Prop), ui ks = some ss → ss.length = es.length → uh Ex es K σ = out → out ≠ .bad → Sa cx A env Mi Mo ρ σ s.heap →
  (∀ ds σ' prs ws s', K ds σ' = out → Nx cx A s s' → Carries (strKind cx.prog cx.w) prs (ss.zip ws) → ss.length = ds.length → (∃ as, ReadsAll (zc (Mi ++ Mo) s'.heap) ws ds as) → zq cx s'.heap (zc (Mi ++ Mo) s'.heap) σ' → Q prs s') →
  (∀ e s', ErrE cx A er out s e s' → E e s') → wpAny (Mod cx) A (evalPairs (pairTrees ks es env pos)) Q E s
 | [], [], ss, K, σ, s, Q, E, hk, hl, h, hb, S, hQ, hE => by
  (injection hk with hk; subst hk)
  exact evalPairs_nil (hQ [] σ [] [] s h .refl trivial rfl ⟨_, .nil⟩ S.ok.lex)
 | [], _ :: _, ss, K, σ, s, Q, E, hk, hl, h, hb, S, hQ, hE => by (injection hk with hk; subst hk); injection hl
 | k :: ks, es, ss, K, σ, s, Q, E, hk, hl, h, hb, S, hQ, hE => by
  obtain ⟨x, ⟨nk, pk, rfl⟩, ss', hk', rfl⟩ := jq hk
  ·match es, hl, h with
   | [], hl, _ => injection hl
   | e :: r, hl, h =>
    obtain h' := (zr h hb).2
    refine pairTrees_cons_walk (wpAny_Constant_str ?_)
    refine SE e _ σ out _ _ _ h' hb (S.to (.toks _) S.ok.lex) (fun y σ₁ v s₁ hK N₁ R₁ L₁ => ?_) fun e s' x => hE _ _ (x.back (.toks _))
    have N₁' : Nx cx A s s₁ := Nx.trans (.toks _) N₁
    refine zb (wx hK hb R₁) fun d W0 hK => ?_
    obtain ⟨as, ra⟩ := W0
    ·have S₁ := S.to N₁' L₁
     refine jr SE pos ks r ss' _ σ₁ s₁ _ _ hk' (Nat.succ.inj hl) hK hb S₁ (fun ds σ₂ prs ws s₂ hK₂ N₂ C₂ l₂ R₂ L₂ => ?_) fun e s' x => hE _ _ (x.back N₁')
     obtain ⟨bs, rb⟩ := R₂
     exact hQ _ σ₂ _ (v :: ws) s₂ hK₂ (N₁'.trans N₂) ⟨strKind_is _ _ _ _, rfl, C₂⟩ (by exact length_cons.symm ▸ length_cons.symm ▸ l₂.symm ▸ rfl) ⟨_, .cons (Reads.keeps (S₁.seen N₂) ra) rb⟩ L₂
theorem js : ∀ {ss : List Str} {ws : List Value}, sj ss = true → ((ss.zip ws).map (·.1)).Nodup
 | [], _, _ => by simp
 | _ :: _, [], _ => by simp
 | x :: r, w :: ws, h => by
  simp only [sj, Bool.and_eq_true, Bool.not_eq_true'] at h
  rw [zip_cons_cons, map_cons, nodup_cons]
  refine ⟨fun q => ?_, js h.2⟩
  refine zb (mem_map.mp q) fun W0 hy e => ?_
  obtain ⟨y, w'⟩ := W0
  have hm := (of_mem_zip hy).1
  simp only at e
  subst e
  obtain this : ∀ l : List Str, y ∈ l → zu y l = true := by
   intro l
   induction l with
   | nil => intro q; cases q
   | cons z l ih =>
    intro q
    dsimp only [zu]
    rcases mem_cons.mp q with rfl | q
    ·simp
    ·rw [ih q]; cases y == z <;> rfl
  rw [this r hm] at h
  exact absurd h.1 (by simp)
theorem cZ {g : Heap} (x : Str) : ∀ {ws : List Value} {ds : List PyData} {as : List Addr}, ReadsAll g ws ds as → ∀ ss : List Str, ss.length = ds.length →
  (zG x (ss.zip ds) = none → valueAt (ss.zip ws) x = none) ∧ (∀ d, zG x (ss.zip ds) = some d → ∃ v bs, valueAt (ss.zip ws) x = some v ∧ Reads g v d bs) :=
 rall_ind (M := fun ws ds => ∀ ss : List Str, ss.length = ds.length →
  (zG x (ss.zip ds) = none → valueAt (ss.zip ws) x = none) ∧ (∀ d, zG x (ss.zip ds) = some d → ∃ v bs, valueAt (ss.zip ws) x = some v ∧ Reads g v d bs)) (fun ss _ => by
   rw [List.zip_nil_right, List.zip_nil_right]
   exact ⟨fun _ => rfl, fun d h => nn h⟩) fun v ws d ds a b hv _ ih ss hl => by
  cases ss with
  | nil => exact absurd hl (Nat.zero_ne_add_one _)
  | cons y r =>
   have ih := ih r (Nat.succ.inj hl)
   rw [zip_cons_cons, zip_cons_cons]
   unfold zG valueAt
   rw [List.find?_cons]
   cases e : y == x with
   | true => exact ⟨fun q => nn q.symm, fun d' q => ⟨v, a, by rw [eq_of_beq e]; simp, Option.some.inj q ▸ hv⟩⟩
   | false =>
    rw [show decide ((y, v).1 = x) = false from decide_eq_false (ne_of_beq_false e)]
    exact ih
theorem ba (W : Wd cx G) (SE : ∀ Mo', yt cx A er env Mi Mo' ρ Ex) {ks : List (Option Expr)} {pos : Pos} (hk : ui ks = some ss)
  (hc : (sj ss && Nat.ble ss.length 14 && Nat.beq ss.length es.length && Nat.ble 1 ss.length) = true) (h : uh Ex es (fun ds => K (.dct (ss.zip ds))) σ = out) (hb : out ≠ .bad) (S : Sa cx A env Mi Mo ρ σ s.heap)
  (hQ : ∀ x σ' v s', K x σ' = out → Nx cx A s s' → Rp cx (zc (Mi ++ Mo) s'.heap) v x → zq cx s'.heap (zc (Mi ++ Mo) s'.heap) σ' → Q v s')
  (hE : ∀ e s', ErrE cx A er out s e s' → E e s') : wpAny (Mod cx) A (eval (.Dict ks es pos) env) Q E s := by
 simp only [Bool.and_eq_true] at hc
 obtain h1 : 1 ≤ ss.length := Nat.le_of_ble_eq_true hc.2
 replace hc := hc.1
 obtain hl : ss.length = es.length := Nat.eq_of_beq_eq_true hc.2
 obtain hz : ss.length ≤ 14 := Nat.le_of_ble_eq_true hc.1.2
 obtain hks : ∀ {ks : List (Option Expr)} {ss : List Str}, ui ks = some ss → ks.all (·.isSome) = true ∧ ks.length = ss.length := by
  intro ks
  induction ks with
  | nil => intro ss e; refine Option.some.inj e ▸ ?_; exact ⟨rfl, rfl⟩
  | cons k ks ih =>
   intro ss e
   obtain ⟨x, ⟨nk, pk, rfl⟩, ss', e', rfl⟩ := jq e
   obtain ⟨a, b⟩ := ih e'
   exact ⟨by rw [List.all_cons, a]; rfl, by exact length_cons.symm ▸ length_cons.symm ▸ b.symm ▸ rfl⟩
 refine ze (hks hk) fun hall hlen => ?_
 have S0 := S
 generalize hD : s.heap.objs.size = D
 have newD : s.heap.get? D = none := by rw [← hD]; exact Heap.get?_none_of_le (Nat.le_refl _)
 have atD : (s.heap.push { cls := .type "dict", data := .dict #[] } : Heap).get? D = some { cls := .type "dict", data := .dict #[] } := by rw [← hD]; exact Heap.get?_push_size _ rfl
 obtain S₁ : Sa cx A env Mi ([D] ++ Mo) ρ σ (s.heap.push { cls := .type "dict", data := .dict #[] }) := S.hide (fun b q => by refine (mem_singleton.mp q ..).symm ▸ ?_; exact newD) (fun b o e => Heap.get?_push_of_some _ e) (fun b q => by refine (mem_singleton.mp q ..).symm ▸ ?_; exact ⟨_, atD⟩)
 have nX : D ∉ cx.X := fun q => by refine zd (S.ok.live _ (S.ok.xin _ q)) fun o e => ?_; rw [newD] at e; injection e
 have nF : D ∉ Fs A := fun q => by refine zd (S.ok.live _ (S.ok.fin _ q)) fun o e => ?_; rw [newD] at e; injection e
 have hsys : D ≠ sysModules := fun q => by
  refine y5 (W.g) fun o _ _ e _ => ?_
  obtain lt : mainGlobals < D := by refine (hD ..) ▸ ?_; exact Heap.lt_size (S.base _ _ e)
  obtain lt := (q ..) ▸ lt
  exact absurd lt (by decide)
 refine wpAny_Dict_walk (knd := strKind cx.prog cx.w) hall (by exact hlen.symm ▸ hl.symm ▸ rfl) (fun q => by rw [q] at hlen; simp only [length_nil] at hlen; lia) (by refine (hlen ..).symm ▸ ?_; exact Nat.le_succ_of_le ‹_›) ?_
 refine jr (SE _) pos ks es ss _ σ _ _ _ hk hl h hb S₁ (fun ds σ₂ prs ws s₂ hK N₂ C₂ l₂ R₂ L₂ => ?_) fun e s' x => hE _ _ (x.back (.push _))
 refine (hD ..).symm ▸ ?_
 have N₂' : Nx cx A s s₂ := (Nx.push _).trans N₂
 have atD₂ := N₂.kp.at nX atD nF
 refine wb _ C₂ (⟨_, #[], 0, atD₂, ⟨rfl, rfl, rfl⟩, rfl, ?_, .nil, .nil⟩) (fun h' hm sb => ?_)
 ·intro e he; simp at he
 obtain ⟨as, rd⟩ := R₂
 have kg : (zc (Mi ++ ([D] ++ Mo)) s₂.heap).StaysIn (zc (Mi ++ Mo) h') := fun b o e => by
  obtain nb := zQ e
  obtain nbD : b ≠ D := fun q => nb (mem_append_right _ (mem_append_left _ (mem_singleton.mpr q)))
  refine vis_get ((sb.2 b nbD).trans (zH e)) fun q => nb ?_
  refine zh (mem_append.mp q) (fun q => ?_) fun q => ?_
  ·exact mem_append_left _ q
  ·exact mem_append_right _ (mem_append_right _ q)
 have hn := js (ws := ws) hc.1.1
 rw [merged_nil_of_nodup _ hn] at hm
 obtain S₂ := S₁.next N₂.kp L₂
 refine hQ _ σ₂ _ { s₂ with heap := h', toks := s₂.toks + prs.length } hK ⟨by exact N₂'.eq.symm ▸ rfl, ?_⟩ ⟨D, rfl, ⟨valueAt (ss.zip ws), ?_, fun k => ?_⟩, hsys⟩ (L₂.step kg fun b hb vs hl => ?_)
 ·intro b o hb e
  have nbD : b ≠ D := fun q => by rw [q, newD] at e; injection e
  refine ze (N₂'.kp b o hb e) fun W0 k1 => ?_
  refine zd (W0) fun sl e1 => ?_
  exact ⟨⟨sl, (sb.2 b nbD).trans e1⟩, fun hf => (sb.2 b nbD).trans (k1 hf)⟩
 ·refine y5 (hm.mapOf) fun o es' ep ho r => ?_
  refine w7 o es' ep (vis_get ho fun q => ?_) r
  have q' : D ∈ Mi ++ Mo := q
  refine zd ((S0.ok.live D q') : ∃ o, s.heap.get? D = some o) fun o' e => ?_
  rw [newD] at e; injection e
 ·refine ze (cZ k (yk kg rd) ss l₂) fun h1 h2 => ?_
  exact ⟨h1, h2⟩
 ·refine zb (hl) fun o e r => ?_
  exact zg o ((sb.2 b fun q => nX (q ▸ hb)).trans e) (r)
end
section
variable {cx : Cx} {A : Around} {er : Bool} {env : Env} {Mi Mo : List Addr} {ρ : zf} {σ : St} {out : Out} {s : Shared} {n : Nat} {u v : Value} {G : Str → Option V}
theorem uy {sc : zm} (so : ScOk env sc) (h : yB sc ρ f = true) : env.kindOf f = some .globalImplicit := by
 unfold yB at h
 split at h
 ·injection h
 ·split at h
  ·exact so.glob _ (by assumption)
  ·injection h
set_option tactic.hygienic true in
theorem jt {l : List PyData} (S : Sa cx A env Mi Mo ρ σ s.heap) (h : sr ρ o = some l)
  (hQ : ∀ a vs as, a ∈ Mi → zI s.heap a vs.toArray → ReadsAll (zc (Mi ++ Mo) s.heap) vs l as → Q (.ref a) s) : wpAny (Mod cx) A (eval o env) Q E s := by
 unfold sr at h
 split at h
 ·split at h
  ·rename_i e
   (injection h with h; subst h)
   refine zo fun R_ k_ => ?_
   obtain ⟨rfl, ek, a, vs, as, h1, h2, h3, h4⟩ := S.loc _ _ e
   refine k_ ?_
   exact wpAny_Name (xF S.ek h1 (hQ a vs as h2 h3 h4)) (by rfl)
  ·injection h
 ·injection h
theorem ju {sc : zm} (so : ScOk env sc) (hc : yF sc ρ scope.names scope.names = true) (S : Sa cx A env Mi Mo ρ σ h) : closureFor scope env = pure (xm env scope.names []) := by
 refine cr fun p hp hf => ?_
 refine yE (ux hc p hp) fun _ _ h3 => ?_
 refine yE (h3 hf) fun hs W0 hd => ?_
 refine zd (W0) fun t hr => ?_
 have hcell := so.cell p.1 hs
 obtain l := S.loc p.1 t hr
 cases t with
 | own1 l' => refine yE (l) fun _ ek _ => ?_; rw [hcell] at ek; cases ek
 | own2 l' => refine yE (l) fun _ ek _ => ?_; rw [hcell] at ek; cases ek
 | v y =>
  refine zb (l) fun u lo r => ?_
  rcases lo with ⟨hk, _⟩ | ⟨_, c, o, h1, h2, h3⟩
  ·replace hk := (hcell ..) ▸ hk; cases hk
  ·exact ⟨c, h1⟩
theorem bb (h : pN iter = false) : ∀ x, foldedSetIterable iter env x = pure x := by
 cases iter <;> first | (intro x; rfl) | exact ff h.symm
theorem oJ {gl : Str → Bool} {tup : Bool} {K : List PyData → St → Out} (h : src Ex gl tup iter K σ = out) (hb : out ≠ .bad) : ∀ x, foldedSetIterable iter env x = pure x := by
 refine bb ?_
 cases e : pN iter with
 | false => rfl
 | true =>
  have q : u4 Ex iter K σ = .bad := by unfold u4; refine (e ..).symm ▸ ?_; rfl
  obtain q2 : sk iter = none := by cases iter <;> first | rfl | exact ff e
  unfold src at h
  obtain h := (q2 ..) ▸ (q ..) ▸ h
  exact absurd h.symm hb
theorem bc (SE : yt cx A er env Mi Mo ρ Ex) (f : Bi) {pos : Pos} {K : List V → St → Out} (h : xj Ex es K σ = out) (hb : out ≠ .bad) (S : Sa cx A env Mi Mo ρ σ s.heap)
  (hQ : ∀ ds σ' vs s', K ds σ' = out → Nx cx A s s' → yM cx (zc (Mi ++ Mo) s'.heap) vs ds → zq cx s'.heap (zc (Mi ++ Mo) s'.heap) σ' → wpAny (Mod cx) A (call (wj f) vs) Q E s')
  (hE : ∀ e s', ErrE cx A er out s e s' → E e s') : wpAny (Mod cx) A (callWith pos (wj f) [] (backTo pos (starEach es env)) []) Q E s := by
 obtain hp := uv (env := env) pos es (zr h hb).1
 have ha := ta SE pos (f := wj f) (Q := fun x s₁ => wpAny (Mod cx) A (call (wj f) x.pos x.kw) Q E s₁) h hb S hQ hE
 obtain two : (∃ id, wj f = .builtin id) ∨ ∃ T, wj f = .type T := by
  cases f
  ·exact .inl ⟨_, rfl⟩
  ·exact .inl ⟨_, rfl⟩
  ·exact .inl ⟨_, rfl⟩
  ·exact .inr ⟨_, rfl⟩
  ·exact .inr ⟨_, rfl⟩
  ·exact .inr ⟨_, rfl⟩
  ·exact .inr ⟨_, rfl⟩
 generalize wj f = w at ha two
 rcases two with ⟨id, rfl⟩ | ⟨T, rfl⟩
 ·exact callWith_builtin hp ha
 ·exact PyProof.Rows.callWith_type hp ha
theorem bf {sc : zm} {pos : Pos} {b : Bi} {args : List Expr} (W : Wd cx G) (P : Prim cx) (hk : Rm A n) (so : ScOk env sc) (SE : yt cx A er env Mi Mo ρ Ex)
  (hgl : yB sc ρ f = true) (hbi : xZ f = some b) (h : lM Ex (yB sc ρ) (sr ρ) b args K σ = out) (hb : out ≠ .bad) (S : Sa cx A env Mi Mo ρ σ s.heap)
  (hQ : ∀ x σ' v s', K x σ' = out → Nx cx A s s' → Rp cx (zc (Mi ++ Mo) s'.heap) v x → zq cx s'.heap (zc (Mi ++ Mo) s'.heap) σ' → Q v s')
  (hE : ∀ e s', ErrE cx A er out s e s' → E e s') : wpAny (Mod cx) A (eval (.Call (.Name f p) args [] pos) env) Q E s := by
 refine Call_Name rfl (oE W S (uy so hgl) hbi ?_)
 obtain plain : xj Ex args (fun vs => xD b vs K) σ = out → wpAny (Mod cx) A (callWith pos (wj b) [] (backTo pos (starEach args env)) []) Q E s := fun h =>
  bc SE b h hb S (fun ds σ₁ vs s₁ hK N₁ R₁ L₁ => cO (S.to N₁ L₁) hk R₁ hK hb fun x hx w s' N R L => hQ x σ₁ w s' hx (N₁.trans N) R L) hE
 cases b with
 | len =>
  refine y9 (yL h) (fun l hl h1 => ?_) fun _ h => ?_
  ·clear h plain
   cases args with
   | nil => exact nn hl
   | cons a r =>
    refine ze (yW hl) ?_
    clear hl
    intro e1 hl
    obtain rfl := x4 e1
    obtain hna : ∃ y q, a = .Name y q := by
     cases a with
     | Name y q => exact y4 y q rfl
     | _ => exact nn hl
    obtain ⟨y, q, rfl⟩ := hna
    refine callWith_builtin (args := [(false, eval (.Name y q) env)]) rfl (evalArgs_plain (spliced_cons (jt S hl fun a vs as hm ho hr => spliced_nil ?_)))
    exact cb S ho.list hr h1 hb fun x hx w s' N R L => hQ x σ w s' hx N R L
  ·exact plain h
 | tuple =>
  refine y9 (yL h) (fun W0 hr h1 => ?_) fun _ h => ?_
  ·obtain ⟨g, as⟩ := W0; clear h plain
   refine zx (dD hr) fun p' q' W1 hg => ?_
   refine (W1) ▸ ?_
   obtain ⟨hgg, h⟩ := zr h1 hb
   refine PyProof.Rows.callWith_type (args := [(false, eval (.Call (.Name g p') as [] q') env)]) rfl (evalArgs_plain (spliced_cons (Call_Name rfl (oE W S (uy so hgg) hg (PyProof.Rows.callWith_type (uv q' as (zr h hb).1)
    (ta SE q' h hb S (fun ds σ₁ vs s₁ hK N₁ R₁ L₁ => ?_) hE))))))
   refine zb (u9 hK hb) ?_
   clear hK
   intro x W2 hK
   obtain rfl := W2
   refine zb (sJ R₁) fun u W3 ru => ?_
   refine (W3) ▸ ?_
   refine zb (qc hK hb ru) ?_
   clear ru hK
   intro l ru hK
   refine ze (zr hK hb) fun hf hK => ?_
   refine zW (vR ru) fun a ws as' W4 ht r1 e1 => ?_
   refine (W4) ▸ ?_
   obtain S₁ := S.to N₁ L₁
   refine wpAny_mono (P.rev A s₁ a ws.toArray Q E hk.handled (vk zE ht) (by obtain this := yN hf; rw [size_toArray]; lia) fun h' tk kp => ?_) (fun w s' hw => spliced_nil hw) fun _ _ x => x
   obtain N₂ : Nx cx A s₁ { s₁ with heap := h', toks := tk } := .all kp
   obtain S₂ : Sa cx A env Mi Mo ρ σ₁ ({ s₁ with heap := h', toks := tk } : Shared).heap := S₁.to N₂ (S₁.lexkept kp)
   obtain ⟨bs, r2⟩ := oh r1
   exact sF (s := { s₁ with heap := h', toks := tk }) S₂ (fun w s' N R L => hQ _ σ₁ w s' hK ((N₁.trans N₂).trans N) R L) (yk (S₁.seen N₂) r2) rfl
  ·exact plain h
 | _ => exact plain h
theorem oK {C : Addr} (hn : h.Ns C m) (sb : Heap.SameBut C h h') : (zc (C :: M) h).StaysIn (zc M h') := fun b o e => by
 obtain nb := zQ e
 exact vis_get ((sb.2 b fun q => nb (by rw [q]; exact mem_cons_self ..)).trans (zH e)) fun q => nb (mem_cons_of_mem _ q)
theorem bg {C : Addr} (S : Sa cx A env Mi Mo ρ σ s.heap) (N : Nx cx A s s') (hn : s'.heap.Ns C m) (newC : s.heap.get? C = none) (sb : Heap.SameBut C s'.heap h') {σ' : St} (L : zq cx s'.heap (zc (C :: (Mi ++ Mo)) s'.heap) σ') :
  Nx cx A s { s' with heap := h' } ∧ zq cx h' (zc (Mi ++ Mo) h') σ' := by
 refine ⟨⟨by exact N.eq.symm ▸ rfl, fun b o hb e => ?_⟩, L.step (oK hn sb) fun b hb vs hl => ?_⟩
 ·have nb : b ≠ C := fun q => by rw [q, newC] at e; injection e
  refine ze (N.kp b o hb e) fun W0 k1 => ?_
  refine zd (W0) fun sl e1 => ?_
  exact ⟨⟨sl, (sb.2 b nb).trans e1⟩, fun hf => (sb.2 b nb).trans (k1 hf)⟩
 ·refine zb (hl) fun o e r => ?_
  refine zg o ((sb.2 b fun q => ?_).trans e) r
  refine zd (S.ok.live b (S.ok.xin b hb)) fun o' e' => ?_
  rw [q, newC] at e'; injection e'
theorem bh {k : NameKind} (h : lV k = true) : k = .globalImplicit := by
 cases k <;> first | rfl | exact ff h
theorem bj (W : Wd cx G) (hf : sv (G f) = true) : ∃ fa, cx.mg f = some (.ref fa) ∧ ut cx fa := by
 cases e : G f with
 | none => obtain hf := (e ..) ▸ hf; exact ff hf
 | some x =>
  obtain hf := (e ..) ▸ hf
  refine zb (W.glob _ _ e) fun u hm r => ?_
  cases x with
  | fn =>
   obtain ⟨fa, rfl, r⟩ := r
   exact zg fa hm r
  | _ => exact ff hf
theorem jv {C : Str → List V → St → Out} {sc : zm} {gens : List Comprehension} (h : ev C G (k + 1) er sc ρ (.ListComp elt gens scope p) K σ = out) (hb : out ≠ .bad) :
  ∃ target iter ifs, gens = [⟨target, iter, ifs, 0⟩] ∧ (xC scope.kind = true ∧ yF sc ρ scope.names scope.names = true) ∧
    src (ev C G k er sc ρ) (yB sc ρ) (yK target) iter (fun items => compK (fun x => zP scope.names target x (y6 scope.names ρ))
     (fun ρ' => uj (tv (ev C G k false scope.names ρ') k) ifs) (fun ρ' => ev C G k false scope.names ρ' elt) items
     (fun ds => K (cond (xP elt target) (.kin ds) (.dat (.list ds))))) σ = out := by
 refine zo fun R_ k_ => ?_
 refine zb (zA h hb) fun W0 e1 h => ?_
 obtain ⟨⟨target, iter, ifs, a⟩, r⟩ := W0
 refine ze (zr h hb) ?_
 clear h
 intro e2 h
 refine ze (zO e2) ?_
 clear e2
 intro e2 hc
 refine ze (zO e2) ?_
 clear e2
 intro e2 e3
 refine k_ ?_
 obtain rfl : a = 0 := of_decide_eq_true e3
 obtain rfl : r = [] := x4 e2
 exact uc target iter ifs (pV e1) (zO hc) h
theorem bk {C : Str → List V → St → Out} (W : Wd cx G) (P : Prim cx) (CO : x5 cx n C) (hk : Rm A n) (k : Nat) (IH : ∀ (er : Bool) (env : Env) (sc : zm) (ρ : zf) (Mi Mo : List Addr), ScOk env sc → (er = true → wy cx env) → yt cx A er env Mi Mo ρ (ev C G k er sc ρ))
  (er : Bool) (env : Env) (sc : zm) (ρ : zf) (Mi Mo : List Addr) (so : ScOk env sc) (hcode : er = true → wy cx env) : yt cx A er env Mi Mo ρ (ev C G (k + 1) er sc ρ) := by
 have SE := IH er env sc ρ Mi Mo so hcode
 intro e K σ out s Q E h hb S hQ hE
 have fin : ∀ {s₁ : Shared} {σ₁ : St} {x : V}, Nx cx A s s₁ → K x σ₁ = out → Fin cx A (Mi ++ Mo) σ₁ s₁ x Q := fun N₁ hx w s' N R L => hQ _ _ w s' hx (N₁.trans N) R L
 cases e with
 | Constant c =>
  cases c with
  | none => exact wpAny_Constant_none (fin .refl h _ _ .refl qe S.ok.lex)
  | bool => exact wpAny_Constant_bool (fin .refl h _ _ .refl qd S.ok.lex)
  | int => exact wpAny_Constant_int (fin .refl h _ _ (.toks _) y0 S.ok.lex)
  | str => exact wpAny_Constant_str (fin .refl h _ _ (.toks _) kv S.ok.lex)
  | _ => exact absurd h.symm hb
 | Name id p =>
  refine ze (zr (o := lW G sc ρ id K σ) h hb) fun hd h => ?_
  obtain hd' : (id == ("__debug__" : Str)) = false := by rw [Bool.not_eq_true'] at hd; exact hd
  refine y9 (yL h) (fun t e h => ?_) fun _ h => ?_
  ·refine zb (zA h hb) fun x e1 h => ?_
   refine zb (S.loc _ _ (e.trans (congrArg some (qb e1)))) fun u l r => ?_
   exact wpAny_Name (xF S.ek l (fin .refl h _ _ .refl r S.ok.lex)) hd'
  ·refine zb (zA h hb) fun kk e h => ?_
   refine ze (zr h hb) fun e1 h => ?_
   refine zb (zA h hb) fun x hg h => ?_
   refine zb (W.glob _ _ hg) fun u hm r => ?_
   exact kq W S.ek S.base (so.glob _ (e.trans (congrArg some (bh e1)))) hd' hm (fin .refl h _ _ .refl (r.keeps S.ok.stays) S.ok.lex)
 | Tuple es m pos =>
  refine (arm_eval_Tuple ..).symm ▸ ?_
  refine wpAny_bind (wpAny_standAt (wpAny_bind (pZ SE pos es _ σ s _ _ h hb S (fun ds σ₁ vs s₁ hK N₁ R₁ L₁ => ?_) hE)))
  refine ze (zr hK hb) fun hf hK => ?_
  exact dG (S.to N₁ L₁) R₁ hf (fin N₁ hK)
 | List es pos =>
  refine (arm_eval_List ..).symm ▸ ?_
  refine wpAny_bind (wpAny_standAt (wpAny_bind (pZ SE pos es _ σ s _ _ h hb S (fun ds σ₁ vs s₁ hK N₁ R₁ L₁ => ?_) hE)))
  refine ze (zr hK hb) fun hf hK => ?_
  exact dH (S.to N₁ L₁) R₁ hf (fin N₁ hK)
 | Dict ks vs =>
  refine zb (zA h hb) fun ss hks h => ?_
  refine ze (zr h hb) fun hc h => ?_
  exact ba W (fun Mo' => IH er env sc ρ Mi Mo' so hcode) hks hc h hb S hQ hE
 | BinOp l op r =>
  refine y9 (yL h) (fun i e h => ?_) fun _ h => ?_
  ·refine y5 (dq e) fun k1 p1 p2 W0 W1 => ?_
   obtain rfl := W0
   obtain rfl := W1
   exact cY SE h hb S hQ hE
  ·refine wpAny_BinOp (SE _ _ σ out s _ _ h hb S (fun x σ₁ a s₁ hK N₁ R₁ L₁ => ?_) hE)
   obtain S₁ := S.to N₁ L₁
   refine SE _ _ σ₁ out s₁ _ _ hK hb S₁ (fun y σ₂ b s₂ hK₂ N₂ R₂ L₂ => ?_) fun e s' x => hE _ _ (x.back N₁)
   exact dM hk (S₁.to N₂ L₂) (R₁.keeps (S₁.seen N₂)) R₂ hK₂ hb fun x hx => fin (N₁.trans N₂) hx
 | UnaryOp op a p =>
  refine zb (zA h hb) fun i e h => ?_
  refine w8 (kj e) fun k1 p1 p2 e => ?_
  refine (e ..).symm ▸ ?_
  exact wpAny_UnaryOp (wpAny_Constant_int (PySem.P.neg_int (fin .refl h _ _ (Nx.trans (.toks _) (.toks _)) y0 S.ok.lex)))
 | IfExp t b o =>
  refine wpAny_IfExp (qn SE k _ _ σ out s _ _ h hb S (fun b σ₁ s₁ hK N₁ L₁ => ?_) hE)
  obtain S₁ := S.to N₁ L₁
  cases b with
  | true => exact SE _ _ σ₁ out s₁ _ _ hK hb S₁ (fun y σ₂ b s₂ hK₂ N₂ R₂ L₂ => hQ _ _ _ _ hK₂ (N₁.trans N₂) R₂ L₂) fun e s' x => hE _ _ (x.back N₁)
  | false => exact SE _ _ σ₁ out s₁ _ _ hK hb S₁ (fun y σ₂ b s₂ hK₂ N₂ R₂ L₂ => hQ _ _ _ _ hK₂ (N₁.trans N₂) R₂ L₂) fun e s' x => hE _ _ (x.back N₁)
 | BoolOp op vs =>
  refine ze (zr h hb) fun e1 h1 => ?_
  refine zb (zA h1 hb) fun W2 e2 h2 => ?_
  obtain ⟨a, b⟩ := W2
  clear h h1
  obtain rfl := dm e1
  obtain rfl := r9 e2
  rename _ = out => h
  refine wpAny_Or2 (SE _ _ σ out s _ _ h hb S (fun x σ₁ a s₁ hK N₁ R₁ L₁ => ?_) hE)
  obtain S₁ := S.to N₁ L₁
  refine kL S₁ R₁ hK hb fun b s₂ hb₂ N₂ L₂ => ?_
  cases b with
  | true => exact hQ _ _ _ _ hb₂ (N₁.trans N₂) (R₁.keeps (S₁.seen N₂)) L₂
  | false => exact SE _ _ σ₁ out s₂ _ _ hb₂ hb (S₁.to N₂ L₂) (fun y σ₂ b s₃ hK₂ N₃ R₃ L₃ => hQ _ _ _ _ hK₂ ((N₁.trans N₂).trans N₃) R₃ L₃) fun e s' x => hE _ _ (x.back (N₁.trans N₂))
 | Compare l ops rs =>
  refine zb (zA h hb) fun W3 e1 h1 => ?_
  obtain ⟨op, ops'⟩ := W3
  refine ze (zr h1 hb) fun e2 h2 => ?_
  refine zb (zA h2 hb) fun r e3 h3 => ?_
  clear h h1 h2
  refine (pV e1) ▸ ?_
  obtain rfl := x4 e2
  refine (uq e3) ▸ ?_
  rename _ = out => h
  refine y9 (yL h) (fun W4 e4 h => ?_) fun _ h => ?_
  ·obtain ⟨⟨i, j⟩, m⟩ := W4; refine rL (dt e4) fun k1 p1 k2 p2 p3 W5 W6 => ?_
   obtain rfl := W5
   obtain rfl := W6
   obtain ⟨hm, h⟩ := zr h hb
   obtain ⟨hm, her⟩ := zO hm
   obtain rfl : m = 0 := Nat.eq_of_beq_eq_true hm
   obtain rfl : er = true := her
   refine cX (hcode rfl) (SE _ _ σ out s _ _ h hb S (fun x σ₁ a s₁ hK N₁ R₁ L₁ => ?_) hE)
   obtain S₁ := S.to N₁ L₁
   refine zx (yY hK hb R₁) fun i t W7 hK => ?_
   obtain rfl := W7
   exact ⟨S₁.base, _, t, rfl, fun h' tk kp => fin N₁ hK _ { s₁ with heap := h', toks := tk } (.all kp) qd (S₁.lexkept kp)⟩
  ·refine ze (zr h hb) fun hm h => ?_
   rw [Bool.not_eq_true'] at hm
   refine wpAny_Compare1 (SE _ _ σ out s _ _ h hb S (fun x σ₁ a s₁ hK N₁ R₁ L₁ => ?_) hE) hm
   obtain S₁ := S.to N₁ L₁
   refine SE _ _ σ₁ out s₁ _ _ hK hb S₁ (fun y σ₂ b s₂ hK₂ N₂ R₂ L₂ => ?_) fun e s' x => hE _ _ (x.back N₁)
   exact dT hk (S₁.to N₂ L₂) (R₁.keeps (S₁.seen N₂)) R₂ hK₂ hb fun b hx s' N L => fin (N₁.trans N₂) hx _ s' N qd L
 | Call fe args kws pos =>
  refine ze (zr h hb) fun e1 h1 => ?_
  clear h
  refine (x4 e1) ▸ ?_
  clear e1
  rename _ = out => h
  cases fe with
  | Attribute o name apos =>
   refine ze (zr h hb) fun hc h => ?_
   exact cS P hk SE hc h hb S hQ hE
  | Name f p =>
   refine ze (zr h hb) ?_
   clear h
   intro hgl h
   refine y9 (yL h) (fun b hbi h => ?_) fun _ h => ?_
   ·exact bf W P hk so SE hgl hbi h hb S hQ hE
   ·obtain ⟨hf, h⟩ := zr h hb
    refine zo fun R_ k_ => ?_
    refine ze (zO hf) fun hf hdb => ?_
    rw [Bool.not_eq_true'] at hdb
    obtain ⟨fa, hmf, o, fd, ho, hd⟩ := bj W hf
    refine k_ ?_
    refine Call_Name rfl (kq W S.ek S.base (uy so hgl) hdb hmf (oI SE h hb S ho hd (fun ds σ₁ vs s₁ hK N₁ R₁ L₁ => ?_) hE))
    obtain S₁ := S.to N₁ L₁
    obtain hbad : C f ds σ₁ ≠ .bad := fun q => by obtain hK := (q ..) ▸ hK; exact hb hK.symm
    refine CO f ds σ₁ _ fa rfl hbad hmf A (Mi ++ Mo) s₁ vs _ _ hk S₁.ok R₁ (fun x σ' v s' ho' N R L => ?_) fun e s' x => ?_
    ·rw [ho'] at hK
     exact hQ _ _ _ _ hK (N₁.trans N) R L
    ·obtain q := x.out
     rw [q] at hK
     cases er with
     | false => exact absurd hK.symm hb
     | true => exact hE _ _ (ErrE.back N₁ ⟨rfl, hK.symm, x.eq, x.fly, x.kf⟩)
  | _ => exact absurd h.symm hb
 | Attribute o name =>
  refine ze (zr h hb) fun hc h => ?_
  rw [Bool.not_eq_true'] at hc
  exact cU P (hk.mono (Nat.zero_le _)) SE hc h hb S hQ hE
 | Subscript o i pos =>
  refine y9 (yL h) (fun q e1 h => ?_) fun hns h => ?_
  ·refine zd (db e1) fun ps W8 => ?_
   refine (W8) ▸ ?_
   obtain ⟨lo, hi, st⟩ := q
   refine y9 (yL h) (fun st e2 h => ?_) fun e2 h => ?_
   ·obtain rfl : _ = some st := e2
    refine ze (zr h hb) ?_
    clear h
    intro hm h
    refine ze (zO hm) ?_
    clear hm
    intro hm hm3
    refine ze (zO hm) fun hm1 hm2 => ?_
    obtain rfl : lo = none := Option.isNone_iff_eq_none.mp hm1
    obtain rfl : hi = none := Option.isNone_iff_eq_none.mp hm2
    refine w8 (kl hm3) fun k0 p0 p1 W9 => ?_
    obtain rfl := W9
    refine Subscript_ (SE _ _ σ out s _ _ h hb S (fun x σ₁ a s₁ hK N₁ R₁ L₁ => ?_) hE)
    obtain S₁ := S.to N₁ L₁
    refine zb (qc hK hb R₁) fun l R₁ hK => ?_
    refine ze (zr hK hb) fun hf hK => ?_
    refine wpAny_Slice (wpAny_pure (wpAny_pure ?_))
    refine (evalPart_some ..).symm ▸ ?_
    refine wpAny_UnaryOp (wpAny_Constant_int (PySem.P.neg_int ?_))
    obtain N₂ : Nx cx A s₁ { s₁ with toks := s₁.toks + 1 + 1 } := .toks _
    exact d9 (s := { s₁ with toks := s₁.toks + 1 + 1 }) (S₁.to N₂ S₁.ok.lex) R₁ hf fun w s' N R L => fin N₁ hK w s' (N₂.trans N) R L
   ·obtain rfl : st = none := e2
    refine Subscript_ (SE _ _ σ out s _ _ h hb S (fun x σ₁ a s₁ hK N₁ R₁ L₁ => ?_) hE)
    have S₁ := S.to N₁ L₁
    refine wpAny_Slice (kQ SE hK hb S₁ (fun i vl s₂ σ₂ hK₂ N₂ pl L₂ => ?_) fun e s' x => hE _ _ (x.back N₁))
    have S₂ := S₁.to N₂ L₂
    refine kQ SE hK₂ hb S₂ (fun j vu s₃ σ₃ hK₃ N₃ pu L₃ => ?_) fun e s' x => hE _ _ (x.back (N₁.trans N₂))
    obtain S₃ := S₂.to N₃ L₃
    refine wpAny_pure ?_
    refine zb (vj hK₃ hb (R₁.keeps (zZ (S₁.seen N₂) (S₂.seen N₃)))) fun l R₃ hK₃ => ?_
    refine ze (zr hK₃ hb) fun hf hK₃ => ?_
    exact d3 S₃ R₃ pl pu hf (fin ((N₁.trans N₂).trans N₃) hK₃)
  ·have hs : ∀ o' i', subscripted i false o' i' = operate [o', i'] (getItem o' i') := by
    intro o' i'
    cases i <;> first | rfl | exact nn hns.symm
   refine y9 (yL h) (fun l hl h => ?_) fun _ h => ?_
   ·refine Subscript_ (jt S hl fun a vs as hm ho hr => SE _ _ σ out s _ _ h hb S (fun x σ₁ w s₁ hK N₁ R₁ L₁ => ?_) hE)
    obtain S₁ := S.to N₁ L₁
    obtain nX : a ∉ cx.X := fun q => S.dis a hm (S.xo a q)
    replace hK : si l x K σ₁ = out := hK
    refine zx (yY hK hb R₁) fun j t Wa hK => ?_
    refine (Wa) ▸ ?_
    refine ze (zr hK hb) fun hf hK => ?_
    refine zb (zA hK hb) fun y hx hK => ?_
    exact oi S₁ (ho.next N₁.kp nX).list (yk (S.seen N₁) hr) y0 hf hx hs (fin N₁ hK)
   ·refine Subscript_ (SE _ _ σ out s _ _ h hb S (fun x σ₁ a s₁ hK N₁ R₁ L₁ => ?_) hE)
    obtain S₁ := S.to N₁ L₁
    refine SE _ _ σ₁ out s₁ _ _ hK hb S₁ (fun y σ₂ b s₂ hK₂ N₂ R₂ L₂ => ?_) fun e s' x => hE _ _ (x.back N₁)
    exact dZ (S₁.to N₂ L₂) (R₁.keeps (S₁.seen N₂)) R₂ hK₂ hb hs fun x hx => fin (N₁.trans N₂) hx
 | ListComp elt gens scope pos =>
  refine zo fun R_ k_ => ?_
  obtain ⟨target, iter, ifs, rfl, hc, h⟩ := jv h hb
  refine k_ ?_
  obtain hfun := jb hc.1
  rw [eval_ListComp]
  refine wpAny_comprehension_free (use := none) rfl (oJ h hb) (ju so hc.2 S) hfun (fun y hy hl => by refine (wK ..) ▸ ?_; exact yl ((ux hc.2 y hy).1 hl)) ?_
  refine jh W hk so SE (fun env' Mi' Mo' ρ' so' => IH false env' scope.names ρ' Mi' Mo' so' (fun q => ff q)) (fun f hf => uy so hf) hfun hc.2 h hb S (fun ds σ₁ C D m s₁ hK N₁ hn newC _ hD R₁ L₁ => ?_) hE
  refine zg m hn (fun h' sb => ?_)
  refine ze (bg S N₁ hn newC sb L₁) fun N₂ L₂ => ?_
  obtain R₂ := R₁.keeps (oK hn sb)
  cases hkk : xP elt target with
  | false =>
   obtain hK := (hkk ..) ▸ hK
   exact hQ _ σ₁ _ { s₁ with heap := h' } hK N₂ R₂ L₂
  | true =>
   replace hK := (hkk ..) ▸ hK
   refine zb (hD) fun o e hd => ?_
   exact hQ _ σ₁ _ { s₁ with heap := h' } hK N₂ ⟨R₂, D, o, rfl, oK hn sb _ _ e, hd⟩ L₂
 | _ => exact absurd h.symm hb
theorem th {C : Str → List V → St → Out} (W : Wd cx G) (P : Prim cx) (CO : x5 cx n C) (hk : Rm A n) : ∀ (k : Nat) (er : Bool) (env : Env) (sc : zm) (ρ : zf) (Mi Mo : List Addr), ScOk env sc → (er = true → wy cx env) → yt cx A er env Mi Mo ρ (ev C G k er sc ρ) := by
 intro k
 induction k with
 | zero => exact fun er env sc ρ Mi Mo so hcode e K σ out s Q E h hb => absurd h.symm hb
 | succ k ih => exact bk W P CO hk k ih
end
section
variable {cx : Cx} {A : Around} {er : Bool} {env : Env} {Mi Mo : List Addr} {ρ : zf} {σ : St} {out : Out} {s : Shared} {n : Nat} {u v : Value} {G : Str → Option V}
structure ErrB (cx : Cx) (A : Around) (Mi : List Addr) (er : Bool) (out : Out) (s : Shared) (e : Value) (s' : Shared) : Prop where
 er : er = true
 out : out = .err
 eq : s' = { s with heap := s'.heap, toks := s'.toks }
 kf : Kf (Mi ++ cx.X) s.heap s'.heap
 how : (∃ frs ea a0, A.frames = some frs ∧ e = .ref ea ∧ Heap.FlyingW cx.base frs ea (.ref cx.errC) a0 s'.heap) ∨
  (∃ frs h ea vs, A.frames = some frs ∧ e = .ref ea ∧ cx.base.StaysIn h ∧ h.FunFrames cx.base frs ∧ Heap.MadeExcOf h s'.heap ea (.ref cx.errC) vs)
theorem ErrE.b {s' : Shared} {e : Value} (x : ErrE cx A er out s e s') : ErrB cx A Mi er out s e s' :=
 ⟨x.er, x.out, x.eq, fun b o hb => x.kf b o fun q => hb (mem_append_right _ q), .inl x.fly⟩
theorem ErrB.back {e : Value} (N : Nz cx A Mi s s₁) (g : yg Mi Mi' s.heap) (x : ErrB cx A Mi' er out s₁ e s') : ErrB cx A Mi er out s e s' := by
 refine ⟨x.er, x.out, by exact x.eq.symm ▸ N.eq.symm ▸ rfl, fun b o hb e hd => ?_, x.how⟩
 refine ze (N.kp b o hb e) fun W0 _ => ?_
 refine zd (W0) fun sl q => ?_
 obtain nz : b ∉ Mi' ++ cx.X := fun z => by
  refine zh (mem_append.mp z) (fun z => ?_) fun z => ?_
  ·refine zh (g b z) (fun w => ?_) fun w => ?_
   ·exact hb (mem_append_left _ w)
   ·rw [e] at w; exact nn w.symm
  ·exact hb (mem_append_right _ z)
 refine zd (x.kf b _ nz q hd) fun sl' q' => ?_
 exact ⟨sl', q'⟩
theorem Sa.hide' {σ' : St} (S : Sa cx A env Mi Mo ρ σ h) (new : ∀ b ∈ Z, h.get? b = none) (kp : Kp cx.X (Fs A) h h') (live : ∀ b ∈ Z, ∃ o, h'.get? b = some o) (l : zq cx h' (zc (Mi ++ (Z ++ Mo)) h') σ') : Sa cx A env Mi (Z ++ Mo) ρ σ' h' := by
 obtain up : ∀ b ∈ Mi ++ Mo, b ∈ Mi ++ (Z ++ Mo) := fun b hb => by
  refine zh (mem_append.mp hb) (fun q => ?_) fun q => ?_
  ·exact mem_append_left _ q
  ·exact mem_append_right _ (mem_append_right _ q)
 have kg : (zc (Mi ++ Mo) h).StaysIn (zc (Mi ++ (Z ++ Mo)) h') := kp.seen_more S.ok.xin S.ok.fin fun b hb => by
  rcases mem_append.mp hb with q | q
  ·exact .inl (mem_append_left _ q)
  ·refine zh (mem_append.mp q) (fun q => ?_) fun q => ?_
   ·exact .inr (new b q)
   ·exact .inl (mem_append_right _ q)
 refine ⟨⟨zZ S.ok.stays kg, fun b hb => ?_, ?_, fun b hb => up b (S.ok.fin b hb), S.ok.fx, fun b hb => up b (S.ok.xin b hb), l⟩, S.ek, ?_, S.lin, fun b hb => mem_append_right _ (S.xo b hb), fun b hb q => ?_, fun x t e => ?_, S.two⟩
 ·have liv : ∀ b ∈ Mi ++ Mo, ∃ o, h'.get? b = some o := fun b hb => by
   by_cases hx : b ∈ cx.X
   ·exact l.live b hx
   ·refine zd (S.ok.live b hb) fun o e => ?_; exact kp.ex hx e
  refine zh (mem_append.mp hb) (fun q => ?_) fun q => ?_
  ·exact liv b (mem_append_left _ q)
  ·refine zh (mem_append.mp q) (fun q => ?_) fun q => ?_
   ·exact live b q
   ·exact liv b (mem_append_right _ q)
 ·refine zb (S.ok.frames) fun frs e f => ?_
  exact zg frs e (kp.frames f fun env he L hL => S.ok.fx L (by unfold Fs; rw [e]; exact mem_filterMap.mpr ⟨env, he, hL⟩))
 ·refine zd (S.ns) fun m hm => ?_; exact ⟨m, kp.ns (fun q => S.dis _ S.lin (S.xo _ q)) hm⟩
 ·refine zh (mem_append.mp q) (fun q => ?_) fun q => ?_
  ·refine zd (S.ok.live b (mem_append_left _ hb)) fun o e => ?_; rw [new b q] at e; exact nn e
  ·exact S.dis b hb q
 ·exact (S.loc x t e).next kp kg S.lin (fun b hb q => S.dis b hb (S.xo b q)) (.lists S.ok.lex.lists)
theorem Tw {N : List Addr} (e : ∀ b, b ∈ N → b ∈ M) : (zc M h).StaysIn (zc N h) := xk e
theorem bl {C : Addr} (hn : h.Ns C m) : wJ [C] h := fun b hb o e v d => by
 rw [mem_singleton.mp hb] at e
 refine xW (hn) fun o' es ep e' hd _ => ?_
 rw [e] at e'; obtain rfl := Option.some.inj e'; rw [d] at hd; injection hd
theorem Sa.shed (S : Sa cx A env Mi (Z ++ Mo) ρ σ h) (nc : wJ Z h) (k : ∀ b o, b ∉ Z → h.get? b = some o → h'.get? b = some o) (hf : ∀ b ∈ Fs A, b ∈ Mi ++ Mo) (hx : ∀ b ∈ cx.X, b ∈ Mo) (hC : ∀ b ∈ Mi ++ Mo, b ∉ Z) : Sa cx A env Mi Mo ρ σ h' := by
 have K : Kp Z (Fs A) h h' := .of_keeps fun b o hb e => k b o hb e
 have up : ∀ b ∈ Mi ++ Mo, b ∈ Mi ++ (Z ++ Mo) := fun b hb => by
  refine zh (mem_append.mp hb) (fun q => ?_) fun q => ?_
  ·exact mem_append_left _ q
  ·exact mem_append_right _ (mem_append_right _ q)
 have kg : (zc (Mi ++ (Z ++ Mo)) h).StaysIn (zc (Mi ++ Mo) h') := fun b o e => by
  obtain nb := zQ e
  exact vis_get (k b o (fun q => nb (mem_append_right _ (mem_append_left _ q))) (zH e)) fun q => nb (up b q)
 refine ⟨⟨zZ S.ok.stays kg, fun b hb => ?_, ?_, hf, S.ok.fx, fun b hb => mem_append_right _ (hx b hb), S.ok.lex.step kg fun b hb vs hl => hl.next K (hC b (mem_append_right _ (hx b hb)))⟩, S.ek, ?_, S.lin, hx, fun b hb q => S.dis b hb (mem_append_right _ q), fun x t e => ?_, S.two⟩
 ·refine zd (S.ok.live b (up b hb)) fun o e => ?_
  exact ⟨o, k b o (hC b hb) e⟩
 ·refine zb (S.ok.frames) fun frs e f => ?_
  exact zg frs e (K.frames f fun env he L hL => hC L (hf L (by unfold Fs; rw [e]; exact mem_filterMap.mpr ⟨env, he, hL⟩)))
 ·refine zd (S.ns) fun m' hm => ?_; exact ⟨m', K.ns (hC _ (mem_append_left _ S.lin)) hm⟩
 ·exact (S.loc x t e).next K kg S.lin (fun b hb => hC b (mem_append_left _ hb)) nc
theorem Sa.letgo {C : Addr} (S : Sa cx A env Mi ([C] ++ Mo) ρ σ h) (hn : h.Ns C m) (sb : Heap.SameBut C h h') (hf : ∀ b ∈ Fs A, b ∈ Mi ++ Mo) (hx : ∀ b ∈ cx.X, b ∈ Mo) (hC : C ∉ Mi ++ Mo) : Sa cx A env Mi Mo ρ σ h' :=
 S.shed (bl hn) (fun b o hb e => (sb.2 b fun q => hb (mem_singleton.mpr q)).trans e) hf hx fun b hb q => hC (by refine (mem_singleton.mp q ..) ▸ ?_; exact hb)
end
section
variable {cx : Cx} {A : Around} {er : Bool} {env : Env} {Mi Mo : List Addr} {ρ : zf} {σ : St} {out : Out} {s : Shared} {n : Nat} {u v : Value} {G : Str → Option V}
theorem Tx {t : Option Expr} {l : Nat} (h : ∀ a b c d, e ≠ .ListComp a b c d) (h2 : ∀ a b c d, e ≠ .SetComp a b c d) (h3 : ∀ a b c d f, e ≠ .DictComp a b c d f) : swapsWith e t l env = pure false := by
 cases e <;> first | rfl | exact absurd rfl (h _ _ _ _) | exact absurd rfl (h2 _ _ _ _) | exact absurd rfl (h3 _ _ _ _ _)
theorem bo {gens : List Comprehension} {l : Nat} : ∃ b, swapsWith (.ListComp elt gens scope p) (some (.Name x px)) l env = pure b := ⟨_, rfl⟩
theorem bp {C : Str → List V → St → Out} (W : Wd cx G) (P : Prim cx) (CO : x5 cx n C) (hk : Rm A n) {sc : zm} (so : ScOk env sc) (hcode : er = true → wy cx env) {pos : Pos} {Q : Flow → Shared → Prop}
  (hx : zN sc x = true) (h : ev C G k er sc ρ e K σ = out) (hb : out ≠ .bad) (S : Sa cx A env Mi Mo ρ σ s.heap)
  (hQ : ∀ v σ' s', K v σ' = out → Nz cx A Mi s s' → Sa cx A env Mi Mo (zz x (.v v) ρ) σ' s'.heap → Q .next s')
  (hE : ∀ e s', ErrE cx A er out s e s' → E e s') : wpAny (Mod cx) A (exec (.Assign [.Name x px] e pos) env) Q E s := by
 obtain hxk := so.loc _ (yl hx)
 have plain : swapsWith e (some (.Name x px)) pos.line env = pure false → wpAny (Mod cx) A (exec (.Assign [.Name x px] e pos) env) Q E s := fun hs => by
  refine wpAny_Assign_Name (th W P CO hk k er env sc ρ Mi Mo so hcode e K σ out s _ _ h hb S (fun v σ₁ u s₁ hK N₁ R₁ L₁ => ?_) hE) hs
  obtain S₁ := S.to N₁ L₁
  exact store_val S₁ hxk R₁ fun s₂ N₂ S₂ _ => hQ v σ₁ s₂ hK (N₁.z.trans .refl N₂) S₂
 cases e with
 | ListComp elt gens scope p =>
  refine zd (bo (env := env) (elt := elt) (gens := gens) (scope := scope) (p := p) (px := px) (x := x) (l := pos.line)) fun b hs => ?_
  cases b with
  | false => exact plain hs
  | true =>
   match k, h with
   | 0, h => exact absurd h.symm hb
   | k + 1, h =>
    refine zo fun R_ k_ => ?_
    obtain ⟨target, iter, ifs, rfl, hc, h⟩ := jv h hb
    refine k_ ?_
    obtain hfun := jb hc.1
    obtain SE := th W P CO hk k er env sc ρ Mi Mo so hcode
    refine (exec_Assign_Name_used _ _ _ _ hs ..).symm ▸ ?_
    refine wpAny_bind (wpAny_standAt (wpAny_bind ?_))
    refine wpAny_bind (wpAny_mono (wpAny_comprehension_free (use := some (assign (.Name x px) env)) (Q := fun _ s' => Q .next s') rfl (oJ h hb) (ju so hc.2 S) hfun
     (fun y hy hl => by refine (wK ..) ▸ ?_; exact yl ((ux hc.2 y hy).1 hl)) ?_) (fun _ s' hq => wpAny_pure (wpAny_pure hq)) fun _ _ e => e)
    refine jh W hk so SE (fun env' Mi' Mo' ρ' so' => th W P CO hk k false env' scope.names ρ' Mi' Mo' so' (fun q => by exact ff q)) (fun f hf => uy so hf) hfun hc.2 h hb S (fun ds σ₁ C' D m s₁ hK N₁ hn newC atC hD R₁ L₁ => ?_) hE
    have two : ∀ b, b ∈ C' :: (Mi ++ Mo) ↔ b ∈ Mi ++ ([C'] ++ Mo) := fun b => by simp; exact ⟨fun q => by refine rH q (fun q => ?_) (fun q => ?_) fun q => ?_<;> simp [q], fun q => by refine rH q (fun q => ?_) (fun q => ?_) fun q => ?_<;> simp [q]⟩
    obtain kg : (zc (C' :: (Mi ++ Mo)) s₁.heap).StaysIn (zc (Mi ++ ([C'] ++ Mo)) s₁.heap) := xk fun b hb => (two b).mpr hb
    obtain S₁ : Sa cx A env Mi ([C'] ++ Mo) ρ σ₁ s₁.heap := S.hide' (fun b q => by refine (mem_singleton.mp q ..).symm ▸ ?_; exact newC) N₁.kp (fun b q => by refine (mem_singleton.mp q ..).symm ▸ ?_; exact atC) (L₁.step kg fun _ _ _ hl => hl)
    have hCn : C' ∉ Mi ++ Mo := fun q => by refine zd (S.ok.live C' q) fun o e => ?_; rw [newC] at e; injection e
    have fin : ∀ y : V, K y σ₁ = out → Rp cx (zc (Mi ++ ([C'] ++ Mo)) s₁.heap) (.ref D) y → wpAny (Mod cx) A (assign (.Name x px) env (.ref D)) (fun _ s'' => ∃ m, s''.heap.Ns C' m ∧ ∀ h', Heap.SameBut C' s''.heap h' → Q .next { s'' with heap := h' }) E s₁ := fun y hy hr => by
     refine wpAny_assign_Name (store_val S₁ hxk hr fun s₂ N₂ S₂ _ => ?_)
     have hn₂ : s₂.heap.Ns C' m := N₂.kp.ns (fun q => by
      refine zh (mem_append.mp q) (fun q => ?_) fun q => ?_
      ·exact hCn (mem_append_left _ q)
      ·exact hCn (S.ok.xin _ q)) hn
     refine zg m hn₂ (fun h' sb => ?_)
     obtain S₃ := S₂.letgo hn₂ sb S.ok.fin S.xo hCn
     refine hQ y σ₁ { s₂ with heap := h' } hy ⟨by exact N₂.eq.symm ▸ N₁.eq.symm ▸ rfl, fun b o hb e => ?_⟩ S₃
     have nC : b ≠ C' := fun q => by rw [q, newC] at e; injection e
     refine ze (N₁.kp b o (fun q => hb (mem_append_right _ q)) e) fun W0 k1 => ?_
     refine zd (W0) fun sl e1 => ?_
     refine ze (N₂.kp b _ hb e1) fun W1 _ => ?_
     refine zd (W1) fun sl' e2 => ?_
     exact ⟨⟨sl', (sb.2 b nC).trans e2⟩, fun hf => (sb.2 b nC).trans ((N₂.kp b o hb (k1 hf)).2 hf)⟩
    cases hkk : xP elt target with
    | false =>
     obtain hK := (hkk ..) ▸ hK
     exact fin _ hK (R₁.keeps kg)
    | true =>
     obtain hK := (hkk ..) ▸ hK
     refine zb (hD) fun o e hd => ?_
     exact fin _ hK ⟨R₁.keeps kg, D, o, rfl, kg _ _ e, hd⟩
 | SetComp =>
  exfalso
  cases k with
  | zero => exact hb h.symm
  | succ k => exact hb h.symm
 | DictComp =>
  exfalso
  cases k with
  | zero => exact hb h.symm
  | succ k => exact hb h.symm
 | _ => exact plain rfl
noncomputable def uz : Expr → Str
 | .Name x _ => x
 | _ => Str.empty
set_option tactic.hygienic true in
theorem jw {sc : zm} {ts : List Expr} {m : Nat} (hl : yx sc ts = true) (ho : ww ts e = true) :
  swappedStores [.Tuple ts m p] e env = pure none ∨ swappedStores [.Tuple ts m p] e env = pure (some (ts.map uz)) := by
 dsimp only [swappedStores]
 cases e with
 | Tuple vs _ _ =>
  dsimp only [pure_bind]
  split
  ·exact .inl rfl
  split
  ·exact .inl rfl
  generalize hN : ts.filterMap (fun
   | .Name id pos => if env.kindOf id == some .local && pos.line == (ts.head?.map (·.pos.line)).getD 0 then some id else none
   | _ => none) = names
  split
  ·exact .inl rfl
  rename_i h1 h2 h3
  split
  ·exact .inl rfl
  rename_i h4
  obtain hno : vs.all (constantsAlone 8) = false := by
   dsimp only [ww] at ho
   simp only [Bool.or_eq_true, Bool.not_eq_true'] at ho
   refine zh ho (fun ho => ?_) fun ho => ?_
   ·exact absurd ho h4
   ·exact ho
  rw [hno]
  right
  obtain hlen : names.length = ts.length := by
   rw [Bool.or_eq_true, bne_iff_ne, not_or, ne_eq, Decidable.not_not] at h3
   exact h3.1
  have all : ∀ (l : Nat) (ts : List Expr), yx sc ts = true → (ts.filterMap (fun
   | .Name id pos => if env.kindOf id == some .local && pos.line == l then some id else none
   | _ => none)).length ≤ ts.length ∧ ((ts.filterMap (fun
   | .Name id pos => if env.kindOf id == some .local && pos.line == l then some id else none
   | _ => none)).length = ts.length → ts.filterMap (fun
   | .Name id pos => if env.kindOf id == some .local && pos.line == l then some id else none
   | _ => none) = ts.map uz) := fun l => names_ind ⟨Nat.le_refl _, fun _ => rfl⟩ fun x q r _ ih => by
   rw [filterMap_cons]
   by_cases hc : (env.kindOf x == some .local && q.line == l) = true
   ·simp only [hc, if_true]
    exact ⟨Nat.succ_le_succ ih.1, fun q => congrArg (x :: ·) (ih.2 (Nat.succ.inj q))⟩
   ·simp only [hc, if_false]
    exact ⟨Nat.le_succ_of_le ih.1, fun q => absurd (q ▸ ih.1) (Nat.not_succ_le_self _)⟩
  rw [← hN] at hlen ⊢
  rw [(all _ ts hl).2 hlen]
  rfl
 | _ => exact .inl rfl
end
section
variable {cx : Cx} {A : Around} {er : Bool} {env : Env} {Mi Mo : List Addr} {ρ : zf} {σ : St} {out : Out} {s : Shared} {n : Nat} {u v : Value} {G : Str → Option V}
theorem jx : ∀ l : List (Str × PyData), sI cx A env (l.map fun p => fun u => bindName env p.1 u) l
 | [] => trivial
 | p :: r => ⟨fun u Q E s q => wpAny_bindName q, jx r⟩
theorem bq {sc : zm} (ts : List Expr) (ds : List PyData) (h : yx sc ts = true) (hl : ts.length = ds.length) : (xc ts ds).map (·.1) = ts.map uz :=
 names_ind (M := fun ts => ∀ ds : List PyData, ts.length = ds.length → (xc ts ds).map (·.1) = ts.map uz) (fun ds _ => by cases ds <;> rfl) (fun x p r _ ih ds h => by
  cases ds with
  | nil => exact absurd h (Nat.succ_ne_zero _)
  | cons d ds => exact congrArg (x :: ·) (ih ds (Nat.succ.inj h))) ts h ds hl
theorem jy {g : Heap} (r : Rp cx g u (.dat d)) (k : g.StaysIn h) (ht : yK target = true → ∃ ds, d = .tuple ds) : tf g h target u d := by
 refine zd (r) fun as r => ?_
 unfold tf
 split
 ·refine zd (ht rfl) fun ds e => ?_
  rw [e] at r ⊢
  refine pB (reads_tuple_inv r) fun a o ws k' e' h1 h2 h3 h4 => ?_
  exact rG a ws ds _ e' (⟨o, k _ _ h1, h2, k', h3⟩) rfl h4
 ·exact ⟨_, r⟩
theorem br (hk : Rm A n) {sc : zm} (so : ScOk env sc) (SE : yt cx A er env Mi Mo ρ Ex) {ts : List Expr} {m : Nat} {pos : Pos} {Kt : zf → St → Out} {Q : Flow → Shared → Prop}
  (hc : (ww ts e && yx sc ts) = true) (h : Ex e (fun v σ => yw v (fun d => opt (zP sc (.Tuple ts m p) d ρ) (fun ρ' => Kt ρ' σ) .bad)) σ = out) (hb : out ≠ .bad) (S : Sa cx A env Mi Mo ρ σ s.heap)
  (hs : swapsWithSole [.Tuple ts m p] e pos.line env = pure false)
  (hQ : ∀ ρ' σ' s', Kt ρ' σ' = out → Nz cx A Mi s s' → Sa cx A env Mi Mo ρ' σ' s'.heap → Q .next s')
  (hE : ∀ e s', ErrE cx A er out s e s' → E e s') : wpAny (Mod cx) A (exec (.Assign [.Tuple ts m p] e pos) env) Q E s := by
 replace hc := zO hc
 refine zh (jw (env := env) (sc := sc) (ts := ts) (m := m) (p := p) (e := e) hc.2 hc.1) (fun hw => ?_) fun hw => ?_
 ·refine Assign_Tuple (SE e _ σ out s _ _ h hb S (fun x σ₁ u s₁ hK N₁ R₁ L₁ => ?_) hE) hs hw
  have S₁ := S.to N₁ L₁
  obtain ⟨d, R₁, hK⟩ := tc hK hb R₁
  obtain ⟨ρ', hbind, hK⟩ := zA hK hb
  exact ou hk so hbind S₁ (jy R₁ zE (qp hbind)) fun s₂ N₂ S₂ => hQ ρ' σ₁ s₂ hK (N₁.z.trans .refl N₂) S₂
 ·refine Assign_Tuple_swapped (SE e _ σ out s _ _ h hb S (fun x σ₁ u s₁ hK N₁ R₁ L₁ => ?_) hE) hs hw
  have S₁ := S.to N₁ L₁
  obtain ⟨d, R₁, hK1⟩ := tc hK hb R₁
  refine zb (zA hK1 hb) fun ρ' hbind hK2 => ?_
  clear hK hK1
  rename _ = out => hK
  ···refine rJ (jy (target := .Tuple ts m p) R₁ (zE (h := s₁.heap)) (qp hbind)) fun T vals ds as W0 hT W1 r => ?_
     refine (W0) ▸ ?_
     obtain rfl := W1
     obtain ⟨hl0, hbind⟩ := yW hbind
     obtain hl := zO hl0
     refine yE (kV ts ds ρ ρ' hbind) fun e1 e2 e3 => ?_
     obtain hlen : (ts.map uz).length = vals.size := by exact (length_map ..).symm ▸ e2.symm ▸ (wi r ..) ▸ Array.length_toList.symm ▸ rfl
     refine (hlen ..).symm ▸ ?_
     refine wpAny_unpackItems_tuple hk.handled hT fun h' hx => ?_
     have kp : ∀ b o, s₁.heap.get? b = some o → h'.get? b = some o := fun b o e => hx b o (Nat.ne_of_lt (Heap.lt_size e)) e
     obtain N₂ : Nx cx A s₁ { s₁ with heap := h' } := .all kp
     obtain S₂ := S₁.to N₂ (S₁.lexkept kp)
     obtain nd := ch ts ds hl.2
     obtain en : (ts.map uz).reverse.map (fun n => bindName env n) = (xc ts ds).reverse.map fun p => fun u => bindName env p.1 u := by
      refine (bq ts ds hl.1 e2 ..) ▸ (map_reverse ..) ▸ (List.map_map ..).symm ▸ ?_; rfl
     refine (en ..).symm ▸ ?_
     obtain ⟨bs, r'⟩ := oh (yk (S₁.seen N₂) r)
     refine oq _ _ vals.toList.reverse bs ρ _ _ (jx _) S₂ (fun q hq => kW so ts ds hl.1 q (mem_reverse.mp hq)) ?_ fun s₃ N₃ S₃ => ?_
     ·rw [map_reverse, e3]; exact r'
     ·refine hQ ρ' σ₁ s₃ hK ((N₁.trans N₂).z.trans .refl N₃) (S₃.congr fun x => ?_)
      exact e1.symm ▸ (cf _ _ nd ..).symm ▸ rfl
theorem Sa.own (S : Sa cx A env Mi Mo ρ σ h) (new : ∀ b ∈ Z, h.get? b = none) (kp : ∀ b o, h.get? b = some o → h'.get? b = some o) (live : ∀ b ∈ Z, ∃ o, h'.get? b = some o) : Sa cx A env (Z ++ Mi) Mo ρ σ h' := by
 have K : Kp [] (Fs A) h h' := .of_all kp
 obtain up : ∀ b ∈ Mi ++ Mo, b ∈ (Z ++ Mi) ++ Mo := fun b hb => by rw [append_assoc]; exact mem_append_right _ hb
 have kg : (zc (Mi ++ Mo) h).StaysIn (zc ((Z ++ Mi) ++ Mo) h') := fun b o e => by
  refine vis_get (kp b o (zH e)) fun q => ?_
  rw [append_assoc] at q
  refine zh (mem_append.mp q) (fun q => ?_) fun q => ?_
  ·exact absurd (zH e) (by rw [new b q]; simp)
  ·exact zQ e q
 refine ⟨⟨zZ S.ok.stays kg, fun b hb => ?_, ?_, fun b hb => up b (S.ok.fin b hb), S.ok.fx, fun b hb => up b (S.ok.xin b hb), S.ok.lex.step kg fun b _ vs hl => hl.next K (by simp)⟩, S.ek, ?_, mem_append_right _ S.lin, S.xo, fun b hb q => ?_, fun x t e => ?_, S.two⟩
 ·replace hb := (append_assoc ..) ▸ hb
  rcases mem_append.mp hb with q | q
  ·exact live b q
  ·refine zd (S.ok.live b q) fun o e => ?_; exact ⟨o, kp b o e⟩
 ·refine zb (S.ok.frames) fun frs e f => ?_
  exact zg frs e (K.frames f (by simp))
 ·refine zd (S.ns) fun m hm => ?_; exact ⟨m, K.ns (by simp) hm⟩
 ·refine zh (mem_append.mp hb) (fun w => ?_) fun w => ?_
  ·refine zd (S.ok.live b (mem_append_right _ q)) fun o e => ?_; rw [new b w] at e; injection e
  ·exact S.dis b w q
 ·obtain l := (S.loc x t e).next K kg S.lin (by simp) (fun b hb => by cases hb)
  cases t with
  | v y => exact l
  | own1 l' => obtain ⟨e1, e2, a, vs, as, h1, h2, h3, h4⟩ := l; exact ⟨e1, e2, a, vs, as, h1, mem_append_right _ h2, h3, h4⟩
  | own2 ll => obtain ⟨e1, e2, a, bs, h1, h2, h3, h4, h5, h6⟩ := l; exact ⟨e1, e2, a, bs, h1, mem_append_right _ h2, h3, h4, fun b hb => mem_append_right _ (h5 b hb), h6⟩
theorem yg.more (new : ∀ b ∈ Z, h.get? b = none) : yg Mi (Z ++ Mi) h := fun b hb => by
 rcases mem_append.mp hb with q | q
 ·exact .inr (new b q)
 ·exact .inl q
theorem jz {l : List PyData} (h : yU ρ = true) : yb (zz yy (.own1 l) ρ) = true ∨ yU (zz yy (.own1 l) ρ) = true := by
 right
 unfold yU at h ⊢
 rw [yO, if_neg (by decide)]
 exact h
theorem jA {l : List (List PyData)} (h : yb ρ = true) : yb (zz yf (.own2 l) ρ) = true ∨ yU (zz yf (.own2 l) ρ) = true := by
 left
 unfold yb at h ⊢
 rw [yO, if_neg (by decide)]
 exact h
theorem bt {sc : zm} (so : ScOk env sc) (SE : yt cx A er env Mi Mo ρ Ex) {pos : Pos} {a : Expr} {K : zf → St → Out} {Q : Flow → Shared → Prop}
  (hx : zN sc yy = true) (hp : yU ρ = true) (hst : (!(xb a)) = true) (h : Ex a (fun v σ => yw v (fun d => K (zz yy (.own1 [d]) ρ) σ)) σ = out) (hb : out ≠ .bad) (S : Sa cx A env Mi Mo ρ σ s.heap)
  (hQ : ∀ ρ' σ' Mi' s', K ρ' σ' = out → Nz cx A Mi s s' → yg Mi Mi' s.heap → Sa cx A env Mi' Mo ρ' σ' s'.heap → Q .next s')
  (hE : ∀ e s', ErrE cx A er out s e s' → E e s') : wpAny (Mod cx) A (exec (.Assign [.Name yy px] (.List [a] p) pos) env) Q E s := by
 obtain hxk := so.loc _ (yl hx)
 refine wpAny_Assign_Name (wpAny_List ?_)
 refine (wL hst ..).symm ▸ ?_
 refine spliced_cons (SE a _ σ out s _ _ h hb S (fun x σ₁ u s₁ hK N₁ R₁ L₁ => ?_) hE)
 refine spliced_nil ⟨by show 1 ≤ sizeLine; decide, ?_⟩
 refine zb (wx hK hb R₁) fun d W0 hK => ?_
 refine zd (W0) fun as r => ?_
 ·have S₁ := S.to N₁ L₁
  generalize hD : s₁.heap.objs.size = D
  have newD₁ : s₁.heap.get? D = none := by rw [← hD]; exact Heap.get?_none_of_le (Nat.le_refl _)
  obtain atD : (s₁.heap.push { cls := .type "list", data := .seq [u].toArray } : Heap).get? D = some { cls := .type "list", data := .seq [u].toArray } := by refine (hD ..) ▸ ?_; exact Heap.get?_push_size _ rfl
  have kp : ∀ b o, s₁.heap.get? b = some o → (s₁.heap.push { cls := .type "list", data := .seq [u].toArray } : Heap).get? b = some o := fun b o e => Heap.get?_push_of_some _ e
  have S₂ := S₁.own (Z := [D]) (fun b q => by refine (mem_singleton.mp q ..).symm ▸ ?_; exact newD₁) kp (fun b q => by rw [mem_singleton.mp q]; exact ⟨_, atD⟩)
  have newD : s.heap.get? D = none := by
   cases e : s.heap.get? D with
   | none => rfl
   | some o =>
    by_cases hx : D ∈ cx.X
    ·obtain ⟨o', e'⟩ := S₁.ok.live D (S₁.ok.xin D hx); rw [newD₁] at e'; cases e'
    ·obtain ⟨o', e'⟩ := N₁.kp.ex hx e; rw [newD₁] at e'; cases e'
  refine zd (S₂.ns) fun m hn => ?_
  refine wpAny_storeName_local (s := { s₁ with heap := s₁.heap.push { cls := .type "list", data := .seq [u].toArray } }) hxk hn (fun h' hn' hs' => ?_) (qi S.ek)
  obtain DL : D ≠ env.locals := fun q => by obtain ⟨o, e⟩ := S₁.ok.live _ (mem_append_left _ S₁.lin); rw [← q, newD₁] at e; cases e
  obtain ow : zI (s₁.heap.push { cls := .type "list", data := .seq [u].toArray }) D [u].toArray := ⟨_, atD, rfl, rfl, 0, rfl⟩
  obtain kg := uw (M := ([D] ++ Mi) ++ Mo) hs' (mem_append_left _ S₂.lin)
  obtain N₂ : Nz cx A Mi s₁ { s₁ with heap := h', toks := s₁.toks + 1 } := ⟨rfl, .of_keeps fun b o hb e => (hs'.2 b fun q => hb (mem_append_left _ (q ▸ S₁.lin))).trans (kp b o e)⟩
  obtain S₃ := S₂.store hxk hn hs' hn' (sl := .own1 [d]) ⟨rfl, hxk, D, [u], _, .inl ⟨hxk, _, hn', by rfl⟩, mem_append_left _ (mem_singleton.mpr rfl), vS hs' hn ow, yk kg (yk (fun b o e => vis_get (kp b o (zH e)) fun q => by
    rw [append_assoc] at q
    refine zh (mem_append.mp q) (fun q => ?_) fun q => ?_
    ·rw [mem_singleton.mp q] at e; exact absurd (zH e) (by rw [newD₁]; simp)
    ·exact zQ e q) (.cons r .nil))⟩ (jz hp)
  exact hQ _ σ₁ _ _ hK (N₁.z.trans .refl N₂) (yg.more (Z := [D]) fun b q => by refine (mem_singleton.mp q ..).symm ▸ ?_; exact newD) S₃
end
section
variable {cx : Cx} {A : Around} {er : Bool} {env : Env} {Mi Mo : List Addr} {ρ : zf} {σ : St} {out : Out} {s : Shared} {n : Nat} {u v : Value} {G : Str → Option V}
theorem bu {y : Str} {z : V} (h : yb ρ = true) : yb (zz y (.v z) ρ) = true := by
 unfold yb at h ⊢
 rw [yO]
 by_cases e : yy = y
 ·rw [if_pos e]
 ·rw [if_neg e]; exact h
theorem jB {b : Addr} {Q : Unit → Shared → Prop} (S : Sa cx A env Mi Mo ρ σ s.heap) (hxk : env.kindOf yf = some .local) (ha : a ∈ Mi) (hb : b ∈ Mi) (hab : a ≠ b) (oa : zI s.heap a [Value.ref b].toArray) (ob : zI s.heap b ([] : List Value).toArray) (hp : yb ρ = true)
  (h : ∀ s', Nz cx A Mi s s' → Sa cx A env Mi Mo (zz yf (.own2 [[]]) ρ) σ s'.heap → Q () s') : wpAny (Mod cx) A (storeName env yf (.ref a)) Q E s := by
 refine zd (S.ns) fun m hn => ?_
 refine wpAny_storeName_local hxk hn (fun h' hn' hs' => ?_) (qi S.ek)
 refine h _ (ol S hs') (S.store hxk hn hs' hn' (sl := .own2 [[]]) ⟨rfl, hxk, a, [b], .inl ⟨hxk, _, hn', by rfl⟩, ha, vS hs' hn oa, ?_, ?_, ⟨[], [], vS hs' hn ob, .nil⟩, trivial⟩ (jA hp))
 ·simp [hab]
 ·intro c hc; rw [mem_singleton.mp hc]; exact hb
theorem bw {Q : Unit → Shared → Prop} (S : Sa cx A env Mi Mo ρ σ s.heap) (hk : env.kindOf x = some .local) (r : Rp cx (zc (Mi ++ Mo) s.heap) u y)
  (h : ∀ h' tk, Heap.SameBut env.locals s.heap h' → Nz cx A Mi s { s with heap := h', toks := tk } → Sa cx A env Mi Mo (zz x (.v y) ρ) σ h' → Q () { s with heap := h', toks := tk }) : wpAny (Mod cx) A (storeName env x u) Q E s := by
 refine zd (S.ns) fun m hn => ?_
 refine wpAny_storeName_local hk hn (fun h' hn' hs => ?_) (qi S.ek)
 obtain kg := uw hs (mem_append_left Mo S.lin)
 exact h _ _ hs (ol S hs) (S.store hk hn hs hn' ⟨u, .inl ⟨hk, _, hn', by simp⟩, r.keeps kg⟩ (kU S.two))
theorem bx (hk : Rm A n) {sc : zm} (so : ScOk env sc) {y : Str} {p3 p4 p5 p6 pos : Pos} {m m2 : Nat} {Q : Flow → Shared → Prop}
  (hx : zN sc yf = true) (hy : zN sc y = true) (hxy : yf ≠ y) (hp : yb ρ = true) (S : Sa cx A env Mi Mo ρ σ s.heap)
  (ho : ww [.Name yf p1, .Name y p2] (.Tuple [.List [.List [] p3] p4, .Constant (.int 0) k p5] m2 p6) = true)
  (hQ : ∀ Mi' s', Nz cx A Mi s s' → yg Mi Mi' s.heap → Sa cx A env Mi' Mo (zz y (.v (.dat (.int 0))) (zz yf (.own2 [[]]) ρ)) σ s'.heap → Q .next s') :
  wpAny (Mod cx) A (exec (.Assign [.Tuple [.Name yf p1, .Name y p2] m p] (.Tuple [.List [.List [] p3] p4, .Constant (.int 0) k p5] m2 p6) pos) env) Q E s := by
 have hxk := so.loc _ (yl hx)
 have hyk := so.loc _ (yl hy)
 obtain nl : yx sc [.Name yf p1, .Name y p2] = true := by simp [yx, hx, hy]
 obtain ev₁ : ∀ {Q' : Value → Shared → Prop}, Q' (.ref ((s.heap.push { cls := .type "list", data := .seq ([] : List Value).toArray }).push { cls := .type "list", data := .seq [Value.ref s.heap.objs.size].toArray }).objs.size)
   { s with heap := ((s.heap.push { cls := .type "list", data := .seq ([] : List Value).toArray }).push { cls := .type "list", data := .seq [Value.ref s.heap.objs.size].toArray }).push { cls := .type "tuple", data := .seq [Value.ref (s.heap.push { cls := .type "list", data := .seq ([] : List Value).toArray }).objs.size, .int 0 s.toks].toArray }, toks := s.toks + 1 } →
   wpAny (Mod cx) A (eval (.Tuple [.List [.List [] p3] p4, .Constant (.int 0) k p5] m2 p6) env) Q' E s := fun {Q'} hq => by
  refine wpAny_Tuple_spliced ?_
  show wpAny _ _ (spliced [(false, eval (.List [.List [] p3] p4) env), (false, eval (.Constant (.int 0) k p5) env)]) _ _ _
  refine spliced_cons (wpAny_List ?_)
  show wpAny _ _ (spliced [(false, eval (.List [] p3) env)]) _ _ _
  refine spliced_cons (wpAny_List ?_)
  exact spliced_nil ⟨by decide, spliced_nil ⟨by show 1 ≤ sizeLine; decide, spliced_cons (wpAny_Constant_int (spliced_nil ⟨by show 2 ≤ sizeLine; decide, hq⟩))⟩⟩
 generalize hB : s.heap.objs.size = B at ev₁
 generalize hH₁ : s.heap.push { cls := .type "list", data := .seq ([] : List Value).toArray } = H₁ at ev₁
 have sz₁ : H₁.objs.size = B + 1 := by rw [← hH₁, Heap.size_push, hB]
 rw [sz₁] at ev₁
 generalize hH₂ : H₁.push { cls := .type "list", data := .seq [Value.ref B].toArray } = H₂ at ev₁
 obtain sz₂ : H₂.objs.size = B + 2 := by rw [← hH₂, Heap.size_push, sz₁]
 rw [sz₂] at ev₁
 generalize hH₃ : H₂.push { cls := .type "tuple", data := .seq [Value.ref (B + 1), .int 0 s.toks].toArray } = H₃ at ev₁
 obtain newB : s.heap.get? B = none := by refine (hB ..) ▸ ?_; exact Heap.get?_none_of_le (Nat.le_refl _)
 obtain newA : s.heap.get? (B + 1) = none := by refine (hB ..) ▸ ?_; exact Heap.get?_none_of_le (Nat.le_succ _)
 obtain atB : H₃.get? B = some { cls := .type "list", data := .seq ([] : List Value).toArray } := by
  obtain e : H₁.get? B = some { cls := .type "list", data := .seq ([] : List Value).toArray } := by refine (hB ..) ▸ (hH₁ ..) ▸ ?_; exact Heap.get?_push_size _ rfl
  refine (hH₃ ..) ▸ (hH₂ ..) ▸ ?_
  exact Heap.get?_push_of_some _ (Heap.get?_push_of_some _ e)
 obtain atA : H₃.get? (B + 1) = some { cls := .type "list", data := .seq [Value.ref B].toArray } := by
  obtain e : H₂.get? (B + 1) = some { cls := .type "list", data := .seq [Value.ref B].toArray } := by refine (sz₁ ..) ▸ (hH₂ ..) ▸ ?_; exact Heap.get?_push_size _ rfl
  refine (hH₃ ..) ▸ ?_
  exact Heap.get?_push_of_some _ e
 obtain atT : H₃.get? (B + 2) = some { cls := .type "tuple", data := .seq [Value.ref (B + 1), .int 0 s.toks].toArray } := by refine (sz₂ ..) ▸ (hH₃ ..) ▸ ?_; exact Heap.get?_push_size _ rfl
 have kp : ∀ b o, s.heap.get? b = some o → H₃.get? b = some o := fun b o e => by
  refine (hH₃ ..) ▸ (hH₂ ..) ▸ (hH₁ ..) ▸ ?_
  exact Heap.get?_push_of_some _ (Heap.get?_push_of_some _ (Heap.get?_push_of_some _ e))
 have new : ∀ b ∈ [B + 1, B], s.heap.get? b = none := fun b hb => by
  refine zh (mem_cons.mp hb) (fun W0 => ?_) fun hb => ?_
  ·refine (W0) ▸ ?_; exact newA
  ·refine (mem_singleton.mp hb ..).symm ▸ ?_; exact newB
 obtain S₁ : Sa cx A env ([B + 1, B] ++ Mi) Mo ρ σ H₃ := S.own new kp fun b hb => by
  refine zh (mem_cons.mp hb) (fun W1 => ?_) fun hb => ?_
  ·refine (W1) ▸ ?_; exact ⟨_, atA⟩
  ·refine (mem_singleton.mp hb ..).symm ▸ ?_; exact ⟨_, atB⟩
 obtain g₁ : yg Mi ([B + 1, B] ++ Mi) s.heap := yg.more new
 obtain oA : zI H₃ (B + 1) [Value.ref B].toArray := ⟨_, atA, rfl, rfl, 0, rfl⟩
 obtain oB : zI H₃ B ([] : List Value).toArray := ⟨_, atB, rfl, rfl, 0, rfl⟩
 obtain mA : B + 1 ∈ [B + 1, B] ++ Mi := mem_append_left _ (mem_cons_self ..)
 obtain mB : B ∈ [B + 1, B] ++ Mi := mem_append_left _ (mem_cons_of_mem _ (mem_singleton.mpr rfl))
 obtain hAB : B + 1 ≠ B := Nat.succ_ne_self _
 obtain hT : H₃.IsTuple (B + 2) #[Value.ref (B + 1), .int 0 s.toks] := ⟨_, atT, rfl, 0, rfl⟩
 have past : ∀ h' : Heap, Heap.ExtBut H₃.objs.size H₃ h' → Nz cx A Mi s { s with heap := h', toks := s.toks + 1 } ∧ Sa cx A env ([B + 1, B] ++ Mi) Mo ρ σ h' ∧ zI h' (B + 1) [Value.ref B].toArray ∧ zI h' B ([] : List Value).toArray := fun h' hx => by
  have kp' : ∀ b o, H₃.get? b = some o → h'.get? b = some o := fun b o e => hx b o (Nat.ne_of_lt (Heap.lt_size e)) e
  obtain K : Kp [] (Fs A) H₃ h' := .of_all kp'
  exact ⟨(Nx.all fun b o e => kp' b o (kp b o e)).z, S₁.next (.of_all kp') (S₁.lexkept kp'), oA.next K (by simp), oB.next K (by simp)⟩
 refine zh (jw (env := env) (m := m) (p := p) nl ho) (fun hw => ?_) fun hw => ?_
 ·refine Assign_Tuple (ev₁ ?_) rfl hw
  refine wpAny_assign_Tuple hk.handled hT rfl rfl fun h' hx => ?_
  refine py (past h' hx) fun N₂ S₂ oA₂ oB₂ => ?_
  refine wpAny_assignInOrder_more (wpAny_assign_Name (jB (s := { s with heap := h', toks := s.toks + 1 }) S₂ hxk mA mB hAB oA₂ oB₂ hp fun s₃ N₃ S₃ => ?_))
  refine wpAny_assignInOrder_more (wpAny_assign_Name (store_val (y := .dat (.int 0)) S₃ hyk y0 fun s₄ N₄ S₄ _ => wpAny_pure ?_))
  exact hQ _ s₄ (N₂.trans g₁ (N₃.trans .refl N₄)) g₁ S₄
 ·refine Assign_Tuple_swapped (ev₁ ?_) rfl hw
  refine (show ([Expr.Name yf p1, .Name y p2].map uz).length = (#[Value.ref (B + 1), .int 0 s.toks] : Array Value).size from rfl ..).symm ▸ ?_
  refine wpAny_unpackItems_tuple hk.handled hT fun h' hx => ?_
  refine py (past h' hx) fun N₂ S₂ oA₂ oB₂ => ?_
  show wpAny _ _ (assignInOrder [fun u => bindName env y u, fun u => bindName env yf u] [.int 0 s.toks, Value.ref (B + 1)]) _ _ _
  refine wpAny_assignInOrder_more (wpAny_bindName (bw (s := { s with heap := h', toks := s.toks + 1 }) (y := .dat (.int 0)) S₂ hyk y0 fun h₃ tk₃ hs₃ N₃ S₃ => ?_))
  refine zd (S₂.ns) fun mm hnn => ?_
  refine wpAny_assignInOrder_more (wpAny_bindName (jB (s := { s with heap := h₃, toks := tk₃ }) S₃ hxk mA mB hAB (vS hs₃ hnn oA₂) (vS hs₃ hnn oB₂) (bu hp) fun s₄ N₄ S₄ => wpAny_pure ?_))
  ·refine hQ _ s₄ (N₂.trans g₁ (N₃.trans .refl N₄)) g₁ (S₄.congr fun x => ?_)
   rw [yO, yO, yO, yO]
   by_cases h1 : x = yf
   ·rw [if_pos h1, if_neg (fun q => hxy (h1 ▸ q)), if_pos h1]
   ·rw [if_neg h1, if_neg h1]
end
section
variable {cx : Cx} {A : Around} {er : Bool} {env : Env} {Mi Mo : List Addr} {ρ : zf} {σ : St} {out : Out} {s : Shared} {n : Nat} {u v : Value} {G : Str → Option V}
theorem qq {b : Addr} {xs : Array Value} (o : zI h b xs) (n : h.Ns L m) : b ≠ L := fun q => by
 obtain ⟨o', e, _, _, k, d⟩ := o
 refine xW (n) fun o2 es ep e2 d2 _ => ?_
 rw [← q, e] at e2; obtain rfl := Option.some.inj e2; rw [d] at d2; injection d2
theorem Sa.turn {sl : Sl} (S : Sa cx A env Mi Mo ρ σ h) (hZ : ∀ b ∈ Z, b ∈ Mi) (hl : ∀ b ∈ Z, ∃ xs, zI h b xs) (hl' : ∀ b ∈ Z, ∃ xs, zI h' b xs) (k : ∀ b, b ∉ Z → h'.get? b = h.get? b)
  (ho : ∀ y t, zt y ρ = some t → y ≠ x → ∃ z, t = .v z) (hsl : vh cx env Mi h' (zc (Mi ++ Mo) h') x sl) (ht : yb (zz x sl ρ) = true ∨ yU (zz x sl ρ) = true) : Sa cx A env Mi Mo (zz x sl ρ) σ h' ∧ (∀ c o v, h.get? c = some o → o.data = .cell v → c ∉ Z) ∧ env.locals ∉ Z := by
 refine zd (S.ns) fun m hm => ?_
 have hL : env.locals ∉ Z := fun q => by refine zd (hl _ q) fun xs o => ?_; exact qq o hm rfl
 have nc : ∀ c o v, h.get? c = some o → o.data = .cell v → c ∉ Z := fun c o v e d q => by
  obtain ⟨xs, o', e', _, _, k', d'⟩ := hl c q
  rw [e] at e'; obtain rfl := Option.some.inj e'; rw [d] at d'; injection d'
 have kg : (zc (Mi ++ Mo) h).StaysIn (zc (Mi ++ Mo) h') := fun b o e => by
  obtain nb := zQ e
  exact vis_get ((k b fun q => nb (mem_append_left _ (hZ b q))).trans (zH e)) nb
 obtain lx : zq cx h' (zc (Mi ++ Mo) h') σ := S.ok.lex.step kg fun b hb vs hl => by
  refine zb (hl) fun o e r => ?_
  exact zg o ((k b fun q => S.dis b (hZ b q) (S.xo b hb)).trans e) (r)
 refine yV (⟨⟨zZ S.ok.stays kg, fun b hb => ?_, ?_, S.ok.fin, S.ok.fx, S.ok.xin, lx⟩, S.ek, ⟨m, ?_⟩, S.lin, S.xo, S.dis, fun y t e => ?_, ht⟩) nc hL
 ·by_cases q : b ∈ Z
  ·refine zx (hl' b q) fun xs o e _ => ?_; exact ⟨o, e⟩
  ·refine zd (S.ok.live b hb) fun o e => ?_; exact ⟨o, (k b q).trans e⟩
 ·refine zb (S.ok.frames) fun frs e f => ?_
  refine zg frs e ?_
  clear e
  induction frs with
  | nil => trivial
  | cons fr r ih =>
   refine zo fun R_ k_ => ?_
   refine yE (f) fun hk W0 hr => ?_
   refine wg (W0) fun L o hf hn ho hd => ?_
   refine k_ ?_
   refine yV hk ?_ (ih hr)
   by_cases q : L ∈ Z
   ·obtain ⟨xs, o', e', _, _, k', d'⟩ := hl' L q
    exact wE L o' hf hn e' (fun vs w => by rw [d'] at w; injection w)
   ·exact wE L o hf hn ((k L q).trans ho) hd
 ·refine y5 (hm) fun o es ep e r => ?_; exact w7 o es ep ((k _ hL).trans e) r
 ·rw [yO] at e
  by_cases hy : y = x
  ·replace e := (if_pos hy ..) ▸ e; obtain rfl := Option.some.inj e; refine (hy) ▸ ?_; exact hsl
  ·replace e := (if_neg hy ..) ▸ e
   refine zd (ho y t e hy) fun z W1 => ?_
   obtain rfl := W1
   refine zb (S.loc y _ e) fun w l r => ?_
   refine zg w ?_ (r.keeps kg)
   rcases l with ⟨hky, m', ⟨o, es, ep, e1, r1⟩, e2⟩ | ⟨hky, c, o, hc, hoc, hd⟩
   ·exact .inl ⟨hky, m', ⟨o, es, ep, (k _ hL).trans e1, r1⟩, e2⟩
   ·exact .inr ⟨hky, c, o, hc, (k c (nc c o _ hoc hd)).trans hoc, hd⟩
theorem bz {l : List PyData} (S : Sa cx A env Mi Mo ρ σ h) (e : zt yy ρ = some (.own1 l)) : ∀ y t, zt y ρ = some t → y ≠ yy → ∃ z, t = .v z := fun y t hy hne => by
 cases t with
 | v z => exact ⟨z, rfl⟩
 | own1 l' => refine ze (S.loc y _ hy) fun q _ => ?_; exact absurd q hne
 | own2 l' =>
  refine ze (S.loc y _ hy) fun q _ => ?_
  subst q
  rcases S.two with t | t
  ·unfold yb at t; rw [e] at t; exact ff t
  ·unfold yU at t; rw [hy] at t; exact ff t
theorem jC {l : List (List PyData)} (S : Sa cx A env Mi Mo ρ σ h) (e : zt yf ρ = some (.own2 l)) : ∀ y t, zt y ρ = some t → y ≠ yf → ∃ z, t = .v z := fun y t hy hne => by
 cases t with
 | v z => exact ⟨z, rfl⟩
 | own2 l' => refine ze (S.loc y _ hy) fun q _ => ?_; exact absurd q hne
 | own1 l' =>
  refine ze (S.loc y _ hy) fun q _ => ?_
  subst q
  rcases S.two with t | t
  ·unfold yb at t; rw [hy] at t; exact ff t
  ·unfold yU at t; rw [e] at t; exact ff t
theorem jD {l l' : List (List PyData)} (S : Sa cx A env Mi Mo ρ σ h) (e : zt yf ρ = some (.own2 l)) : yb (zz yf (.own2 l') ρ) = true ∨ yU (zz yf (.own2 l') ρ) = true := by
 refine zh S.two (fun t => ?_) fun t => ?_
 ·exact jA t
 ·unfold yU at t; rw [e] at t; exact ff t
theorem bA {l l' : List PyData} (S : Sa cx A env Mi Mo ρ σ h) (e : zt yy ρ = some (.own1 l)) : yb (zz yy (.own1 l') ρ) = true ∨ yU (zz yy (.own1 l') ρ) = true := by
 refine zh S.two (fun t => ?_) fun t => ?_
 ·unfold yb at t; rw [e] at t; exact ff t
 ·exact jz t
theorem sL {a : Expr} {pos : Pos} {Q : Flow → Shared → Prop} (hs : um o = false) (hst : (!(xb a)) = true) (hline : Nat.beq apos.endLine pos.line = true) (hi : interactive env = false)
  (h : wpAny (Mod cx) A (eval o env) (fun ov s₁ => ∃ D xs, ov = .ref D ∧ zI s₁.heap D xs ∧ wpAny (Mod cx) A (eval a env) (fun u s₂ => ∃ ys, zI s₂.heap D ys ∧ ys.size ≤ sizeLine ∧ ∀ h', zI h' D (ys.push u) → Heap.SameBut D s₂.heap h' → Q .next { s₂ with heap := h' }) E s₁) E s) :
  wpAny (Mod cx) A (exec (.Expr (.Call (.Attribute o wG apos) [a] [] pos) epos) env) Q E s := by
 obtain hn : u0 [a] = true := by show (!(xb a) && true) = true; refine (hst ..).symm ▸ ?_; rfl
 refine wpAny_Expr (sK hs (by unfold vL; refine (hn ..).symm ▸ (hline ..).symm ▸ ?_; rfl) (wpAny_mono h (fun ov s₁ h₁ => ?_) fun _ _ x => x)) hi rfl
 refine yq (h₁) fun D xs W0 hD h₂ => ?_
 refine (W0) ▸ ?_
 refine getMethod_builtin hD.list.typeIs PySem.F.plainAttrs_list PySem.F.slot_list_append PySem.F.type_list_append (fun b e => by (injection e with e; subst e); refine pz (hD) fun o e _ hd _ => ?_; exact (zg o e hd)) ?_
 show wpAny _ _ (callWith pos (.builtin "list.append") [.ref D] (backTo pos (starEach [a] env)) []) _ _ _
 refine (wL hst ..).symm ▸ ?_
 refine callWith_builtin rfl (evalArgs_plain (spliced_cons (wpAny_mono h₂ (fun u s₂ h₃ => spliced_nil ?_) fun _ _ x => x)))
 refine yv (h₃) fun ys oy hz hq => ?_
 exact jg hz oy fun h' o' sb => hq h' o' sb
theorem vm (ek : EnvOk env) : interactive env = false := by dsimp only [interactive]; refine (ek.kind ..).symm ▸ ?_; rfl
theorem jE (hZ : ∀ b ∈ Z, b ∈ Mi) (e : ∀ b, b ∉ Z → h'.get? b = s.heap.get? b) : Nz cx A Mi s { s with heap := h', toks := k } :=
 ⟨rfl, .of_keeps fun b o hb q => (e b fun z => hb (mem_append_left _ (hZ b z))).trans q⟩
theorem bB (SE : yt cx A er env Mi Mo ρ Ex) {pos : Pos} {a : Expr} {l : List PyData} {K : zf → St → Out} {Q : Flow → Shared → Prop} {c : Bool}
  (e : zt x ρ = some (.own1 l)) (hline : Nat.beq apos.endLine pos.line = true) (hst : (!(xb a)) = true)
  (h : Ex a (fun v σ => yw v (fun d => chk (zi l.length && c) (K (zz x (.own1 (l ++ [d])) ρ) σ))) σ = out) (hb : out ≠ .bad) (S : Sa cx A env Mi Mo ρ σ s.heap)
  (hQ : ∀ ρ' σ' s', K ρ' σ' = out → Nz cx A Mi s s' → Sa cx A env Mi Mo ρ' σ' s'.heap → Q .next s')
  (hE : ∀ e s', ErrE cx A er out s e s' → E e s') : wpAny (Mod cx) A (exec (.Expr (.Call (.Attribute (.Name x px) wG apos) [a] [] pos) epos) env) Q E s := by
 refine zo fun R_ k_ => ?_
 obtain ⟨q, ek, D, vs, as, h1, h2, h3, h4⟩ := S.loc _ _ e
 refine k_ ?_
 subst q
 refine sL rfl hst hline (vm S.ek) (wpAny_Name (xF S.ek h1 ⟨D, _, rfl, h3, ?_⟩) (by rfl))
 refine SE a _ σ out s _ _ h hb S (fun y σ₁ u s₁ hK N₁ R₁ L₁ => ?_) hE
 refine zb (wx hK hb R₁) fun d R₁ hK => ?_
 ·refine ze (zr hK hb) fun hc hK => ?_
  replace hc := zO hc
  obtain S₁ := S.to N₁ L₁
  obtain nX : D ∉ cx.X := fun q => S.dis D h2 (S.xo D q)
  have o₁ := h3.next N₁.kp nX
  obtain r₁ := yk (S.seen N₁) h4
  refine wb _ o₁ (by rw [size_toArray, wi h4]; exact yN hc.1) (fun h' o' sb => ?_)
  have kZ : ∀ b, b ∉ [D] → h'.get? b = s₁.heap.get? b := fun b hb => sb.2 b fun q => hb (mem_singleton.mpr q)
  have hZ : ∀ b ∈ [D], b ∈ Mi := fun b hb => by rw [mem_singleton.mp hb]; exact h2
  obtain kg : (zc (Mi ++ Mo) s₁.heap).StaysIn (zc (Mi ++ Mo) h') := uw sb (mem_append_left _ h2)
  obtain ⟨cs, r₂⟩ := td r₁ (.cons R₁.choose_spec .nil)
  obtain lo : zU env h' yy (.ref D) := by
   rcases h1 with ⟨hk, m, hn, hm⟩ | ⟨hk, _⟩
   ·obtain k := N₁.kp.ns (fun q => S.dis _ S.lin (S.xo _ q)) hn
    exact .inl ⟨hk, m, by refine y5 (k) fun o es ep e r => ?_; exact (w7 o es ep ((sb.2 _ (Ne.symm (qq o₁ ⟨o, es, ep, e, r⟩))).trans e) (r)), hm⟩
   ·obtain hk := (ek ..) ▸ hk; refine xL hk (fun hk => ?_) fun hk _ => ?_<;> cases hk
  obtain e2 : vs.toArray.push u = (vs ++ [u]).toArray := by simp
  replace o' := (e2 ..) ▸ o'
  refine yE (S₁.turn (Z := [D]) (x := yy) (sl := .own1 (l ++ [d])) hZ (fun b hb => by refine (mem_singleton.mp hb ..).symm ▸ ?_; exact ⟨_, o₁⟩) (fun b hb => by refine (mem_singleton.mp hb ..).symm ▸ ?_; exact ⟨_, o'⟩) kZ
   (bz S₁ e) ⟨rfl, ek, D, _, _, lo, h2, o', yk kg r₂⟩ (bA S₁ e)) fun S₂ _ _ => ?_
  exact hQ _ σ₁ _ hK (N₁.z.trans .refl (jE hZ kZ)) S₂
end
section
variable {cx : Cx} {A : Around} {er : Bool} {env : Env} {Mi Mo : List Addr} {ρ : zf} {σ : St} {out : Out} {s : Shared} {n : Nat} {u v : Value} {G : Str → Option V}
theorem zR.turn {h h' g g' : Heap} (kg : g.StaysIn g') : ∀ {bs : List Addr} {ls : List (List PyData)}, (∀ b ∈ bs, h'.get? b = h.get? b) → zR h g bs ls → zR h' g' bs ls
 | [], [], _, _ => trivial
 | b :: _, _ :: _, hx, ⟨⟨vs, as, ⟨o, e, r1⟩, hr⟩, r⟩ => ⟨⟨vs, as, ⟨o, (hx b (.head _)).trans e, r1⟩, yk kg hr⟩, zR.turn kg (fun c hc => hx c (.tail _ hc)) r⟩
 | [], _ :: _, _, r => r.elim
 | _ :: _, [], _, r => r.elim
theorem zR.snoc {h g : Heap} {b : Addr} {l : List PyData} (x : ∃ vs as, zI h b vs.toArray ∧ ReadsAll g vs l as) : ∀ {bs : List Addr} {ls : List (List PyData)}, zR h g bs ls → zR h g (bs ++ [b]) (ls ++ [l])
 | [], [], _ => ⟨x, trivial⟩
 | _ :: _, _ :: _, ⟨y, r⟩ => ⟨y, zR.snoc x r⟩
 | [], _ :: _, r => r.elim
 | _ :: _, [], r => r.elim
theorem zR.split {h g : Heap} {last : List PyData} : ∀ {bs : List Addr} {init : List (List PyData)}, zR h g bs (init ++ [last]) → ∃ ibs b, bs = ibs ++ [b] ∧ zR h g ibs init ∧ ∃ vs as, zI h b vs.toArray ∧ ReadsAll g vs last as
 | b :: bs, [], ⟨x, r⟩ => by
  cases bs with
  | nil => exact wc ([]) b rfl trivial x
  | cons _ _ => exact r.elim
 | b :: bs, _ :: _, ⟨x, r⟩ => by
  refine yq (zR.split r) fun ibs b' W0 r1 r2 => ?_
  refine (W0) ▸ ?_
  exact wc (b :: ibs) b' rfl (⟨x, r1⟩) r2
 | [], [], r => r.elim
 | [], _ :: _, r => r.elim
theorem jF {d : PyData} : ∀ {l l' : List (List PyData)}, vN d l = some l' → ∃ init last, l = init ++ [last] ∧ l' = init ++ [last ++ [d]]
 | [], _, h => nomatch h
 | [x], _, h => by refine Option.some.inj h ▸ ?_; exact yj ([]) x rfl rfl
 | x :: y :: r, l', h => by
  simp only [vN, Option.map_eq_some_iff] at h
  obtain ⟨l2, h2, rfl⟩ := h
  refine zx (jF h2) fun init last e1 e2 => ?_
  exact yj (x :: init) last (by rw [e1]; rfl) (by rw [e2]; rfl)
theorem zR.len {h g : Heap} : ∀ {bs : List Addr} {ls : List (List PyData)}, zR h g bs ls → bs.length = ls.length
 | [], [], _ => rfl
 | _ :: _, _ :: _, r => by exact length_cons.symm ▸ length_cons.symm ▸ (zR.len r.2 ..).symm ▸ rfl
 | [], _ :: _, r => r.elim
 | _ :: _, [], r => r.elim
theorem jG (lo : zU env h x u) (ek : env.kindOf x = some .local) (k : h'.get? env.locals = h.get? env.locals) : zU env h' x u := by
 rcases lo with ⟨hk, m, ⟨o, es, ep, e, r⟩, hm⟩ | ⟨hk, _⟩
 ·exact .inl ⟨hk, m, ⟨o, es, ep, k.trans e, r⟩, hm⟩
 ·rw [ek] at hk; refine xL hk (fun hk => ?_) fun hk _ => ?_<;> cases hk
theorem bC {pos : Pos} {l : List (List PyData)} {Q : Flow → Shared → Prop}
  (e : zt x ρ = some (.own2 l)) (hline : Nat.beq apos.endLine pos.line = true) (hf : zi l.length = true) (S : Sa cx A env Mi Mo ρ σ s.heap)
  (hQ : ∀ Mi' s', Nz cx A Mi s s' → yg Mi Mi' s.heap → Sa cx A env Mi' Mo (zz x (.own2 (l ++ [[]])) ρ) σ s'.heap → Q .next s') :
  wpAny (Mod cx) A (exec (.Expr (.Call (.Attribute (.Name x px) wG apos) [.List [] p2] [] pos) epos) env) Q E s := by
 refine zo fun R_ k_ => ?_
 obtain ⟨q, ek, D, bs, h1, h2, h3, h4, h5, h6⟩ := S.loc _ _ e
 refine k_ ?_
 subst q
 refine sL rfl rfl hline (vm S.ek) (wpAny_Name (xF S.ek h1 ⟨D, _, rfl, h3, ?_⟩) (by rfl))
 refine wpAny_List ?_
 refine spliced_nil ⟨by decide, ?_⟩
 generalize hB : s.heap.objs.size = B
 generalize hH : s.heap.push { cls := .type "list", data := .seq ([] : List Value).toArray } = H
 have newB : s.heap.get? B = none := by refine (hB ..) ▸ ?_; exact Heap.get?_none_of_le (Nat.le_refl _)
 have atB : H.get? B = some { cls := .type "list", data := .seq ([] : List Value).toArray } := by refine (hB ..) ▸ (hH ..) ▸ ?_; exact Heap.get?_push_size _ rfl
 have kp : ∀ b o, s.heap.get? b = some o → H.get? b = some o := fun b o e => by refine (hH ..) ▸ ?_; exact Heap.get?_push_of_some _ e
 have S₁ := S.own (Z := [B]) (fun b q => by refine (mem_singleton.mp q ..).symm ▸ ?_; exact newB) kp (fun b q => by refine (mem_singleton.mp q ..).symm ▸ ?_; exact ⟨_, atB⟩)
 obtain K : Kp [] (Fs A) s.heap H := .of_all kp
 have oD := h3.next K (by simp)
 obtain oB : zI H B ([] : List Value).toArray := ⟨_, atB, rfl, rfl, 0, rfl⟩
 have hne : ∀ b ∈ Mi, b ≠ B := fun b hb q => by refine zd (S.ok.live b (mem_append_left _ hb)) fun o e => ?_; rw [q, newB] at e; injection e
 refine wb _ oD (by rw [size_toArray, length_map, h6.len]; exact yN hf) (fun h' o' sb => ?_)
 have kZ : ∀ b, b ∉ [D] → h'.get? b = H.get? b := fun b hb => sb.2 b fun q => hb (mem_singleton.mpr q)
 obtain hD' : D ∈ [B] ++ Mi := mem_append_right _ h2
 obtain hZ : ∀ b ∈ [D], b ∈ [B] ++ Mi := fun b hb => by rw [mem_singleton.mp hb]; exact hD'
 obtain kg₀ : (zc (Mi ++ Mo) s.heap).StaysIn (zc (([B] ++ Mi) ++ Mo) H) := fun b o e => vis_get (kp b o (zH e)) fun q => by
  rw [append_assoc] at q
  refine zh (mem_append.mp q) (fun q => ?_) fun q => ?_
  ·rw [mem_singleton.mp q] at e; exact absurd (zH e) (by rw [newB]; simp)
  ·exact zQ e q
 obtain kg : (zc (([B] ++ Mi) ++ Mo) H).StaysIn (zc (([B] ++ Mi) ++ Mo) h') := uw sb (mem_append_left _ hD')
 obtain hDL : env.locals ≠ D := by refine zd (S₁.ns) fun m hm => ?_; exact Ne.symm (qq oD hm)
 obtain lo : zU env h' yf (.ref D) := jG (h1.next K (by simp) (fun b hb => by cases hb)) ek (sb.2 _ hDL)
 obtain e2 : (bs.map Value.ref).toArray.push (.ref B) = ((bs ++ [B]).map Value.ref).toArray := by simp
 rw [e2] at o'
 have nd : (D :: (bs ++ [B])).Nodup := by
  have h4' := nodup_cons.mp h4
  refine nodup_cons.mpr ⟨fun q => ?_, ?_⟩
  ·refine zh (mem_append.mp q) (fun q => ?_) fun q => ?_
   ·exact h4'.1 q
   ·exact hne D h2 (mem_singleton.mp q)
  ·rw [List.nodup_append]
   refine yV (h4'.2) (by simp) (fun a ha b hb q => ?_)
   rw [mem_singleton.mp hb] at q
   exact hne a (h5 a ha) q
 obtain t8 : ∀ b ∈ bs ++ [B], h'.get? b = H.get? b := fun b hb => sb.2 b fun q => (nodup_cons.mp nd).1 (q ▸ hb)
 obtain own : zR h' (zc (([B] ++ Mi) ++ Mo) h') (bs ++ [B]) (l ++ [[]]) := zR.turn kg t8 (zR.snoc ⟨[], [], oB, .nil⟩ (h6.next K kg₀ (by simp)))
 refine yE (S₁.turn (Z := [D]) (x := yf) (sl := .own2 (l ++ [[]])) hZ (fun b hb => by refine (mem_singleton.mp hb ..).symm ▸ ?_; exact ⟨_, oD⟩) (fun b hb => by refine (mem_singleton.mp hb ..).symm ▸ ?_; exact ⟨_, o'⟩) kZ
  (jC S₁ e) ⟨rfl, ek, D, bs ++ [B], lo, hD', o', nd, fun b hb => by
   refine zh (mem_append.mp hb) (fun q => ?_) fun q => ?_
   ·exact mem_append_right _ (h5 b q)
   ·exact mem_append_left _ q, own⟩ (jD S₁ e)) fun S₂ _ _ => ?_
 refine hQ _ _ ?_ (yg.more (Z := [B]) fun b q => by rw [mem_singleton.mp q]; exact newB) S₂
 refine ⟨rfl, .of_keeps fun b o hb q => ?_⟩
 exact (kZ b fun z => hb (mem_append_left _ (by rw [mem_singleton.mp z]; exact h2))).trans (kp b o q)
theorem bD (SE : yt cx A er env Mi Mo ρ Ex) {pos : Pos} {i a : Expr} {l : List (List PyData)} {K : zf → St → Out} {Q : Flow → Shared → Prop} {c : Bool}
  (e : zt x ρ = some (.own2 l)) (hline : Nat.beq apos.endLine pos.line = true) (hst : (!(xb a)) = true) (hi : su i = true)
  (h : Ex a (fun v σ => yw v (fun d => opt (vN d l) (fun l' => chk (zi (l'.getLastD []).length && zi l.length && c) (K (zz x (.own2 l') ρ) σ)) .bad)) σ = out) (hb : out ≠ .bad) (S : Sa cx A env Mi Mo ρ σ s.heap) (hl0 : l ≠ [])
  (hQ : ∀ ρ' σ' s', K ρ' σ' = out → Nz cx A Mi s s' → Sa cx A env Mi Mo ρ' σ' s'.heap → Q .next s')
  (hE : ∀ e s', ErrE cx A er out s e s' → E e s') : wpAny (Mod cx) A (exec (.Expr (.Call (.Attribute (.Subscript (.Name x px) i p) wG apos) [a] [] pos) epos) env) Q E s := by
 refine zo fun R_ k_ => ?_
 obtain ⟨q, ek, D, bs, h1, h2, h3, h4, h5, h6⟩ := S.loc _ _ e
 subst q
 refine w8 (kl hi) fun k0 p0 p1 W0 => ?_
 obtain rfl := W0
 refine zM (((y4 (l.dropLast) (l.getLast hl0) ((List.dropLast_concat_getLast hl0).symm))) : ∃ init last, l = init ++ [last]) fun init last el => ?_
 subst el
 obtain ⟨ibs, b, rfl, w1, vs, as, ob, rb⟩ := h6.split
 refine k_ ?_
 have hbM : b ∈ Mi := h5 b (mem_append_right _ (mem_singleton.mpr rfl))
 refine sL rfl hst hline (vm S.ek) (Subscript_ (wpAny_Name (xF S.ek h1 ?_) (by rfl)))
 refine wpAny_UnaryOp (wpAny_Constant_int (PySem.P.neg_int ?_))
 refine tail_any h3.list.typeIs slot_list_getitem.lookup (wpAny_getItem_list_neg (x := .ref b) h3.list (by decide) (by simp; lia) (by decide) ?_ ?_) rfl
 ·simp only [size_toArray, length_map, length_append, List.length_singleton]
  obtain e3 : ((-1 : Int) + ((ibs.length + 1 : Nat) : Int)).toNat = ibs.length := by lia
  rw [e3]
  simp
 refine wc b _ rfl ob ?_
 obtain N₀ : Nx cx A s { s with toks := s.toks + 1 + 1 } := .toks _
 refine SE a _ σ out _ _ _ h hb (S.to N₀ S.ok.lex) (fun y σ₁ u s₁ hK N₁' R₁ L₁ => ?_) fun e s' x => hE _ _ (x.back N₀)
 have N₁ := N₀.trans N₁'
 obtain S₁ := S.to N₁ L₁
 refine zb (wx hK hb R₁) fun d R₁ hK1 => ?_
 ·refine zb (zA hK1 hb) fun l' hla hK2 => ?_
  ·refine ze (zr hK2 hb) fun hc hK3 => ?_
   clear hK hK1 hK2
   rename _ = out => hK
   replace hc : (zi (l'.getLastD []).length = true ∧ zi (init ++ [last]).length = true) ∧ c = true := ⟨zO (zO hc).1, (zO hc).2⟩
   refine zx (jF hla) fun init' last' e1 e2 => ?_
   refine ze (append_inj' e1 rfl) fun e3 e4 => ?_
   (injection e4 with e4; subst e4)
   subst e3
   subst e2
   have nX : ∀ c ∈ Mi, c ∉ cx.X := fun c hc q => S.dis c hc (S.xo c q)
   have ob₁ := ob.next N₁.kp (nX b hbM)
   obtain oD₁ := h3.next N₁.kp (nX D h2)
   obtain rb₁ := yk (S.seen N₁) rb
   obtain hz : vs.length ≤ sizeLine := by
    obtain q := yN hc.1.1
    obtain e5 : ((init ++ [last ++ [d]]).getLastD []).length = last.length + 1 := by simp
    rw [e5] at q
    rw [wi rb]; exact Nat.le_of_lt ‹_›
   refine wb _ ob₁ (by rw [size_toArray]; exact hz) (fun h' o' sb => ?_)
   have kZ : ∀ c, c ∉ [b] → h'.get? c = s₁.heap.get? c := fun c hc => sb.2 c fun q => hc (mem_singleton.mpr q)
   have hZ : ∀ c ∈ [b], c ∈ Mi := fun c hc => by rw [mem_singleton.mp hc]; exact hbM
   obtain kg : (zc (Mi ++ Mo) s₁.heap).StaysIn (zc (Mi ++ Mo) h') := uw sb (mem_append_left _ hbM)
   obtain ⟨cs, r₂⟩ := td rb₁ (.cons R₁.choose_spec .nil)
   have e2 : vs.toArray.push u = (vs ++ [u]).toArray := by simp
   rw [e2] at o'
   have h4' := nodup_cons.mp h4
   obtain hDb : D ≠ b := fun q => h4'.1 (by rw [q]; exact mem_append_right _ (mem_singleton.mpr rfl))
   obtain hLb : env.locals ≠ b := by refine zd (S₁.ns) fun m hm => ?_; exact Ne.symm (qq ob₁ hm)
   obtain hZc : wJ cx.X s.heap := .lists S.ok.lex.lists
   obtain lo : zU env h' yf (.ref D) := jG (h1.next N₁.kp (nX _ S.lin) hZc) ek (sb.2 _ hLb)
   have oD' : zI h' D ((ibs ++ [b]).map Value.ref).toArray := by refine zb (oD₁) fun o e r => ?_; exact zg o ((sb.2 D hDb).trans e) r
   have nb : ∀ c ∈ ibs, c ≠ b := fun c hc q => by
    obtain this := (List.nodup_append.mp h4'.2).2.2 c hc b (mem_singleton.mpr rfl)
    exact this q
   obtain own : zR h' (zc (Mi ++ Mo) h') (ibs ++ [b]) (init ++ [last ++ [d]]) := by
    refine zR.snoc ⟨vs ++ [u], cs, o', yk kg r₂⟩ ?_
    exact zR.turn kg (fun c hc => sb.2 c (nb c hc)) (w1.next N₁.kp (S.seen N₁) fun c hc => nX c (h5 c (mem_append_left _ hc)))
   refine yE (S₁.turn (Z := [b]) (x := yf) (sl := .own2 (init ++ [last ++ [d]])) hZ (fun c hc => by refine (mem_singleton.mp hc ..).symm ▸ ?_; exact ⟨_, ob₁⟩) (fun c hc => by refine (mem_singleton.mp hc ..).symm ▸ ?_; exact ⟨_, o'⟩) kZ
    (jC S₁ e) ⟨rfl, ek, D, ibs ++ [b], lo, h2, oD', h4, h5, own⟩ (jD S₁ e)) fun S₂ _ _ => ?_
   exact hQ _ σ₁ _ hK (N₁.z.trans .refl (jE hZ kZ)) S₂
end
section
variable {cx : Cx} {A : Around} {er : Bool} {env : Env} {Mi Mo : List Addr} {ρ : zf} {σ : St} {out : Out} {s : Shared} {n : Nat} {u v : Value} {G : Str → Option V}
noncomputable def uA (cx : Cx) (A : Around) (er : Bool) (env : Env) (X : zf → KR → St → Out) (stmts : List Stmt) : Prop :=
 ∀ ρ Mi Mo KN σ out s (Q : Flow → Shared → Prop) (E : Value → Shared → Prop), X ρ KN σ = out → out ≠ .bad → Sa cx A env Mi Mo ρ σ s.heap →
  (∀ ρ' σ' Mi' s', KN ρ' σ' = out → Nz cx A Mi s s' → yg Mi Mi' s.heap → Sa cx A env Mi' Mo ρ' σ' s'.heap → Q .next s') →
  (∀ x σ' v s', out = .ok x σ' → Nz cx A Mi s s' → Rp cx (zc Mo s'.heap) v x → zq cx s'.heap (zc Mo s'.heap) σ' → Q (.ret v) s') →
  (∀ e s', ErrB cx A Mi er out s e s' → E e s') → wpAny (Mod cx) A (execs stmts env) Q E s
theorem jH {sc : zm} {X : zf → KR → St → Out} {body : List Stmt} {pos : Pos} {KN : KR} {Q : Flow → Shared → Prop}
  (hk : Rm A n) (so : ScOk env sc) (IH : uA cx A false env X body)
  (hsrc : ∀ Q' : Value → Shared → Prop, (∀ items σ' it s₀ s', forK (zP sc target) X items ρ KN σ' = out → zi items.length = true → Nx cx A s s₀ → Nx cx A s₀ s' → (∀ b o, s₀.heap.get? b = some o → s'.heap.get? b = some o) → zq cx s₀.heap (zc (Mi ++ Mo) s₀.heap) σ' → vT cx A target (Mi ++ Mo) s₀.heap items it s'.heap → Q' it s') →
   wpAny (Mod cx) A (eval iter env) (fun xv s₁ => wpAny (Mod cx) A (pyIter xv) Q' E s₁) E s) (hset : ∀ x, foldedSetIterable iter env x = pure x) (hb : out ≠ .bad) (S : Sa cx A env Mi Mo ρ σ s.heap)
  (hQ : ∀ ρ' σ' Mi' s', KN ρ' σ' = out → Nz cx A Mi s s' → yg Mi Mi' s.heap → Sa cx A env Mi' Mo ρ' σ' s'.heap → Q .next s')
  (hR : ∀ x σ' v s', out = .ok x σ' → Nz cx A Mi s s' → Rp cx (zc Mo s'.heap) v x → zq cx s'.heap (zc Mo s'.heap) σ' → Q (.ret v) s') : wpAny (Mod cx) A (exec (.For target iter body [] pos) env) Q E s := by
 refine wpAny_For (hsrc _ fun items σ₁ it s₀ s₂ hK hfit N₀ N₂ kp₂ L₀ Wk => ?_) hset
 refine lG (Wk) fun I fp wr hid P Md St Wk => ?_
 have S₀ := S.to N₀ L₀
 have hhid := Wk.new
 obtain S₁ : Sa cx A env Mi (hid ++ Mo) ρ σ₁ s₂.heap := S₀.hide hhid kp₂ (Wk.live 0 _ Wk.st).1
 have liveM : ∀ b ∈ Mi ++ Mo, ∃ o, s₀.heap.get? b = some o := S₀.ok.live
 have hF : ∀ b ∈ Fs A, b ∉ hid := fun b hb q => by refine zd (liveM b (S₀.ok.fin b hb)) fun o e => ?_; rw [hhid b q] at e; injection e
 have hX : ∀ b ∈ cx.X, b ∉ hid := fun b hb q => by refine zd (liveM b (S₀.ok.xin b hb)) fun o e => ?_; rw [hhid b q] at e; injection e
 obtain newX : ∀ b, s₀.heap.get? b = none → s.heap.get? b = none := fun b e => by
  cases e' : s.heap.get? b with
  | none => rfl
  | some o =>
   by_cases hx : b ∈ cx.X
   ·obtain ⟨o', q⟩ := liveM b (S₀.ok.xin b hx); rw [e] at q; cases q
   ·obtain ⟨o', q⟩ := N₀.kp.ex hx e'; rw [e] at q; cases q
 obtain less : ∀ h : Heap, (zc (hid ++ Mo) h).StaysIn (zc Mo h) := fun h => xk fun b hb => mem_append_right _ hb
 refine (Wk.it ..).symm ▸ ?_
 refine codeAny_forLoop_any
  (fun k' s' => ∃ i ρi σi Mii, i ≤ items.length ∧ k' = items.length + 1 - i ∧ s' = { s₂ with heap := s'.heap, toks := s'.toks } ∧ St i s'.heap ∧ Sa cx A env Mii (hid ++ Mo) ρi σi s'.heap ∧
   Kp (Mi ++ cx.X) (Fs A) s₀.heap s'.heap ∧ yg Mi Mii s₀.heap ∧ forK (zP sc target) X (items.drop i) ρi KN σi = out) ?_ (items.length + 1)
  ⟨0, ρ, σ₁, Mi, Nat.zero_le _, rfl, rfl, Wk.st, S₁, .of_all kp₂, .refl, hK⟩
 rintro k' s' ⟨i, ρi, σi, Mii, hi, rfl, e', st', S', kp', g', hrun⟩
 have eqs : ∀ {s₅ : Shared}, s₅ = { s' with heap := s₅.heap, toks := s₅.toks } → s₅ = { s with heap := s₅.heap, toks := s₅.toks } := fun {s₅} e => by
  exact e.symm ▸ e'.symm ▸ N₂.eq.symm ▸ N₀.eq.symm ▸ rfl
 obtain nMii : ∀ b ∈ hid, b ∉ Mii := fun b hb q => S'.dis b q (mem_append_left _ hb)
 obtain toS : ∀ {h' : Heap}, Kp (Mi ++ cx.X) (Fs A) s₀.heap h' → Kp (Mi ++ cx.X) (Fs A) s.heap h' := fun {h'} k => (N₀.z (Mi := Mi)).kp.trans k
 by_cases hlt : i < items.length
 ·refine Wk.turns.item i _ _ _ hlt st' fun v h₂ tk₂ hMd k₂ => ?_
  refine Wk.turns.go i v _ _ _ hMd fun h₃ hP st₃ k₃ => ?_
  have k23 : ∀ b o, b ∉ wr → s'.heap.get? b = some o → h₃.get? b = some o := fun b o hb e => k₃ b o hb (k₂ b o hb e)
  have Z₃ : Kp hid (Fs A) s'.heap h₃ := .of_keeps fun b o hb e => k23 b o (fun q => hb (Wk.sub b q)) e
  obtain inZ : ∀ b ∈ hid, b ∈ hid ++ Mo := fun b hb => mem_append_left _ hb
  obtain kg₃ : (zc (Mii ++ (hid ++ Mo)) s'.heap).StaysIn (zc (Mii ++ (hid ++ Mo)) h₃) := Z₃.seen (fun b hb => mem_append_right _ (inZ b hb)) S'.ok.fin
  obtain L₃ : zq cx h₃ (zc (Mii ++ (hid ++ Mo)) h₃) σi := S'.ok.lex.step kg₃ fun b hb vs hl => by
   refine zb (hl) fun o e r => ?_
   exact zg o (k23 b o (fun q => hX b hb (Wk.sub b q)) e) (r)
  obtain S₃ := S'.step Z₃ inZ hF (Wk.live _ _ st₃).1 (Wk.live _ _ st').2 L₃
  obtain kgv : (zc (Mi ++ Mo) s₀.heap).StaysIn (zc (Mii ++ (hid ++ Mo)) h₃) := fun b o e => by
   have e1 := zH e
   obtain nb := zQ e
   have nb' : b ∉ Mii ++ (hid ++ Mo) := fun q => by
    refine zh (mem_append.mp q) (fun q => ?_) fun q => ?_
    ·refine zh (g' b q) (fun q => ?_) fun q => ?_
     ·exact nb (mem_append_left _ q)
     ·rw [e1] at q; injection q
    ·refine zh (mem_append.mp q) (fun q => ?_) fun q => ?_
     ·rw [hhid b q] at e1; injection e1
     ·exact nb (mem_append_right _ q)
   refine vis_get (k23 b o (fun q => ?_) (kp'.at (fun q => ?_) e1 fun q => nb (S₀.ok.fin b q))) nb'
   ·rw [hhid b (Wk.sub b q)] at e1; injection e1
   ·refine zh (mem_append.mp q) (fun q => ?_) fun q => ?_
    ·exact nb (mem_append_left _ q)
    ·exact nb (S₀.ok.xin b q)
  refine zb (Wk.item i v h₃ hP _ kgv zE) fun d hd hit => ?_
  obtain hdrop : items.drop i = d :: items.drop (i + 1) := by
   rw [List.drop_eq_getElem_cons hlt]
   congr 1
   rw [List.getElem?_eq_getElem hlt] at hd
   exact Option.some.inj hd
  rw [hdrop] at hrun
  refine zb (zA hrun hb) fun ρ₁ hbind hrun => ?_
  refine ou hk so hbind S₃ (hit (qp hbind)) fun s₄ N₄ S₄ => ?_
  obtain keep : ∀ {s₅ : Shared} {Mi' : List Addr}, Nz cx A Mii s₄ s₅ → yg Mii Mi' s₄.heap → Kp (Mi ++ cx.X) (Fs A) s₀.heap s₅.heap ∧ yg Mi Mi' s₀.heap ∧ Kp (Mii ++ cx.X) (Fs A) h₃ s₅.heap := fun {s₅ Mi'} N₅ g₅ => by
   have K35 : Kp (Mii ++ cx.X) (Fs A) h₃ s₅.heap := (N₄.trans .refl N₅).kp
   refine yV (fun b o hb e => ?_) (fun b hb => ?_) K35
   ·have nw : b ∉ wr := fun q => by rw [hhid b (Wk.sub b q)] at e; injection e
    have nM : b ∉ Mii ++ cx.X := fun q => by
     refine zh (mem_append.mp q) (fun q => ?_) fun q => ?_
     ·refine zh (g' b q) (fun q => ?_) fun q => ?_
      ·exact hb (mem_append_left _ q)
      ·rw [e] at q; injection q
     ·exact hb (mem_append_right _ q)
    refine ze (kp' b o hb e) fun W0 k1 => ?_
    obtain ⟨sl, e1⟩ := W0
    refine ze (K35 b _ nM (k23 b _ nw e1)) fun W1 _ => ?_
    obtain ⟨sl', e2⟩ := W1
    exact ⟨⟨sl', e2⟩, fun hf => (K35 b o nM (k23 b o nw (k1 hf))).2 hf⟩
   ·rcases g₅ b hb with q | q
    ·exact g' b q
    ·by_cases hMi : b ∈ Mi
     ·exact .inl hMi
     refine .inr ?_
     cases e : s₀.heap.get? b with
     | none => rfl
     | some o =>
      exfalso
      have nw : b ∉ wr := fun q => by rw [hhid b (Wk.sub b q)] at e; injection e
      have hx : b ∉ cx.X := fun z => by
       refine zd (S₄.ok.live b (S₄.ok.xin b z)) fun o' q' => ?_; rw [q] at q'; injection q'
      obtain nx : b ∉ Mi ++ cx.X := fun z => by
       refine zh (mem_append.mp z) (fun z => ?_) fun z => ?_
       ·exact hMi z
       ·exact hx z
      refine ze (kp' b o nx e) fun W2 _ => ?_
      refine zd (W2) fun sl e1 => ?_
      obtain nM : b ∉ Mii ++ cx.X := fun z => by
       refine zh (mem_append.mp z) (fun z => ?_) fun z => ?_
       ·refine zh (g' b z) (fun z => ?_) fun z => ?_
        ·exact hMi z
        ·rw [e] at z; injection z
       ·exact hx z
      refine ze (N₄.kp b _ nM (k23 b _ nw e1)) fun W3 _ => ?_
      refine zd (W3) fun sl' e2 => ?_
      rw [q] at e2; injection e2
  refine IH ρ₁ Mii (hid ++ Mo) _ σi out s₄ _ _ hrun hb S₄ (fun ρ₅ σ₅ Mi₅ s₅ hK₅ N₅ g₅ S₅ => ?_) (fun x σ₅ w s₅ ho N₅ R₅ L₅ => ?_) fun e s₅ x => by cases x.er
  ·obtain ⟨kA, kB, kC⟩ := keep N₅ g₅
   refine ⟨items.length + 1 - (i + 1), by lia, i + 1, ρ₅, σ₅, Mi₅, hlt, rfl, ?_, ?_, S₅, kA, kB, hK₅⟩
   ·rw [N₅.eq, N₄.eq]; simp only; rw [e']
   ·refine Wk.turns.frame _ _ _ st₃ fun b hbf o e => ?_
    obtain nb : b ∉ Mii ++ cx.X ∧ b ∉ Fs A := by
     rcases Wk.fp b hbf with q | ⟨q1, o₀, q2⟩
     ·exact ⟨fun z => by
       refine zh (mem_append.mp z) (fun z => ?_) fun z => ?_
       ·exact nMii b q z
       ·exact hX b z q, fun z => hF b z q⟩
     ·exact ⟨fun z => by
       refine zh (mem_append.mp z) (fun z => ?_) fun z => ?_
       ·refine zh (g' b z) (fun z => ?_) fun z => ?_
        ·exact q1 (mem_append_left _ z)
        ·rw [q2] at z; injection z
       ·exact q1 (S₀.ok.xin b z), fun z => q1 (S₀.ok.fin b z)⟩
    exact kC.at nb.1 e nb.2
  ·obtain ⟨kA, _, _⟩ := keep N₅ .refl
   refine hR x σ₅ w s₅ ho ⟨?_, toS kA⟩ (R₅.keeps (less _)) (L₅.step (less _) fun _ _ _ hl => hl)
   exact eqs (by rw [N₅.eq, N₄.eq])
 ·have hin : i = items.length := Nat.le_antisymm hi (Nat.not_lt.mp hlt)
  subst hin
  refine Wk.turns.done _ _ _ st' fun h₂ tk₂ k₂ => wpAny_execs_nil ?_
  rw [List.drop_length] at hrun
  have S₂ : Sa cx A env Mii Mo ρi σi h₂ := S'.shed (Wk.live _ _ st').2 (fun b o hb e => k₂ b o (fun q => hb (Wk.sub b q)) e) (fun b hb => ?_) S.xo fun b hb q => ?_
  ·refine hQ ρi σi Mii { s' with heap := h₂, toks := tk₂ } hrun ⟨eqs rfl, toS fun b o hb e => ?_⟩ (fun b hb => ?_) S₂
   ·have nw : b ∉ wr := fun q => by rw [hhid b (Wk.sub b q)] at e; injection e
    refine ze (kp' b o hb e) fun W4 k1 => ?_
    refine zd (W4) fun sl e1 => ?_
    exact ⟨⟨sl, k₂ b _ nw e1⟩, fun hf => k₂ b o nw (k1 hf)⟩
   ·rcases g' b hb with q | q
    ·exact .inl q
    ·exact .inr (newX b q)
  ·rcases mem_append.mp (S'.ok.fin b hb) with q | q
   ·exact mem_append_left _ q
   ·refine zh (mem_append.mp q) (fun q => ?_) fun q => ?_
    ·exact absurd q (hF b hb)
    ·exact mem_append_right _ q
  ·refine zh (mem_append.mp hb) (fun w => ?_) fun w => ?_
   ·exact nMii b q w
   ·refine zd (liveM b (mem_append_right _ w)) fun o e => ?_; rw [hhid b q] at e; injection e
theorem bE {sc : zm} {X : zf → KR → St → Out} {gl : Str → Bool} {body : List Stmt} {pos : Pos} {KN : KR} {Q : Flow → Shared → Prop}
  (W : Wd cx G) (hk : Rm A n) (so : ScOk env sc) (SE : yt cx A er env Mi Mo ρ Ex) (IH : uA cx A false env X body) (hgl : ∀ f, gl f = true → env.kindOf f = some .globalImplicit)
  (h : src Ex gl (yK target) iter (fun items => forK (zP sc target) X items ρ KN) σ = out) (hb : out ≠ .bad) (S : Sa cx A env Mi Mo ρ σ s.heap)
  (hQ : ∀ ρ' σ' Mi' s', KN ρ' σ' = out → Nz cx A Mi s s' → yg Mi Mi' s.heap → Sa cx A env Mi' Mo ρ' σ' s'.heap → Q .next s')
  (hR : ∀ x σ' v s', out = .ok x σ' → Nz cx A Mi s s' → Rp cx (zc Mo s'.heap) v x → zq cx s'.heap (zc Mo s'.heap) σ' → Q (.ret v) s')
  (hE : ∀ e s', ErrE cx A er out s e s' → E e s') : wpAny (Mod cx) A (exec (.For target iter body [] pos) env) Q E s := by
 exact jH hk so IH (fun Q' hK => ja W hk SE hgl h hb S hK hE) (oJ h hb) hb S hQ hR
end
section
variable {cx : Cx} {A : Around} {er : Bool} {env : Env} {Mi Mo : List Addr} {ρ : zf} {σ : St} {out : Out} {s : Shared} {n : Nat} {u v : Value} {G : Str → Option V}
theorem oL {C : Str → List V → St → Out} {sc : zm} {a : Expr} (h : ev C G k er sc ρ a K σ = out) (hb : out ≠ .bad) : (!(xb a)) = true := by
 cases k with
 | zero => exact absurd h.symm hb
 | succ k =>
  cases a with
  | Starred => exact absurd h.symm hb
  | _ => rfl
theorem jI {h g g' : Heap} (kg : g.StaysIn g') (vg : ∀ b o, h.get? b = some o → (∃ xs, zI h b xs) → b ∉ Mo → g'.get? b = some o) : ∀ {bs : List Addr} {ls : List (List PyData)}, (∀ b ∈ bs, b ∉ Mo) → zR h g bs ls → ∃ as, ReadsAll g' (bs.map Value.ref) (ls.map PyData.list) as
 | [], [], _, _ => ⟨_, .nil⟩
 | b :: bs, l :: ls, hb, ⟨⟨vs, as, ow, r⟩, r2⟩ => by
  refine zo fun R_ k_ => ?_
  refine zd (jI kg vg (fun c hc => hb c (.tail _ hc)) r2) fun bs' r3 => ?_
  obtain ⟨o, e, hc, hn, m, hd⟩ := id ow
  refine k_ ?_
  exact ⟨_, .cons (reads_list_at (as := as) (vg b o e ⟨_, ow⟩ (hb b (.head _))) hc hd (yk kg r)) r3⟩
 | [], _ :: _, _, r => r.elim
 | _ :: _, [], _, r => r.elim
theorem bF {C : Str → List V → St → Out} (W : Wd cx G) (P : Prim cx) (CO : x5 cx n C) (hk : Rm A n) (k : Nat) (IH : ∀ (er : Bool) (sc : zm) (stmts : List Stmt), ScOk env sc → (er = true → wy cx env) → uA cx A er env (fun ρ => xs C G k er sc ρ stmts) stmts)
  (er : Bool) (sc : zm) (st : Stmt) (rest : List Stmt) (so : ScOk env sc) (hcode : er = true → wy cx env) : uA cx A er env (fun ρ => xs C G (k + 1) er sc ρ (st :: rest)) (st :: rest) := by
 intro ρ Mi Mo KN σ out s Q E h hb S hQ hR hE
 have SE := th W P CO hk k er env sc ρ Mi Mo so hcode
 have live : ∀ {Mi' : List Addr} {ρ' : zf} {σ' : St} {s' : Shared}, Nz cx A Mi s s' → Sa cx A env Mi' Mo ρ' σ' s'.heap → ∀ b o, b ∉ Mi → s.heap.get? b = some o → ∃ o', s'.heap.get? b = some o' := fun {_ _ _ s'} N S' b o hb e => by
  by_cases hx : b ∈ cx.X
  ·exact S'.ok.live b (S'.ok.xin b hx)
  ·exact N.kp.ex (fun q => by
    rcases mem_append.mp q with q | q
    ·exact hb q
    ·exact hx q) e
 have go : ∀ {ρ' : zf} {σ' : St} {Mi' : List Addr} {s' : Shared}, xs C G k er sc ρ' rest KN σ' = out → Nz cx A Mi s s' → yg Mi Mi' s.heap → Sa cx A env Mi' Mo ρ' σ' s'.heap → wpAny (Mod cx) A (execs rest env) Q E s' := fun {ρ' σ' Mi' s'} h' N g S' =>
  IH er sc rest so hcode ρ' Mi' Mo KN σ' out s' Q E h' hb S' (fun ρ₂ σ₂ Mi₂ s₂ hK N₂ g₂ S₂ => hQ ρ₂ σ₂ Mi₂ s₂ hK (N.trans g N₂) (yg.trans (s₁ := s) (s₂ := s') g g₂ (live N S')) S₂)
   (fun x σ₂ w s₂ ho N₂ R₂ L₂ => hR x σ₂ w s₂ ho (N.trans g N₂) R₂ L₂) fun e s₂ x => hE _ _ (ErrB.back N g x)
 have hE' : ∀ e s', ErrE cx A er out s e s' → E e s' := fun e s' x => hE e s' x.b
 refine wpAny_execs_cons ?_
 cases st with
 | Expr e pos =>
  replace h : cond (vO e) _ _ = out := h
  cases hstr : vO e with
  | true =>
   replace h := (hstr ..) ▸ h
   obtain ⟨sx, k1, p1, rfl⟩ := ki hstr
   exact wpAny_Expr (wpAny_Constant_str (go h (Nx.toks _).z .refl (S.to (.toks _) S.ok.lex))) (vm S.ek) rfl
  | false =>
  rw [hstr] at h
  rcases yL h with ⟨⟨o, a⟩, e1, h1⟩ | ⟨_, h⟩
  ·clear h
   refine zx (du e1) fun apos pos' W0 hline => ?_
   refine (W0) ▸ ?_
   clear hstr e1
   rcases yL h1 with ⟨x, e1, h2⟩ | ⟨_, h2⟩
   ·clear h1
    obtain ⟨px, rfl⟩ := ur e1
    refine zb (zA h2 hb) fun t e2 h => ?_
    rcases yL h with ⟨l, e3, h⟩ | ⟨_, h⟩
    ·obtain e2 := (dB e3 ..) ▸ e2
     exact bB SE e2 hline (oL h hb) h hb S (fun ρ' σ' s' hK N S' => go (ρ' := ρ') (σ' := σ') hK N .refl S') hE'
    ·refine zb (zA h hb) fun l e3 h => ?_
     replace e2 := (kn e3 ..) ▸ e2
     refine zo fun R_ k_ => ?_
     refine ze (zr h hb) fun hc h => ?_
     refine ze (zO hc) fun hc1 hc2 => ?_
     refine ze (zO hc1) fun hc3 hc4 => ?_
     refine zd (km hc3) fun p2 hp2 => ?_
     refine k_ ?_
     refine (show a = _ from hp2 ..).symm ▸ ?_
     exact bC e2 hline hc4 S fun Mi' s' N g S' => go h N g S'
   ·clear h1
    refine zb (zA h2 hb) fun x e1 h => ?_
    refine y5 (dv e1) fun px i p ho hi => ?_
    refine (show o = _ from ho ..).symm ▸ ?_
    refine zo fun R_ k_ => ?_
    refine zb (zA h hb) fun t e2 h => ?_
    refine zb (zA h hb) fun l e3 h => ?_
    obtain e2 := (kn e3 ..) ▸ e2
    refine ze (zr h hb) fun hc h => ?_
    refine k_ ?_
    exact bD SE e2 hline (oL h hb) hi h hb S (fun q => by obtain hc := (q ..) ▸ hc; exact ff hc) (fun ρ' σ' s' hK N S' => go (ρ' := ρ') (σ' := σ') hK N .refl S') hE'
  ·obtain ⟨hc, h⟩ := zr h hb
   have hs : swapsWith e none pos.line env = pure false := by cases e <;> first | rfl | exact ff hc
   exact wpAny_Expr_any (SE e _ σ out s _ _ h hb S (fun x σ₁ w s₁ hK N₁ R₁ L₁ => go hK N₁.z .refl (S.to N₁ L₁)) hE') (vm S.ek) hs
 | Return o pos =>
  refine zb (zA h hb) fun e W1 h => ?_
  refine (W1) ▸ ?_
  have less : (zc (Mi ++ Mo) s.heap).StaysIn (zc Mo s.heap) := xk fun b hb => mem_append_right _ hb
  rcases yL h with ⟨l, e1, h⟩ | ⟨_, h⟩
  ·refine zx (dA e1) fun x p he hl => ?_
   refine (he ..).symm ▸ ?_
   refine zo fun R_ k_ => ?_
   obtain ⟨q, ek, D, bs, h1, h2, h3, h4, h5, h6⟩ := S.loc _ _ hl
   refine k_ ?_
   subst q
   refine wpAny_Return_some (wpAny_Name (xF S.ek h1 ?_) (by decide))
   obtain nM : ∀ b ∈ Mi, b ∉ Mo := S.dis
   refine zo fun R_ k_ => ?_
   refine zd (jI (Mo := Mo) (g' := zc Mo s.heap) less (fun b o e _ nb => vis_get e nb) (fun b hb => nM b (h5 b hb)) h6) fun as r => ?_
   obtain ⟨o, e, hc, hn, m, hd⟩ := h3
   refine k_ ?_
   exact hR _ σ _ s h.symm .refl ⟨_, reads_list_at (as := as) (vis_get e (nM D h2)) hc hd r⟩ (S.ok.lex.step less fun _ _ _ hl => hl)
  ·exact wpAny_Return_some (SE _ _ σ out s _ _ h hb S (fun y σ₁ w s₁ hK N₁ R₁ L₁ => hR y σ₁ w s₁ hK.symm N₁.z (R₁.keeps (xk fun b hb => mem_append_right _ hb)) (L₁.step (xk fun b hb => mem_append_right _ hb) fun _ _ _ hl => hl)) hE')
 | Assign ts e pos =>
  refine zb (zA h hb) fun t e1 h1 => ?_
  clear h
  refine (uq e1) ▸ ?_
  clear e1
  cases t with
  | Name x px =>
   refine ze (zr h1 hb) fun hx h => ?_
   cases hp : x == yy with
   | true =>
    rw [hp] at h
    obtain rfl := eq_of_beq hp
    refine zo fun R_ k_ => ?_
    refine zb (zA h hb) fun a e2 h => ?_
    refine zb (yd e2) fun es e3 e4 => ?_
    refine zd (qa e3) fun p he => ?_
    refine k_ ?_
    refine (he ..).symm ▸ (uq e4 ..).symm ▸ ?_
    refine ze (zr h hb) fun hnp h => ?_
    exact bt (K := fun ρ' σ' => xs C G k er sc ρ' rest KN σ') so SE hx hnp (oL h hb) h hb S (fun ρ' σ' Mi' s' hK N g S' => go hK N g S') hE'
   | false =>
    rw [hp] at h
    exact bp W P CO hk so hcode hx h hb S (fun y σ' s' hK N S' => go hK N .refl S') hE'
  | Tuple us m p =>
   replace h1 : cond (vf e) _ _ = out := h1
   cases hcut : vf e with
   | true =>
    rw [hcut] at h1
    refine zo fun R_ k_ => ?_
    refine zb (zA h1 hb) fun W2 e2 h => ?_
    obtain ⟨a, b⟩ := W2
    refine zb (zA h hb) fun x e3 h => ?_
    refine zb (zA h hb) fun y e4 h => ?_
    refine ze (zr h hb) fun hc hx => ?_
    refine zd (ur e3) fun p1 ha => ?_
    refine zd (ur e4) fun p2 hbn => ?_
    obtain hus := r9 e2
    replace hus := (show b = _ from hbn ..) ▸ (show a = _ from ha ..) ▸ hus
    obtain ⟨p3, p4, kk, p5, m2, p6, he⟩ := dw hcut
    clear h1 hcut e2 e3 e4 ha hbn
    subst hus
    subst he
    refine ze (zO hc) fun c5 c6 => ?_
    refine ze (zO c5) fun c4 c5' => ?_
    refine ze (zO c4) fun c3 c4' => ?_
    refine ze (zO c3) fun c2 c3' => ?_
    refine ze (zO c2) fun c1 c2' => ?_
    refine k_ ?_
    obtain rfl := eq_of_beq c2'
    exact bx hk so c5' c6 (fun q => by rw [← q] at c4'; simp at c4') c3' S c1 fun Mi' s' N g S' => go hx N g S'
   | false =>
    replace h1 := (hcut ..) ▸ h1
    refine ze (zr h1 hb) fun hc h => ?_
    exact br (Kt := fun ρ' σ' => xs C G k er sc ρ' rest KN σ') hk so SE hc h hb S (by cases e <;> rfl) (fun ρ' σ' s' hK N S' => go hK N .refl S') hE'
  | _ => exact absurd h1.symm hb
 | AugAssign t op e pos =>
  refine zb (zA h hb) fun x e1 h1 => ?_
  clear h
  refine zd (ur e1) fun px W3 => ?_
  refine (W3) ▸ ?_
  refine zb (zA h1 hb) fun i e2 h => ?_
  refine zb (S.loc _ _ (dC e2)) fun w lo r => ?_
  refine zd (wM r) fun t W4 => ?_
  obtain rfl := W4
  refine wpAny_AugAssign_Name (xF S.ek lo (SE e _ σ out s _ _ h hb S (fun y σ₁ w s₁ hK N₁ R₁ L₁ => ?_) hE'))
  obtain S₁ := S.to N₁ L₁
  refine zx (yY hK hb R₁) fun j t' W5 hK => ?_
  obtain rfl := W5
  obtain ⟨hx, hK⟩ := zr hK hb
  obtain hxk := so.loc _ (yl hx)
  obtain fin : ∀ {m : Int}, xs C G k er sc (zz x (.v (.dat (.int m))) ρ) rest KN σ₁ = out → wpAny (Mod cx) A (storeName env x (.int m s₁.toks)) (fun _ s' => wpAny (Mod cx) A (execs rest env) Q E s') E { s₁ with toks := s₁.toks + 1 } := fun {m} hK =>
   store_val (s := { s₁ with toks := s₁.toks + 1 }) (y := .dat (.int m)) (S₁.to (.toks _) S₁.ok.lex) hxk y0 fun s₂ N₃ S₂ _ => go hK ((N₁.trans (.toks _)).z.trans .refl N₃) .refl S₂
  cases op with
  | Add => exact PySem.P.iadd_int (fin hK)
  | Sub => exact PySem.P.isub_int (fin hK)
  | _ => exact absurd hK.symm hb
 | If t b o pos =>
  refine wpAny_If (qn SE k t _ σ out s _ _ h hb S (fun c σ₁ s₁ hK N₁ L₁ => ?_) hE')
  have S₁ := S.to N₁ L₁
  obtain branch : ∀ stmts, xs C G k er sc ρ stmts (fun ρ' => xs C G k er sc ρ' rest KN) σ₁ = out → wpAny (Mod cx) A (execs stmts env) (fun f s' => match f with | .next => wpAny (Mod cx) A (execs rest env) Q E s' | f => Q f s') E s₁ := fun stmts h' =>
   IH er sc stmts so hcode ρ Mi Mo _ σ₁ out s₁ _ _ h' hb S₁ (fun ρ₂ σ₂ Mi₂ s₂ hK₂ N₂ g₂ S₂ => go hK₂ (N₁.z.trans .refl N₂) (yg.trans (s₁ := s) (s₂ := s₁) .refl g₂ (live N₁.z S₁)) S₂)
    (fun x σ₂ w s₂ ho N₂ R₂ L₂ => hR x σ₂ w s₂ ho (N₁.z.trans .refl N₂) R₂ L₂) fun e s₂ x => hE _ _ (ErrB.back N₁.z .refl x)
  cases c with
  | true => exact branch b hK
  | false => exact branch o hK
 | For target iter body orelse pos =>
  refine ze (zr h hb) fun e1 h => ?_
  refine (x4 e1 ..).symm ▸ ?_
  exact bE W hk so SE (IH false sc _ so fun q => ff q) (fun f hf => uy so hf) h hb S (fun ρ' σ' Mi' s' hK N g S' => go hK N g S') (fun x σ' w s' ho N R L => hR x σ' w s' ho N R L) hE'
 | Raise e c pos =>
  refine zb (zA h hb) fun x e1 h => ?_
  refine rL (dy e1) fun p sx k1 q p2 W6 W7 => ?_
  obtain rfl := W6
  obtain rfl := W7
  obtain ⟨hc, h2⟩ := zr h hb
  obtain ⟨hc1, hc2⟩ := zO hc
  refine ze (zO hc1) fun hc3 hc4 => ?_
  obtain rfl := eq_of_beq hc2
  refine P.raise A env s _ _ _ _ _ _ _ _ (hk.mono (Nat.zero_le _)) S.ek (uy so hc4) S.base fun h' tk ea vs hm => ?_
  refine zb (S.ok.frames) fun frs hfr ff => ?_
  exact hE _ _ ⟨hc3, h2.symm, rfl, fun b o _ e _ => ⟨o.slots, hm.keeps b o e⟩, .inr ⟨frs, s.heap, ea, vs, hfr, rfl, S.base, ff, hm⟩⟩
 | _ => exact absurd h.symm hb
theorem oM {C : Str → List V → St → Out} (W : Wd cx G) (P : Prim cx) (CO : x5 cx n C) (hk : Rm A n) : ∀ (k : Nat) (er : Bool) (sc : zm) (stmts : List Stmt), ScOk env sc → (er = true → wy cx env) → uA cx A er env (fun ρ => xs C G k er sc ρ stmts) stmts := by
 intro k
 induction k with
 | zero => exact fun er sc stmts so hcode ρ Mi Mo KN σ out s Q E h hb => absurd h.symm hb
 | succ k ih =>
  intro er sc stmts so hcode
  cases stmts with
  | nil => exact fun ρ Mi Mo KN σ out s Q E h hb S hQ hR hE => wpAny_execs_nil (hQ ρ σ Mi s h .refl .refl S)
  | cons st rest => exact bF W P CO hk k ih er sc st rest so hcode
end
section
variable {cx : Cx} {n : Nat} {G : Str → Option V}
noncomputable def qr (cx : Cx) (n : Nat) (fa : Addr) (args : List V) (σ : St) (out : Out) : Prop :=
 ∀ A M s vals (Q E : Value → Shared → Prop), Rm A n → Ok cx A M s.heap σ → yM cx (zc M s.heap) vals args →
  (∀ x σ' v s', out = .ok x σ' → Nx cx A s s' → Rp cx (zc M s'.heap) v x → zq cx s'.heap (zc M s'.heap) σ' → Q v s') →
  (∀ e s', ErrE cx A true out s e s' → E e s') → wpAny (Mod cx) A (call (.ref fa) vals) Q E s
structure FnAt (cx : Cx) (fa : Addr) (r : FnR) : Prop where
 ex : ∃ o fd, cx.base.get? fa = some o ∧ o.data = .func fd ∧ fd.body = .stmts r.body ∧ fd.scope.names = r.sc ∧ fd.scope.kind = .function ∧ fd.scope.isCoroutine = false ∧ fd.scope.isGenerator = false ∧
  fd.globals = mainGlobals ∧ fd.builtins = builtinsNs ∧ fd.closure = [] ∧ cx.base.CodeRec fd.code fd.qualname ∧ ∀ vals : List Value, vals.length = r.ps.length → bindArgs fd ⟨vals, []⟩ = pure (r.ps.zip vals)
 nodup : r.ps.Nodup
 kinds : ∀ p ∈ r.ps, zD p r.sc = some .local ∨ (zD p r.sc = some .cell ∧ ∀ m, ((cellsFrom m r.sc []).lookup p).isSome = true)
theorem jJ {k : Str → Option NameKind} {x : Str} : ∀ (bs : List (Str × Value)) (m : Str → Option Value), x ∉ bs.map (·.1) → bindL k bs m x = m x
 | [], _, _ => rfl
 | (y, v) :: r, m, h => by
  obtain hx : x ≠ y := fun q => h (by rw [q]; exact mem_cons_self ..)
  dsimp only [bindL]
  rw [jJ r _ fun q => h (mem_cons_of_mem _ q)]
  split
  ·exact if_neg hx
  ·rfl
theorem jK {k : Str → Option NameKind} {x : Str} : ∀ (bs : List (Str × Value)) (m : Str → Option Value), x ∉ bs.map (·.1) → bindC k bs m x = m x
 | [], _, _ => rfl
 | (y, v) :: r, m, h => by
  obtain hx : x ≠ y := fun q => h (by rw [q]; exact mem_cons_self ..)
  dsimp only [bindC]
  rw [jK r _ fun q => h (mem_cons_of_mem _ q)]
  split
  ·rfl
  ·exact if_neg hx
theorem ti {k : Str → Option NameKind} {x : Str} {v : Value} (hk : k x = some .local) : ∀ (bs : List (Str × Value)) (m : Str → Option Value), (bs.map (·.1)).Nodup → (x, v) ∈ bs → bindL k bs m x = some v
 | (y, w) :: r, m, hn, h => by
  obtain hn' := nodup_cons.mp hn
  dsimp only [bindL]
  rcases mem_cons.mp h with q | q
  ·cases q
   exact (jJ r _ hn'.1 ..).symm ▸ (if_pos hk ..).symm ▸ (if_pos rfl ..).symm ▸ rfl
  ·exact ti hk r _ hn'.2 q
theorem oN {k : Str → Option NameKind} {x : Str} {v : Value} (hk : k x ≠ some .local) : ∀ (bs : List (Str × Value)) (m : Str → Option Value), (bs.map (·.1)).Nodup → (x, v) ∈ bs → bindC k bs m x = some v
 | (y, w) :: r, m, hn, h => by
  obtain hn' := nodup_cons.mp hn
  dsimp only [bindC]
  rcases mem_cons.mp h with q | q
  ·cases q
   exact (jK r _ hn'.1 ..).symm ▸ (if_neg hk ..).symm ▸ (if_pos rfl ..).symm ▸ rfl
  ·exact oN hk r _ hn'.2 q
theorem sM {ps : List Str} {vals : List Value} (h : vals.length = ps.length) : (ps.zip vals).map (·.1) = ps := by
 rw [List.map_fst_zip]
 lia
theorem sO {g : Heap} {x : Str} {t : Sl} : ∀ {ps : List Str} {vals : List Value} {args : List V}, yM cx g vals args → zt x (ps.zip (args.map .v)) = some t → ∃ u y, t = .v y ∧ (x, u) ∈ ps.zip vals ∧ Rp cx g u y
 | [], _, _, _, h => nomatch h
 | _ :: _, [], [], _, h => nomatch h
 | _ :: _, [], _ :: _, r, _ => r.elim
 | _ :: _, _ :: _, [], r, _ => r.elim
 | p :: ps, u :: vals, y :: args, r, h => by
  rw [map_cons, zip_cons_cons] at h
  dsimp only [zt] at h
  cases e : p == x with
  | true =>
   rw [e] at h; (injection h with h; subst h)
   refine (eq_of_beq e) ▸ ?_
   exact wc u y rfl (mem_cons_self ..) (r.1)
  | false =>
   rw [e] at h
   refine yq (sO r.2 h) fun u' y' h1 h2 h3 => ?_
   exact wc u' y' h1 (mem_cons_of_mem _ h2) h3
set_option tactic.hygienic true in
theorem bG {T : Str → Option FnR} {Pp : Nat → Str → List V → St → Option Out} (W : Wd cx G) (Pr : Prim cx) (CO : x5 cx n (yC T Pp G n)) {r : FnR} {fa : Addr} (F : FnAt cx fa r) {args : List V} {out : Out}
  (h : chk (Nat.beq r.ps.length args.length) (xs (yC T Pp G n) G 100 true r.sc (r.ps.zip (args.map .v)) r.body (fun _ σ => .ok (.dat .none) σ) σ) = out) (hb : out ≠ .bad) : qr cx (n + 1) fa args σ out := by
 intro A M s vals Q E hk O R hQ hE
 refine zo fun R_ k_ => ?_
 refine ze (zr h hb) fun hlen h => ?_
 obtain hlen : r.ps.length = args.length := Nat.eq_of_beq_eq_true hlen
 have hvl : vals.length = r.ps.length := by exact R.length.symm ▸ hlen.symm ▸ rfl
 obtain ⟨o, fd, ho, hd, hbody, hsc, hkind, hco, hgen, hglob, hblt, hclo, hcd, hbind⟩ := F.ex
 refine k_ ?_
 have base : cx.base.StaysIn s.heap := zZ O.stays zE
 have hlook : ∀ x, fd.scope.names.lookup x = zD x r.sc := fun x => by rw [hsc, wK]
 obtain hcr : s.heap.CodeRec fd.code fd.qualname := by
  refine w9 (hcd) fun c oc vs tq hc hoc r => ?_
  exact ud c oc vs tq hc (base _ _ hoc) r
 obtain hlim : s.heap.NoLimit := W.nolimit.keeps base
 have mem_p : ∀ y ∈ r.ps.zip vals, y.1 ∈ r.ps := fun y hy => (of_mem_zip hy).1
 refine wpAny_call (codeAny_call_cells (by obtain this := hk.depth; show A.depth < 1000; lia) (base _ _ ho) hd hlim hcr hbody (hbind vals hvl) hclo (fun y hy => ?_) (fun s₁ X => ?_) hco hgen hkind)
 ·rw [hlook]
  refine xL (F.kinds y.1 (mem_p y hy)) (fun q => ?_) fun q w => ?_
  ·exact .inl q
  ·exact .inr ⟨q, by refine (hsc ..).symm ▸ ?_; exact w _⟩
 refine zx (X.done) fun h₁ tk₁ e₁ kp => ?_
 have hns := X.toInCall.ns
 generalize hL : s.heap.objs.size = L at X hns ⊢
 have newL : s.heap.get? L = none := by refine (hL ..) ▸ ?_; exact Heap.get?_none_of_le (Nat.le_refl _)
 obtain env_kind : ∀ x, (callEnvC fd L fa).kindOf x = zD x r.sc := fun x => hlook x
 obtain e₁h : s₁.heap = h₁ := by rw [e₁]
 have LM : L ∉ M := fun q => by refine zd (O.live L q) fun o e => ?_; rw [newL] at e; injection e
 have kp' : ∀ b o, s.heap.get? b = some o → s₁.heap.get? b = some o := fun b o e => by rw [e₁h]; exact kp b o e
 refine zb (O.frames) fun frs hfr ff => ?_
 have hfr' : (A.deeper (callEnvC fd L fa)).frames = some (callEnvC fd L fa :: frs) := Around.frames_deeper hfr
 have fs' : Fs (A.deeper (callEnvC fd L fa)) = L :: Fs A := by
  unfold Fs
  refine (hfr' ..).symm ▸ (hfr ..).symm ▸ ?_; rfl
 have kgv : (zc M s.heap).StaysIn (zc ([L] ++ M) s₁.heap) := fun b o e => vis_get (kp' b o (zH e)) fun q => by
  refine zh (mem_append.mp q) (fun q => ?_) fun q => ?_
  ·rw [mem_singleton.mp q] at e; rw [zH e] at newL; injection newL
  ·exact zQ e q
 obtain baseL : cx.base.get? L = none := by
  cases q : cx.base.get? L with
  | none => rfl
  | some o => rw [base _ _ q] at newL; injection newL
 obtain Kall : Kp [] (Fs A) s.heap s₁.heap := .of_all kp'
 obtain vX : s₁.heap.FunFrames cx.base (callEnvC fd L fa :: frs) := by
  refine Heap.FunFrames.cons (L := L) (by show fd.scope.kind ≠ .module; rw [hkind]; decide) rfl hns baseL (Kall.frames ff (by simp))
 obtain rp := R.keeps kgv
 obtain S₁ : Sa cx (A.deeper (callEnvC fd L fa)) (callEnvC fd L fa) [L] M (r.ps.zip (args.map .v)) σ s₁.heap := by
  refine ⟨⟨zZ O.stays kgv, fun b hb => ?_, ⟨_, hfr', vX⟩, fun b hb => ?_, fun b hb q => ?_, fun b hb => mem_append_right _ (O.xin b hb), O.lex.step kgv fun b hb vs hl => hl.next Kall (by simp)⟩, ⟨hkind, hglob, hblt⟩, ⟨_, hns⟩, mem_singleton.mpr rfl, O.xin, fun b hb q => ?_, fun x t e => ?_, .inl ?_⟩
  ·rcases mem_append.mp hb with q | q
   ·rw [mem_singleton.mp q]; refine y5 (hns) fun o _ _ e _ => ?_; exact ⟨o, e⟩
   ·refine zd (O.live b q) fun o e => ?_; exact ⟨o, kp' b o e⟩
  ·replace hb := (fs' ..) ▸ hb
   refine zh (mem_cons.mp hb) (fun q => ?_) fun q => ?_
   ·rw [q]; exact mem_append_left _ (mem_singleton.mpr rfl)
   ·exact mem_append_right _ (O.fin b q)
  ·rw [fs'] at hb
   refine zh (mem_cons.mp hb) (fun w => ?_) fun w => ?_
   ·rw [w] at q; exact LM (O.xin L q)
   ·exact O.fx b w q
  ·rw [mem_singleton.mp hb] at q; exact LM q
  ·refine yq (sO rp e) fun u y W0 hm hr => ?_
   refine (W0) ▸ ?_
   refine zg u ?_ hr
   have nd : ((r.ps.zip vals).map (·.1)).Nodup := by rw [sM hvl]; exact F.nodup
   refine xL (F.kinds x (mem_p _ hm)) (fun q => ?_) fun q w => ?_
   ·exact .inl ⟨by rw [env_kind]; exact q, _, hns, ti (by rw [env_kind]; exact q) _ _ nd hm⟩
   ·refine zd (Option.isSome_iff_exists.mp (w (L + 1))) fun c hc => ?_
    have hc' : (callEnvC fd L fa).cells.lookup x = some c := by show (cellsFrom (L + 1) fd.scope.names []).lookup x = some c; refine (hsc ..).symm ▸ ?_; exact hc
    refine zb (X.cell x c hc') fun oc hoc hdc => ?_
    refine .inr ⟨.inl (by rw [env_kind]; exact q), c, oc, hc', hoc, ?_⟩
    rw [hdc, oN (by rw [env_kind, q]; decide) _ _ nd hm]
  ·unfold yb
   split
   ·rename_i e
    refine zx (sO rp e) fun u y q _ => ?_
    injection q
   ·rfl
 obtain so : ScOk (callEnvC fd L fa) r.sc := ⟨fun x e => by rw [env_kind]; exact e, fun x e => by rw [env_kind]; exact e, fun x e => by rw [env_kind]; exact e⟩
 obtain hcode : true = true → wy cx (callEnvC fd L fa) := fun _ => by
  refine rJ (hcd) fun c oc vs tq hc hoc hdc _ => ?_
  exact uc c oc vs hc hoc hdc
 obtain hk' : Rm (A.deeper (callEnvC fd L fa)) n := ⟨hk.handled, by obtain this := hk.depth; show A.depth + 1 + n ≤ 990; lia, by obtain this := hk.units; show A.units + 3 + 4 * n + 300 ≤ 9900; lia⟩
 obtain nx : ∀ {s' : Shared}, Nz cx (A.deeper (callEnvC fd L fa)) [L] s₁ s' → Nx cx A s s' := fun {s'} N => by
  refine ⟨by exact N.eq.symm ▸ e₁.symm ▸ rfl, fun b o hb e => ?_⟩
  have nL : b ≠ L := fun q => by rw [q, newL] at e; injection e
  refine ze (N.kp b o (fun q => by
   refine zh (mem_append.mp q) (fun q => ?_) fun q => ?_
   ·exact nL (mem_singleton.mp q)
   ·exact hb q) (kp' b o e)) fun k1 k2 => ?_
  refine ⟨k1, fun hf => k2 fun q => ?_⟩
  rw [fs'] at q
  refine zh (mem_cons.mp q) (fun q => ?_) fun q => ?_
  ·exact nL q
  ·exact hf q
 refine oM W Pr CO hk' 100 true r.sc r.body so hcode _ [L] M _ σ out s₁ _ _ h hb S₁ (fun ρ' σ' Mi' s' hK N g S' => ?_) (fun x σ' v s' ho N Rv L' => ?_) fun e s' x => ?_
 ·exact hQ (.dat .none) σ' .none s' hK.symm (nx N) qe (S'.ok.lex.step (xk fun b hb => mem_append_right _ hb) fun _ _ _ hl => hl)
 ·exact hQ x σ' v s' ho (nx N) Rv L'
 ·have kf : ∀ {h' : Heap}, s'.heap.UpToSlots h' → Kf cx.X s.heap h' := fun {h'} up b o hb e hd => by
   obtain nL : b ∉ [L] ++ cx.X := fun q => by
    refine zh (mem_append.mp q) (fun q => ?_) fun q => ?_
    ·rw [mem_singleton.mp q, newL] at e; injection e
    ·exact hb q
   refine zd (x.kf b o nL (kp' b o e) hd) fun sl e' => ?_
   refine zd (up b _ e' hd) fun sl' e'' => ?_
   exact ⟨sl', e''⟩
  refine lB x.how (fun frs' ea a0 hf' W1 fl => ?_) fun frs' hh ea vs hf' W2 hst hff hm => ?_
  ·obtain rfl := W1; replace hf' := (hfr' ..) ▸ hf'
   obtain rfl := Option.some.inj hf'
   refine wpAny_leaves_onW hfr' rfl fl fun h' fl' up => hE _ _ ⟨rfl, x.out, by exact x.eq.symm ▸ e₁.symm ▸ rfl, ⟨frs, ea, a0, hfr, rfl, fl'⟩, kf up⟩
  ·refine (W2) ▸ ?_; rw [hfr'] at hf'
   obtain rfl := Option.some.inj hf'
   exact wpAny_leaves_madeW hfr' rfl hst hff hm fun h' t fl' _ _ up => hE _ _ ⟨rfl, x.out, by exact x.eq.symm ▸ e₁.symm ▸ rfl, ⟨frs, ea, .ref t, hfr, rfl, fl'⟩, kf up⟩
end
section
variable {cx : Cx} {G : Str → Option V}
set_option tactic.hygienic true in
theorem jL {T : Str → Option FnR} {Pp : Nat → Str → List V → St → Option Out} (W : Wd cx G) (Pr : Prim cx) (hT : ∀ f r fa, T f = some r → cx.mg f = some (.ref fa) → FnAt cx fa r)
  (hP : ∀ n, x5 cx n (yC T Pp G n) → ∀ f args σ out fa, Pp n f args σ = some out → out ≠ .bad → cx.mg f = some (.ref fa) → qr cx (n + 1) fa args σ out) : ∀ n, x5 cx n (yC T Pp G n)
 | 0 => fun f args σ out fa h hb => absurd h.symm hb
 | n + 1 => fun f args σ out fa h hb hm => by
  obtain CO := jL W Pr hT hP n
  dsimp only [yC] at h
  split at h
  ·rename_i o e
   cases h
   exact hP n CO f args σ _ fa e hb hm
  ·split at h
   ·rename_i r hr
    exact bG W Pr CO (hT f r fa hr hm) h hb
   ·exact absurd h.symm hb
end
section
variable {cx : Cx} {B nid initId : String} {bm : List Value}
theorem bH (hg : cx.base.Ns mainGlobals cx.mg) (O : OwnCls wH cx.errC bm nid cx.mg cx.base) (FB : ExcBaseFacts B nid initId bm) (A : Around) (env : Env) (s : Shared) (p1 p2 p3 pos : Pos) (m : Str) (k : Nat) (Q : Flow → Shared → Prop) (E : Value → Shared → Prop) (hk : Rm A 0) (ek : EnvOk env) (hx : env.kindOf wH = some .globalImplicit) (st : cx.base.StaysIn s.heap)
  (h : ∀ h' tk ea vs, Heap.MadeExcOf s.heap h' ea (.ref cx.errC) vs → E (.ref ea) { s with heap := h', toks := tk }) :
  wpAny (Mod cx) A (exec (.Raise (some (.Call (.Name wH p1) [.Constant (.str m) k p2] [] p3)) none pos) env) Q E s := by
 obtain hb := O.bound
 refine zo fun R_ k_ => ?_
 obtain ⟨tl, N, nm, q, bs, hdct, sn, sub, ab, col, dd, k0, k1, k2, k3, k5, mN, hC, hN, hni, T⟩ := O.obj
 refine k_ ?_
 refine wpAny_Raise_call_subT (C := cx.errC) (nm := nm) (q := q) (N := N) (bs := bs) (bm := tl) (hdct := hdct) (sn := sn) (sub := sub) (ab := ab) (col := col) (dd := dd) (k0 := k0) (k1 := k1) (k2 := k2) (k3 := k3) (k5 := k5)
  FB (mN := mN) (T.hasType FB.hasBase) hk.handled rfl hni (Name_function_global ek.kind hx (loadGlobal_global (by rw [ek.globals]; exact hg.keeps st) hb ⟨rfl, ?_⟩) (by rfl))
 show wpAny _ _ (evalArgs _ true [(false, eval (.Constant (.str m) k p2) env)] []) _ _ _
 refine evalArgs_plain (spliced_cons (wpAny_Constant_str (spliced_nil ⟨rfl, by show 1 ≤ sizeLine; decide, st _ _ hC, hN.keeps st, T.keeps st, fun h' e hm => h _ _ _ _ hm⟩)))
end
end Mine
end
section
open PySem PySem.W PyProof.Rows PySem.Calls PySem.Spec
open AutoSeq1 (wpAny_loadPart')
set_option maxRecDepth 100000
namespace Mine
variable {E Q : Value → Shared → Prop} {K : Frag}
theorem bI (l : Addr) (items : Array Value) (n : Nat) (sl : Array (Option Value)) (y : Value) (hy : items[items.size - 1]? = some y) (hs1 : items.size ≤ sizeLine) :
  Meets (Builtin.«list.pop» ⟨[.ref l], []⟩)
   (fun _ R s => s.heap.get? l = some { cls := .type "list", dict := none, data := .seq items n, slots := sl } ∧ R (.ok (.ret y)) { s with heap := s.heap.update l (Obj.mapSeq fun xs => xs.eraseIdxIfInBounds (items.size - 1)) }) :=
 .of_wp fun prog w A R s h => by
  obtain ⟨hp, g, d, tk, os⟩ := s; refine ze (h) fun hl h => ?_
  obtain hpos : 0 < items.size := by
   refine zh (Nat.eq_zero_or_pos items.size) (fun h0 => ?_) fun h0 => ?_
   ·simp [h0] at hy
   ·exact h0
  have hne : ¬ items.isEmpty = true := by
   intro he; have : items.size = 0 := by simpa using he
   lia
  obtain hk : seqIndex? (-1) items.size = some (items.size - 1) := by
   unfold seqIndex?
   have a1 : (-1 : Int) + (items.size : Int) = ((items.size - 1 : Nat) : Int) := by lia
   simp [a1]; lia
  wp_walk using wpAny_loadPart' hl
  simp only [hk, hy, Option.bind_some, Option.map_some]
  obtain hz' : (items.eraseIdxIfInBounds (items.size - 1)).size ≤ sizeLine + 1 := by
   unfold Array.eraseIdxIfInBounds
   split
   ·rw [Array.size_eraseIdx]; lia
   ·exact Nat.le_succ_of_le ‹_›
  wp_walk using (wpAny_updateSeq hl rfl (hz := hs1) (_hz' := hz')), wpAny_loadPart' hl
  exact zg _ rfl h
section
variable {cx : Cx} {A : Around} {s : Shared}
theorem bJ {l : Addr} {xs : Array Value} {y : Value} (hz : xs.size + 1 ≤ sizeLine) (hl : zI s.heap l (xs.push y))
  (hQ : ∀ h', zI h' l xs → Heap.SameBut l s.heap h' → Q y { s with heap := h' }) : wpAny (Mod cx) A (call (.builtin "list.pop") [.ref l]) Q E s := by
 refine zo fun R_ k_ => ?_
 obtain ⟨⟨cls, dd, data, sl⟩, ho, hc, hn, n, hd⟩ := id hl
 refine k_ ?_
 simp only at hc hn hd
 subst hc hn hd
 have e : (xs.push y).eraseIdxIfInBounds ((xs.push y).size - 1) = xs := by
  unfold Array.eraseIdxIfInBounds
  rw [dif_pos (by simp)]
  apply Array.ext
  ·simp
  ·intro i h1 h2
   rw [Array.getElem_eraseIdx]
   simp [Array.getElem_push, h2]
 refine call_meets PySem.F.slot_list_pop ⟨_, ho, rfl⟩ PySem.F.entry_list_pop (PySem.F.args_list_pop_1 _) (bI l (xs.push y) n sl y (by simp) (by simpa using hz)) ⟨ho, hQ _ ?_ (Heap.SameBut.update ..)⟩
 refine zd (Obj.data_mapSeq (o := { cls := .type "list", data := .seq (xs.push y) n, slots := sl }) rfl fun z => z.eraseIdxIfInBounds ((xs.push y).size - 1)) fun n' hd' => ?_
 obtain hd2 : (Obj.mapSeq (fun z => z.eraseIdxIfInBounds ((xs.push y).size - 1)) { cls := .type "list", data := .seq (xs.push y) n, slots := sl } : Obj).data = .seq xs n' := hd'.trans (by
  show Data.seq ((xs.push y).eraseIdxIfInBounds ((xs.push y).size - 1)) n' = _
  exact e.symm ▸ rfl)
 exact ⟨_, Heap.get?_update_self _ ho (Obj.isFreed_of_seq hd2), Obj.cls_mapSeq .., by dsimp only [Obj.mapSeq], _, hd2⟩
noncomputable def zY : Str := "self"
noncomputable def sP : Str := "tok"
noncomputable def yP : Str := "tokens"
noncomputable def bK : Str := "pop"
noncomputable def bL (p : Nat → Pos) : List Stmt :=
 [.Return (some (.Call (.Attribute (.Attribute (.Name zY (p 0)) yP (p 1)) bK (p 2)) [] [] (p 3))) (p 4)]
noncomputable def bM (p : Nat → Pos) : List Stmt :=
 [.Expr (.Call (.Attribute (.Attribute (.Name zY (p 0)) yP (p 1)) wG (p 2)) [.Name sP (p 3)] [] (p 4)) (p 5)]
noncomputable def uB (l : List Pos) (n : Nat) : Pos := l.getD n default
structure LexK (cx : Cx) (K : Frag) : Prop where
 inb : K.In cx.base
 nolimit : cx.base.NoLimit
 ga : findIn K (.ref cx.lexC) "__getattribute__" = some (some (.builtin "object.__getattribute__"))
 gk : findIn K (.ref cx.lexC) "__getattr__" = some none
 has : hasDictIn K cx.lexC = true
 toks : findIn K (.ref cx.lexC) yP = some none
 next : ∃ f r, findIn K (.ref cx.lexC) wv = some (some (.ref f)) ∧ typeIn K (.ref f) = some (.type "function") ∧ FnAt cx f r ∧ r.ps = [zY] ∧ zN r.sc zY = true ∧ ∃ p, r.body = bL p ∧ Nat.beq (p 2).endLine (p 3).line = true
 unpop : ∃ f r, findIn K (.ref cx.lexC) wh = some (some (.ref f)) ∧ typeIn K (.ref f) = some (.type "function") ∧ FnAt cx f r ∧ r.ps = [zY, sP] ∧ zN r.sc zY = true ∧ zN r.sc sP = true ∧ ∃ p, r.body = bM p ∧ Nat.beq (p 2).endLine (p 4).line = true
theorem oO {lx tl : Addr} {h : Heap} (lo : xE cx h lx tl) : ∃ dx od, InstAt h lx (instObj cx.lexC dx) cx.lexC (some od) ∧ lookIn yP od = some (some (.ref tl)) ∧ shadowIn (some od) wv = some false ∧ shadowIn (some od) wh = some false := by
 refine yJ (lo) fun dx n kh t e1 e2 => ?_
 obtain a1 : (Value.str "tokens" t).isStr yP = true := by rfl
 obtain a2 : (Value.str "tokens" t).isStr wv = false := by dsimp only [Value.isStr, wv]; rfl
 obtain a3 : (Value.str "tokens" t).isStr wh = false := by dsimp only [Value.isStr, wh]; assumption
 refine wE dx _ (⟨e1, rfl, rfl, e2⟩) ?_ ?_ ?_
 ·rfl
 ·rfl
 ·rfl
theorem oP (X : LexK cx K) {lx tl : Addr} (st : cx.base.StaysIn s.heap) (lo : xE cx s.heap lx tl) (h : Q (.ref tl) { s with toks := s.toks + 1 }) : wpAny (Mod cx) A (getAttr (.ref lx) yP true) Q E s := by
 refine wg (oO lo) fun dx od I h1 _ _ => ?_
 exact get_value (fun a o e => st _ _ (X.inb a o e)) I X.ga (findObj_own X.has X.toks rfl h1) rfl h
structure Entered (cx : Cx) (A : Around) (s : Shared) (env : Env) (ps : List Str) (vals : List Value) (s₁ : Shared) : Prop where
 eq : s₁ = { s with heap := s₁.heap, toks := s₁.toks }
 kp : ∀ b o, s.heap.get? b = some o → s₁.heap.get? b = some o
 ek : EnvOk env
 new : s.heap.get? env.locals = none
 loc : ∀ p ∈ ps.zip vals, env.kindOf p.1 = some .local → zU env s₁.heap p.1 p.2
theorem jM {f : Addr} {r : FnR} {vals : List Value} (F : FnAt cx f r) (hlim : cx.base.NoLimit) (hk : Rm A 0) (st : cx.base.StaysIn s.heap) (hvl : vals.length = r.ps.length)
  (h : ∀ env s₁, (∀ x, env.kindOf x = zD x r.sc) → Entered cx A s env r.ps vals s₁ → wpAny (Mod cx) (A.deeper env) (execs r.body env) (fun f s' => Q (match f with | .ret v => v | _ => .none) s') (fun _ _ => False) s₁) :
  wpAny (Mod cx) A (call (.ref f) vals) Q E s := by
 refine zo fun R_ k_ => ?_
 obtain ⟨o, fd, ho, hd, hbody, hsc, hkind, hco, hgen, hglob, hblt, hclo, hcd, hbind⟩ := F.ex
 refine k_ ?_
 have hlook : ∀ x, fd.scope.names.lookup x = zD x r.sc := fun x => by rw [hsc, wK]
 obtain hcr : s.heap.CodeRec fd.code fd.qualname := by
  refine w9 (hcd) fun c oc vs tq hc hoc r => ?_
  exact ud c oc vs tq hc (st _ _ hoc) r
 refine wpAny_call (codeAny_call_cells (by obtain this := hk.depth; show A.depth < 1000; (first | lia | omega)) (st _ _ ho) hd (hlim.keeps st) hcr hbody (hbind vals hvl) hclo (fun y hy => ?_) (fun s₁ X => ?_) hco hgen hkind)
 ·rw [hlook]
  refine xL (F.kinds y.1 (of_mem_zip hy).1) (fun q => ?_) fun q w => ?_
  ·exact .inl q
  ·exact .inr ⟨q, by rw [hsc]; exact w _⟩
 refine zx (X.done) fun h₁ tk₁ e₁ kp => ?_
 obtain nd : ((r.ps.zip vals).map (·.1)).Nodup := by rw [sM hvl]; exact F.nodup
 refine wpAny_mono (h _ s₁ (fun x => hlook x) ⟨by exact e₁.symm ▸ rfl, fun b o e => by rw [e₁]; exact kp b o e, ⟨hkind, hglob, hblt⟩, Heap.get?_none_of_le (Nat.le_refl _), fun p hp hl => .inl ⟨hl, _, X.toInCall.ns, ti hl _ _ nd hp⟩⟩) (fun _ _ q => q) fun _ _ q => q.elim
theorem qt {g : Heap} : ∀ {us : List Value} {σ : St}, uu cx g us σ → us.length = σ.length
 | [], [], _ => rfl
 | _ :: _, _ :: _, r => by exact length_cons.symm ▸ length_cons.symm ▸ (qt r.2 ..).symm ▸ rfl
 | [], _ :: _, r => r.elim
 | _ :: _, [], r => r.elim
theorem bN (X : LexK cx K) (lx tl : Addr) (hl : cx.lex = some (lx, tl)) : ∃ f, ut cx f ∧
  (∀ (A : Around) (pl : Sem Bool) (s : Shared) (Q : Value × List Value → Shared → Prop) (E : Value → Shared → Prop), cx.base.StaysIn s.heap → xE cx s.heap lx tl → Q (.ref f, [.ref lx]) s → wpAny (Mod cx) A (getMethod (.ref lx) wv pl) Q E s) ∧
  ∀ (A : Around) (M : List Addr) (s : Shared) (σ : St) (t : Tk) (Q E : Value → Shared → Prop), Rm A 0 → Ok cx A M s.heap (t :: σ) →
   (∀ v s', Nx cx A s s' → xl cx (zc M s'.heap) v t.1 t.2 → zq cx s'.heap (zc M s'.heap) σ → Q v s') → wpAny (Mod cx) A (call (.ref f) [.ref lx]) Q E s := by
 refine zo fun R_ k_ => ?_
 obtain ⟨f, r, hf, ht, F, hps, hsl, pp, hbe, b4⟩ := X.next
 refine yq (id F.ex) fun o fd ho hd _ => ?_
 refine k_ ?_
 refine wb f (⟨o, fd, ho, hd⟩) (fun A pl s Q E st lo hq => ?_) (fun A M s σ t Q E hk O hQ => ?_)
 ·refine wg (oO lo) fun dx od I _ h2 _ => ?_
  exact method_fn (fun a o e => st _ _ (X.inb a o e)) I X.ga X.gk hf ht h2 hq
 ·have st : cx.base.StaysIn s.heap := zZ O.stays zE
  obtain lx0 := O.lex
  unfold zq at lx0
  simp only [hl] at lx0
  refine zo fun R_ k_ => ?_
  obtain ⟨lo, hfit, us, ow, tk⟩ := lx0
  refine k_ ?_
  match us, tk with
  | u :: us, ⟨hu, tk⟩ =>
   refine jM F X.nolimit hk st (by refine (hps ..).symm ▸ ?_; rfl) fun env s₁ hkd En => ?_
   ·refine (hbe ..).symm ▸ ?_
    obtain lself : zU env s₁.heap zY (.ref lx) := En.loc (zY, .ref lx) (by rw [hps]; exact mem_cons_self ..) (by rw [hkd]; exact yl hsl)
    obtain kg : (zc M s.heap).StaysIn s₁.heap := fun b o e => En.kp b o (zH e)
    have tX : tl ∈ cx.X := by simp [Cx.X, hl]
    obtain tM : tl ∈ M := O.xin tl tX
    obtain K0 : Kp [] (Fs A) s.heap s₁.heap := .of_all En.kp
    have ow₁ := ow.next K0 (by simp)
    refine wpAny_execs_cons (wpAny_Return_some ?_)
    refine sK (args := []) rfl (by unfold vL; rw [b4]; rfl) ?_
    refine Attribute_any_ ?_ (by rw [arm_eval_Attribute, tg rfl])
    refine wpAny_Name (xF En.ek lself (oP X (zZ st En.kp) (lo.keeps kg) ?_)) (by rfl)
    refine getMethod_builtin (s := { s₁ with toks := s₁.toks + 1 }) ow₁.list.typeIs PySem.F.plainAttrs_list PySem.F.slot_list_pop PySem.F.type_list_pop (fun b e => by (injection e with e; subst e); refine pz (ow₁) fun o e _ hd _ => ?_; exact (zg o e hd)) ?_
    refine callWith_builtin (args := []) rfl (evalArgs_nil3 ?_)
    obtain er : (u :: us).reverse.toArray = us.reverse.toArray.push u := by simp
    rw [er] at ow₁
    refine bJ (s := { s₁ with toks := s₁.toks + 1 }) (by obtain q := yN hfit; rw [length_cons] at q; refine (size_toArray ..).symm ▸ (length_reverse ..).symm ▸ (qt tk ..).symm ▸ ?_; exact q) ow₁ fun h' ow' sb => ?_
    obtain kM : (zc M s.heap).StaysIn (zc M h') := fun b o e => vis_get ((sb.2 b fun q => zQ e (q ▸ tM)).trans (En.kp b o (zH e))) (zQ e)
    refine hQ u _ ⟨by exact En.eq.symm ▸ rfl, fun b o hb e => ?_⟩ (hu.keeps kM) ?_
    ·have e2 := (sb.2 b fun q => hb (q ▸ tX)).trans (En.kp b o e)
     exact ⟨⟨o.slots, e2⟩, fun _ => e2⟩
    ·dsimp only [zq]
     simp only [hl]
     exact ⟨lo.keeps kM, by unfold zi at hfit ⊢; exact Nat.ble_eq_true_of_le (Nat.le_of_succ_le (Nat.le_of_ble_eq_true hfit)), us, ow', tk.keeps kM⟩
theorem bO (X : LexK cx K) (lx tl : Addr) (hl : cx.lex = some (lx, tl)) : ∃ f, ut cx f ∧
  (∀ (A : Around) (pl : Sem Bool) (s : Shared) (Q : Value × List Value → Shared → Prop) (E : Value → Shared → Prop), cx.base.StaysIn s.heap → xE cx s.heap lx tl → Q (.ref f, [.ref lx]) s → wpAny (Mod cx) A (getMethod (.ref lx) wh pl) Q E s) ∧
  ∀ (A : Around) (M : List Addr) (s : Shared) (σ : St) (u : Value) (k : Str) (d : PyData) (Q E : Value → Shared → Prop), Rm A 0 → zi (σ.length + 1) = true → Ok cx A M s.heap σ → xl cx (zc M s.heap) u k d →
   (∀ s', Nx cx A s s' → zq cx s'.heap (zc M s'.heap) ((k, d) :: σ) → Q .none s') → wpAny (Mod cx) A (call (.ref f) [.ref lx, u]) Q E s := by
 refine zo fun R_ k_ => ?_
 obtain ⟨f, r, hf, ht, F, hps, hsl, hsk, pp, hbe, b4⟩ := X.unpop
 refine yq (id F.ex) fun o fd ho hd _ => ?_
 refine k_ ?_
 refine wb f (⟨o, fd, ho, hd⟩) (fun A pl s Q E st lo hq => ?_) (fun A M s σ u k d Q E hk hfit O hu hQ => ?_)
 ·refine wg (oO lo) fun dx od I _ _ h3 => ?_
  exact method_fn (fun a o e => st _ _ (X.inb a o e)) I X.ga X.gk hf ht h3 hq
 ·obtain st : cx.base.StaysIn s.heap := zZ O.stays zE
  have lx0 := O.lex
  unfold zq at lx0
  simp only [hl] at lx0
  obtain ⟨lo, hfit0, us, ow, tk⟩ := lx0
  refine jM F X.nolimit hk st (by rw [hps]; rfl) fun env s₁ hkd En => ?_
  ·refine (hbe ..).symm ▸ ?_
   have lself : zU env s₁.heap zY (.ref lx) := En.loc (zY, .ref lx) (by rw [hps]; exact mem_cons_self ..) (by rw [hkd]; exact yl hsl)
   have ltok : zU env s₁.heap sP u := En.loc (sP, u) (by rw [hps]; exact mem_cons_of_mem _ (mem_cons_self ..)) (by rw [hkd]; exact yl hsk)
   have kg : (zc M s.heap).StaysIn s₁.heap := fun b o e => En.kp b o (zH e)
   have tX : tl ∈ cx.X := by simp [Cx.X, hl]
   obtain tM : tl ∈ M := O.xin tl tX
   obtain K0 : Kp [] (Fs A) s.heap s₁.heap := .of_all En.kp
   have ow₁ := ow.next K0 (by simp)
   refine wpAny_execs_cons (sL rfl rfl b4 (vm En.ek) ?_)
   refine Attribute_any_ ?_ (by rw [arm_eval_Attribute, tg rfl])
   refine wpAny_Name (xF En.ek lself (oP X (zZ st En.kp) (lo.keeps kg) ⟨tl, _, rfl, ow₁, ?_⟩)) (by rfl)
   refine wpAny_Name (xF (s := { s₁ with toks := s₁.toks + 1 }) En.ek ltok ⟨_, ow₁, ?_, fun h' ow' sb => wpAny_execs_nil ?_⟩) (by rfl)
   ·obtain q := yN hfit
    rw [size_toArray, length_reverse, qt tk]; exact Nat.le_of_succ_le ‹_›
   ·obtain kM : (zc M s.heap).StaysIn (zc M h') := fun b o e => vis_get ((sb.2 b fun q => zQ e (q ▸ tM)).trans (En.kp b o (zH e))) (zQ e)
    obtain er : us.reverse.toArray.push u = (u :: us).reverse.toArray := by simp
    rw [er] at ow'
    refine hQ _ ⟨by exact En.eq.symm ▸ rfl, fun b o hb e => ?_⟩ ?_
    ·have e2 := (sb.2 b fun q => hb (q ▸ tX)).trans (En.kp b o e)
     exact ⟨⟨o.slots, e2⟩, fun _ => e2⟩
    ·dsimp only [zq]
     simp only [hl]
     exact ⟨lo.keeps kM, hfit, u :: us, ow', hu.keeps kM, tk.keeps kM⟩
end
section
variable {cx : Cx} {A : Around} {s : Shared} {K : Frag}
theorem bP (T : String) (C : Addr) (o : Obj) (c : ClassData) : Meets (Builtin.«issubclass» ⟨[.ref C, .type T], []⟩)
  (fun _ R s => K.In s.heap ∧ s.heap.get? C = some o ∧ o.data = .cls c ∧ typeOf (.type T) = pure (.type "type") ∧ subIn K (.ref C) (.type T) = some true ∧ R (.ok (.ret (.bool true))) s) :=
 fun prog w A R s ⟨X, ho, hd, ht, hs, hq⟩ => by
  obtain L : Looks (model prog w) s.heap (isSubtype (.ref C) (.type T)) true := looks_subIn X hs
  refine issubclass_outer ?_
  unfold Builtin.«issubclass.nested»
  dsimp only [rawInt]
  rw [ht]
  refine wpAny_bind (wpAny_pure ?_)
  rw [if_pos (by rfl)]
  refine wpAny_bind (wpAny_bind ?_)
  wp_delta
  refine wpAny_bind (Looks.here (Looks.ld ho) ?_)
  refine (hd ..).symm ▸ ?_
  refine wpAny_pure ?_
  refine wpAny_bind (wpAny_pure ?_)
  refine wpAny_ite_true rfl ?_
  exact L.here (wpAny_pure hq)
theorem bQ (l : Addr) (cls : Value) (dict : Option Addr) (sl : Array (Option Value)) (items : Array Value) (n : Nat) (i : Int) (u : Tok) (k : Nat) (y : Value) (hlo : -2 ^ 63 ≤ i) (hhi : i < 2 ^ 63) (hk : seqIndex? i items.size = some k) (hy : items[k]? = some y) :
  Meets (Builtin.«tuple.__getitem__» ⟨[.ref l, .int i u], []⟩)
   (fun _ R s => s.heap.get? l = some { cls := cls, dict := dict, data := .seq items n, slots := sl } ∧ R (.ok (.ret y)) s) :=
 .of_wp fun prog w A R s h => by
  obtain ⟨hp, g, d, tk, os⟩ := s; refine ze (h) fun hl h => ?_
  obtain f1 := AutoSeq1.idx_int
  obtain hf : ¬ (decide (i < -2 ^ 63) || decide (i ≥ 2 ^ 63)) = true := by lia
  wp_walk using wpAny_loadPart' hl
  simp [hk, hy, Option.bind_some]
  refine wpAny_ite_false (by lia) ?_
  wp_walk
  exact zg _ rfl h
theorem bR {x C : Addr} {ox : Obj} {od : Option Obj} {name : Str} {expr : Bool} {g a : Value} (X : K.In s.heap) (I : InstAt s.heap x ox C od)
  (hga : findIn K (.ref C) "__getattribute__" = some (some (.builtin "tuple.__getattribute__"))) (hk : findIn K (.ref C) "__getattr__" = some none) (hsub : subIn K (.ref C) (.type "tuple") = some true) (hf : findObj K C od name = some (.bind g a))
  (h : wpAny (Mod cx) A.in1 (call g [a, .ref x, .ref C]) (fun v s' => wpAny (Mod cx) A (handedOut v) Q E s') (fun _ _ => False) { s with toks := s.toks + 1 }) :
  wpAny (Mod cx) A (getAttr (.ref x) name expr) Q E s := by
 obtain ⟨hh, gg, d, t, os⟩ := s
 obtain L0 := I.type (M := Mod cx)
 obtain L1 := looks_findIn (M := Mod cx) X hga
 obtain L2 := looks_find (M := Mod cx) X I hf
 refine wpAny_bind (wpAny_mkText (wpAny_holding (wpAny_bind (L0.at (wpAny_bind (L1.at ?_))))))
 dsimp only
 rw [show (onTheHeap (.ref C) && Value.builtin "tuple.__getattribute__" == Value.builtin "object.__getattribute__") = false from by rw [show (Value.builtin "tuple.__getattribute__" == Value.builtin "object.__getattribute__") = false from by decide +kernel, Bool.and_false], if_neg (by decide)]
 refine wpAny_bind ((looks_hook (mc := .ref C) X hk).at (wpAny_bind (wpAny_attempt (wpAny_holding ?_))))
 dsimp only [callGetattribute]
 rw [show (expr && onTheHeap (Value.builtin "tuple.__getattribute__")) = false from Bool.and_false _, if_neg (by decide)]
 unfold boundAndCalled
 rw [PySem.F.slot_tuple_getattribute.bind]
 refine wpAny_bind (wpAny_pure ?_)
 refine wpAny_call ?_
 refine codeAny_call_builtin PySem.F.slot_tuple_getattribute.plain PySem.F.entry_tuple_ga ?_
 refine @check_slot (Mod cx) _ _ ⟨hh, gg, d, t + 1, os⟩ "tuple.__getattribute__" "tuple" "__getattribute__" (.ref x) [.str name t] [] _ (by rfl) (by rfl) (L0.andThen (looks_subIn X hsub)) (PySem.F.args_tuple_getattribute_2 _ _) ?_
 refine wpAny_bind (wpAny_pure ?_)
 refine wpAny_bind (wpAny_pure ?_)
 refine wpAny_bind (L0.at (wpAny_bind (L2.at ?_)))
 refine wpAny_bind (wpAny_holding (wpAny_mono h (fun v s' z => wpAny_pure z) fun _ _ z => z.elim))
theorem jN {pl : Sem Bool} {name : Str} {v : Value} {Q : Value × List Value → Shared → Prop} (X : K.In s.heap)
  (e : findCls K (.type "tuple") (.type "type") name = some (.val v)) (hh : handedIn v = true) (h : Q (v, []) { s with toks := s.toks + 1 }) : wpAny (Mod cx) A (getMethod (.type "tuple") name pl) Q E s := by
 obtain hstub : opaqueClassAbove (.type "tuple") = pure none := by unfold opaqueClassAbove; dsimp only; rw [show Manifest.isStub "tuple" = false by rfl]; rfl
 obtain L0 : Looks (Mod cx) s.heap (typeOf (.type "tuple")) (.type "type") := Looks.of_pure rfl
 obtain hg : findIn K (.type "type") "__getattribute__" = some (some (.builtin "type.__getattribute__")) := type_tga
 refine wpAny_bind (wpAny_bind (L0.here ((looks_findIn X hg).here ?_)))
 dsimp only
 refine (if_pos canon_tga ..).symm ▸ ?_
 refine wpAny_bind (wpAny_mono (Q := fun v => Q (v, [])) (E := E) ?_ (fun _ _ z => wpAny_pure z) fun _ _ z => z)
 obtain LO : Looks (Mod cx) s.heap (opaqueClassAbove (.type "tuple")) none := Looks.of_pure hstub
 refine cls_open X LO L0 hg (looks_hook X (r := none) (by rfl)) (by show subIn K _ _ = _; rfl) e
  (wpAny_pure (by show wpAny _ _ (handedOut v) _ _ _; rw [handedOut_of hh]; exact wpAny_pure h))
theorem jO {x : Str} {v : Value} : ∀ {bs : List (Str × Value)}, (bs.map (·.1)).Nodup → (x, v) ∈ bs → bs.lookup x = some v
 | (y, w) :: r, hn, h => by
  obtain hn' := nodup_cons.mp hn
  rw [lookup_cons]
  refine zh (mem_cons.mp h) (fun q => ?_) fun q => ?_
  ·cases q; simp
  ·have : x ≠ y := fun e => hn'.1 (e ▸ mem_map.mpr ⟨_, q, rfl⟩)
   refine (beq_eq_false_iff_ne.mpr this ..).symm ▸ ?_
   exact jO hn'.2 q
structure GetFn (cx : Cx) (f : Addr) (r : FnR) : Prop where
 ex : ∃ o fd, cx.base.get? f = some o ∧ o.data = .func fd ∧ fd.body = .stmts r.body ∧ fd.scope.names = r.sc ∧ fd.scope.kind = .function ∧ fd.scope.isCoroutine = false ∧ fd.scope.isGenerator = false ∧
  fd.globals = mainGlobals ∧ fd.builtins = builtinsNs ∧ cx.base.CodeRec fd.code fd.qualname ∧ ∀ (s : Shared) (vals : List Value), cx.base.StaysIn s.heap → vals.length = r.ps.length → BindsTo s fd ⟨vals, []⟩ (r.ps.zip vals)
 nodup : r.ps.Nodup
 nocell : ∀ x ∈ r.sc, x.2 ≠ .cell
 kinds : ∀ p ∈ r.ps, zD p r.sc = some .local
theorem jP {f : Addr} {r : FnR} {vals : List Value} (F : GetFn cx f r) (hlim : cx.base.NoLimit) (hk : A.depth < 1000) (st : cx.base.StaysIn s.heap) (hvl : vals.length = r.ps.length)
  (h : ∀ A' env s₁, A'.depth = A.depth + 1 → A'.handled = A.handled → (∀ x, env.kindOf x = zD x r.sc) → Entered cx A s env r.ps vals s₁ → wpAny (Mod cx) A' (execs r.body env) (fun f s' => Q (match f with | .ret v => v | _ => .none) s') (fun _ _ => False) s₁) :
  wpAny (Mod cx) A (call (.ref f) vals) Q E s := by
 refine zo fun R_ k_ => ?_
 obtain ⟨o, fd, ho, hd, hbody, hsc, hkind, hco, hgen, hglob, hblt, hcd, hbind⟩ := F.ex
 refine k_ ?_
 have hlook : ∀ x, fd.scope.names.lookup x = zD x r.sc := fun x => by rw [hsc, wK]
 obtain hcr : s.heap.CodeRec fd.code fd.qualname := by
  refine w9 (hcd) fun c oc vs tq hc hoc r => ?_
  exact ud c oc vs tq hc (st _ _ hoc) r
 obtain nd : ((r.ps.zip vals).map (·.1)).Nodup := by rw [sM hvl]; exact F.nodup
 refine wpAny_call (codeAny_call_def hk (st _ _ ho) hd (hlim.keeps st) hcr hbody (hbind s vals st hvl) (by refine (hsc ..).symm ▸ ?_; exact F.nocell) (fun y hy => ?_) (fun h₀ N kp => ?_) hco hgen hkind)
 ·rw [hlook]; exact F.kinds y.1 (of_mem_zip hy).1
 ·refine wpAny_mono (h _ _ _ rfl rfl (fun x => hlook x) ⟨rfl, kp, ⟨hkind, hglob, hblt⟩, Heap.get?_none_of_le (Nat.le_refl _), fun p hp hl => .inl ⟨hl, _, N, ?_⟩⟩) (fun _ _ q => q) fun _ _ q => q.elim
  exact jO (by rw [map_reverse]; exact (List.reverse_perm _).nodup_iff.mpr nd) (mem_reverse.mpr hp)
end
end Mine
end
section
open PySem PySem.W PyProof.Rows PySem.Calls PySem.Spec
set_option maxRecDepth 100000
namespace Mine
variable {h h' : Heap} {x : Str} {o : Obj} {E Q : Value → Shared → Prop} {items : Array Value} {i n : Nat} {k u v : Value} {env : Env} {d : PyData} {s₁ : Shared} {f lx : Addr} {p p2 p3 p4 p5 p6 p7 : Pos} {target : Expr} {r : FnR} {frs : List Env}
noncomputable def vU : Str := "obj"
noncomputable def qu : Str := "issubclass"
noncomputable def qv : Str := "type"
noncomputable def jQ : Str := "__getitem__"
noncomputable def bT (p : Nat → Pos) (b1 b2 : List Stmt) : List Stmt :=
 [.If (.Compare (.Name vU (p 0)) [.Is] [.Constant .none 0 (p 1)] (p 2)) b1 [] (p 3),
  .If (.UnaryOp .Not (.Call (.Name qu (p 4)) [.Call (.Name qv (p 5)) [.Name vU (p 6)] [] (p 7), .Name xO (p 8)] [] (p 9)) (p 10)) b2 [] (p 11),
  .Return (some (.Call (.Attribute (.Name xO (p 12)) jQ (p 13)) [.Name vU (p 14), .Attribute (.Name zY (p 15)) xY (p 16)] [] (p 17))) (p 18)]
structure GetK (cx : Cx) (K : Frag) (r : FnR) : Prop where
 inb : K.In cx.base
 nolimit : cx.base.NoLimit
 g : cx.base.Ns mainGlobals cx.mg
 b : cx.base.Ns builtinsNs cx.mb
 gn : cx.mg qu = none ∧ cx.mg qv = none ∧ cx.mg xO = none
 bv : cx.mb qu = some (.builtin "issubclass") ∧ cx.mb qv = some (.type "type") ∧ cx.mb xO = some (.type "tuple")
 tok : ∃ o c, cx.base.get? cx.tokC = some o ∧ o.data = .cls c
 sub : subIn K (.ref cx.tokC) (.type "tuple") = some true
 ga : findIn K (.ref cx.tokC) "__getattribute__" = some (some (.builtin "tuple.__getattribute__"))
 gk : findIn K (.ref cx.tokC) "__getattr__" = some none
 isc : (clsIn K cx.tokC).isSome = true
 gi : findCls K (.type "tuple") (.type "type") jQ = some (.val (.builtin "tuple.__getitem__"))
 ps : r.ps = [zY, vU, "objtype"]
 ls : zN r.sc zY = true
 lo : zN r.sc vU = true
 gl : zD qu r.sc = some .globalImplicit ∧ zD qv r.sc = some .globalImplicit ∧ zD xO r.sc = some .globalImplicit
 body : ∃ p b1 b2, r.body = bT p b1 b2 ∧ Nat.beq (p 13).endLine (p 17).line = true
structure FieldK (cx : Cx) (K : Frag) (r : FnR) (name : Str) (i : Nat) : Prop where
 ex : ∃ d od dd gc f tk, findIn K (.ref cx.tokC) name = some (some (.ref d)) ∧ specialIn K (.ref d) "__get__" = some (some (.ref f)) ∧ takesIn K (.ref d) = some true ∧ GetFn cx f r ∧
  InstAt cx.base d od gc (some dd) ∧ findIn K (.ref gc) "__getattribute__" = some (some (.builtin "object.__getattribute__")) ∧ hasDictIn K gc = true ∧ findIn K (.ref gc) xY = some none ∧ lookIn xY dd = some (some (.int (i : Nat) tk))
section
variable {cx : Cx} {A : Around} {s : Shared} {K : Frag} {r : FnR}
theorem InstAt.keeps' {x : Addr} {ox : Obj} {C : Addr} {od : Option Obj} (k : h.StaysIn h') (I : InstAt h x ox C od) : InstAt h' x ox C od :=
 ⟨k _ _ I.at_, I.cls, I.no, by
  obtain q := I.dict
  revert q
  cases ox.dict <;> cases od <;> first | exact id | exact fun q => k _ _ q⟩
theorem bU (C : Addr) {c : ClassData} (X : K.In s.heap) (ho : s.heap.get? C = some o) (hd : o.data = .cls c) (hs : subIn K (.ref C) (.type "tuple") = some true) (hq : Q (.bool true) s) :
  wpAny (Mod cx) A (call (.builtin "issubclass") [.ref C, .type "tuple"]) Q E s :=
 call_issubclass (bP (K := K) "tuple" C o c) ⟨X, ho, hd, by kernel_rfl, hs, hq⟩
theorem bV {a : Addr} {C : Addr} {tk : Tok} (X : K.In s.heap) (ho : s.heap.get? a = some o) (hc : o.cls = .ref C) (hd : o.data = .seq items n) (hs : subIn K (.ref C) (.type "tuple") = some true)
  (hv : items[i]? = some v) (hz : items.size = 2) (hi : i < 2) (hq : Q v s) : wpAny (Mod cx) A (call (.builtin "tuple.__getitem__") [.ref a, .int (i : Nat) tk]) Q E s := by
 obtain ⟨cls, dd, data, sl⟩ := o
 simp only at hc hd
 subst hc hd
 obtain L0 : Looks (Mod cx) s.heap (typeOf (.ref a)) (.ref C) := (Looks.ld ho).andThen .now
 refine wpAny_call (codeAny_call_builtin PySem.F.slot_tuple_getitem.plain PySem.F.entry_tuple_getitem ?_)
 refine @check_slot (Mod cx) _ _ s "tuple.__getitem__" "tuple" "__getitem__" (.ref a) [.int (i : Nat) tk] [] _ (by rfl) (by rfl) (L0.andThen (looks_subIn X hs)) (PySem.F.args_tuple_getitem_2 _ _) ?_
 obtain hk : seqIndex? (i : Int) items.size = some i := by
  rw [hz]
  rcases i with _ | _ | i
  ·rfl
  ·rfl
  ·lia
 refine wpAny_mono (bQ a _ _ _ items n i tk i v (by lia) (by lia) hk hv _ _ _ (wants Q E) s ⟨ho, hq⟩) (fun fin s' z => ?_) fun _ _ z => z
 exact z
theorem vn {pos : Pos} (ek : EnvOk env) (l : zU env s.heap x u) (hd : (x == ("__debug__" : Str)) = false) (h : Q u s) : wpAny (Mod cx) A (eval (.Name x pos) env) Q E s := wpAny_Name (xF ek l h) hd
theorem qw {pos : Pos} (X : GetK cx K r) (ek : EnvOk env) (st : cx.base.StaysIn s.heap) (hx : env.kindOf x = some .globalImplicit) (hd : (x == ("__debug__" : Str)) = false)
  (hm : cx.mg x = none) (hb : cx.mb x = some u) (h : Q u s) : wpAny (Mod cx) A (eval (.Name x pos) env) Q E s :=
 Name_function_global ek.kind hx (loadGlobal_builtin (by rw [ek.globals]; exact X.g.keeps st) hm (by rw [ek.builtins]; exact X.b.keeps st) hb h) hd
theorem bW {A' : Around} {d x : Addr} {od dd ox : Obj} {gc : Addr} {tk : Tok} {Q : Flow → Shared → Prop} (X : GetK cx K r)
  (ga : findIn K (.ref gc) "__getattribute__" = some (some (.builtin "object.__getattribute__"))) (hdct : hasDictIn K gc = true) (hni : findIn K (.ref gc) xY = some none) (hl : lookIn xY dd = some (some (.int (i : Nat) tk))) (hi : i < 2)
  (st : cx.base.StaysIn s₁.heap) (I : InstAt s₁.heap d od gc (some dd)) (ho : s₁.heap.get? x = some ox) (hc : ox.cls = .ref cx.tokC) (hd : ox.data = .seq items n) (hsz : items.size = 2) (hv : items[i]? = some v)
  (ek : EnvOk env) (hkd : ∀ x, env.kindOf x = zD x r.sc) (l1 : zU env s₁.heap zY (.ref d)) (l2 : zU env s₁.heap vU (.ref x)) (I2 : ∃ od', InstAt s₁.heap x ox cx.tokC od')
  (hQ : ∀ tk, Q (.ret v) { s₁ with toks := tk }) : wpAny (Mod cx) A' (execs r.body env) Q E s₁ := by
 refine y5 (X.body) fun pp b1 b2 hbe e11 => ?_
 ·refine (hbe ..).symm ▸ ?_
  obtain ⟨od', Ix⟩ := I2
  refine zx (X.tok) fun o c hto htd => ?_
  refine wpAny_execs_cons (wpAny_If (wpAny_isTrue_Compare1 (vn ek l2 (by decide) (wpAny_Constant_none (wpAny_is_other rfl (by intro q; injection q) (wpAny_truthy_bool ?_))))))
  refine wpAny_execs_nil ?_
  refine wpAny_execs_cons (wpAny_If (wpAny_isTrue_Not (wpAny_isTrue_value (Call_Name rfl (qw X ek st (by rw [hkd]; exact X.gl.1) (by rfl) X.gn.1 X.bv.1 ?_)) (by rfl))))
  refine callWith_builtin rfl (evalArgs_plain (spliced_cons (Call_Name rfl (qw X ek st (by rw [hkd]; exact X.gl.2.1) (by rfl) X.gn.2.1 X.bv.2.1 (PySem.callWith_type rfl (evalArgs_plain (spliced_cons (vn ek l2 (by decide) (spliced_nil ?_)))))))))
  refine kto_own Ix (spliced_cons (qw X ek st (by rw [hkd]; exact X.gl.2.2) (by decide) X.gn.2.2 X.bv.2.2 (spliced_nil ?_)))
  refine bU (K := K) _ (fun a o e => st _ _ (X.inb a o e)) (st _ _ hto) htd X.sub (wpAny_truthy_bool (wpAny_execs_nil ?_))
  refine wpAny_execs_cons (wpAny_Return_some ?_)
  refine sK rfl (by unfold vL; refine (e11 ..).symm ▸ ?_; rfl) (qw X ek st (by rw [hkd]; exact X.gl.2.2) (by decide) X.gn.2.2 X.bv.2.2 ?_)
  refine jN (fun a o e => st _ _ (X.inb a o e)) X.gi rfl ?_
  refine callWith_builtin rfl (evalArgs_plain (spliced_cons (vn (s := { s₁ with toks := s₁.toks + 1 }) ek l2 (by decide) (spliced_cons ?_))))
  refine Attribute_any_ ?_ (by rw [arm_eval_Attribute, tg rfl])
  refine vn (s := { s₁ with toks := s₁.toks + 1 }) ek l1 (by rfl) (get_value (s := { s₁ with toks := s₁.toks + 1 }) (fun a o e => st _ _ (X.inb a o e)) I ga (findObj_own hdct hni rfl hl) rfl (spliced_nil ?_))
  refine bV (s := { s₁ with toks := s₁.toks + 1 + 1 }) (K := K) (C := cx.tokC) (fun a o e => st _ _ (X.inb a o e)) ho hc hd X.sub hv hsz hi ?_
  exact hQ _
theorem bX {g : Heap} {x : Value} {as : List Addr} (r : Reads g x d as) : handedIn x = true := by cases r <;> rfl
theorem jR {name : Str} (X : GetK cx K r) (F : FieldK cx K r name i) (hi : i < 2) {k : Str} {g : Heap} (hk : Rm A 0) (st : cx.base.StaysIn s.heap) (kg : g.StaysIn s.heap) (T : xl cx g u k d)
  (hQ : ∀ t x v h' tk, (∃ as, Reads g x d as) → (#[Value.str k t, x])[i]? = some v → (∀ b o, s.heap.get? b = some o → h'.get? b = some o) → Q v { s with heap := h', toks := tk }) : wpAny (Mod cx) A (getAttr u name true) Q E s := by
 refine zo fun R_ k_ => ?_
 refine pC (T) fun a x t n as W0 W1 rd => ?_
 obtain rfl := W0
 refine pA (W1) fun o dx od h1 h2 h3 h4 h5 h6 => ?_
 obtain ⟨de, ode, dd, gc, f, tk, f1, f2, f3, f4, f5, f6, f7, f8, f9⟩ := F.ex
 have Ix : InstAt s.heap a o cx.tokC (some od) := ⟨kg _ _ h1, h2, by unfold notCls; rw [h3], by refine (h4 ..).symm ▸ ?_; exact kg _ _ h5⟩
 refine zd ((by
  rcases i with _ | _ | i
  ·exact ⟨_, rfl⟩
  ·exact ⟨_, rfl⟩
  ·lia) : ∃ v, (#[Value.str k t, x])[i]? = some v) fun v hv => ?_
 refine k_ ?_
 have hh : handedIn v = true := by
  rcases i with _ | _ | i
  ·refine Option.some.inj hv ▸ ?_; rfl
  ·refine Option.some.inj hv ▸ ?_; exact bX rd
  ·lia
 refine bR (fun a o e => st _ _ (X.inb a o e)) Ix X.ga X.gk X.sub (findObj_data X.isc f1 f2 f3) ?_
 refine jP f4 X.nolimit (by obtain this := hk.depth; show A.depth < 1000; lia) (s := { s with toks := s.toks + 1 }) st (by rw [X.ps]; rfl) fun A' env s₁ _ _ hkd En => ?_
 obtain st₁ : cx.base.StaysIn s₁.heap := zZ st En.kp
 refine bW (v := v) X f6 f7 f8 f9 hi st₁ (InstAt.keeps' st₁ f5) (En.kp _ _ (kg _ _ h1)) h2 h3 rfl hv En.ek hkd ?_ ?_ ⟨_, InstAt.keeps' En.kp Ix⟩ fun tk => ?_
 ·exact En.loc (zY, _) (by rw [X.ps]; exact mem_cons_self ..) (by rw [hkd]; exact yl X.ls)
 ·exact En.loc (vU, _) (by rw [X.ps]; exact mem_cons_of_mem _ (mem_cons_self ..)) (by rw [hkd]; exact yl X.lo)
 ·refine handed_on hh ?_
  rw [En.eq]
  exact hQ t x v _ _ ⟨_, rd⟩ hv En.kp
theorem bY (X : GetK cx K r) (F : FieldK cx K r z6 0) (A : Around) (s : Shared) (g : Heap) (u : Value) (k : Str) (d : PyData) (Q E : Value → Shared → Prop) (hk : Rm A 0) (st : cx.base.StaysIn s.heap) (kg : g.StaysIn s.heap) (T : xl cx g u k d)
  (hQ : ∀ t h' tk, (∀ b o, s.heap.get? b = some o → h'.get? b = some o) → Q (.str k t) { s with heap := h', toks := tk }) : wpAny (Mod cx) A (getAttr u z6 true) Q E s :=
 jR X F (by decide) hk st kg T fun t x v h' tk _ hv kp => by refine Option.some.inj hv ▸ ?_; exact hQ _ _ _ kp
theorem bZ (X : GetK cx K r) (F : FieldK cx K r z7 1) (A : Around) (s : Shared) (g : Heap) (u : Value) (k : Str) (d : PyData) (Q E : Value → Shared → Prop) (hk : Rm A 0) (st : cx.base.StaysIn s.heap) (kg : g.StaysIn s.heap) (T : xl cx g u k d)
  (hQ : ∀ x h' tk, (∃ as, Reads g x d as) → (∀ b o, s.heap.get? b = some o → h'.get? b = some o) → Q x { s with heap := h', toks := tk }) : wpAny (Mod cx) A (getAttr u z7 true) Q E s :=
 jR X F (by decide) hk st kg T fun t x v h' tk rd hv kp => by refine Option.some.inj hv ▸ ?_; exact hQ _ _ _ rd kp
end
theorem b8 : builtinKind "tuple.__new__" = some .builtinFn := by decide +kernel
theorem b9 : splitId "tuple.__new__" = some ("tuple", "__new__") := by decide +kernel
theorem Ty (c a : Value) : argsOk "tuple.__new__" ⟨[c, a], []⟩ := by unfold argsOk; kernel_rfl
structure TokNew (cx : Cx) (K : Frag) : Prop where
 inb : K.In cx.base
 obj : ∃ oc od cd sl, cx.base.get? cx.tokC = some ⟨oc, od, .cls cd, sl⟩ ∧ cd.hasDel = false ∧ cd.mro.isEmpty = false
 made : Looks (Mod cx) cx.base (Bind.madeBy (.ref cx.tokC)) none
 base : Looks (Mod cx) cx.base (Bind.staticBase (.ref cx.tokC)) (.type "tuple")
 madeT : Looks (Mod cx) cx.base (Bind.madeBy (.type "tuple")) (some "tuple.__new__")
 self : Looks (Mod cx) cx.base (isSubtype (.ref cx.tokC) (.ref cx.tokC)) true
 top : Looks (Mod cx) cx.base (isSubtype (.ref cx.tokC) (.type "object")) true
 tup : Looks (Mod cx) cx.base (isSubtype (.ref cx.tokC) (.type "tuple")) true
 call : Looks (Mod cx) cx.base (specialOf (.ref cx.tokC) "__call__") (some (.builtin "type.__call__"))
 typ : Looks (Mod cx) cx.base (isInstance (.ref cx.tokC) (.type "type")) true
 init : Looks (Mod cx) cx.base (typeLookup (.ref cx.tokC) "__init__") (some (.builtin "object.__init__"))
 reads : readsIn K cx.tokC (.type "type") = true
section
variable {cx : Cx} {A : Around} {s : Shared} {K : Frag} {r : FnR}
theorem ad (X : TokNew cx K) {t : Addr} (st : cx.base.StaysIn s.heap) (ho : s.heap.get? t = some o) (hc : o.cls = .type "tuple") (hd : o.data = .seq items n) (hz : items.size = 2)
  (hq : ∀ h' a dx, (∀ b o, s.heap.get? b = some o → h'.get? b = some o) → (s.heap.get? dx = none ∧ s.heap.get? a = none) → h'.get? dx = some emptyDict → (∃ m, h'.get? a = some { cls := .ref cx.tokC, dict := some dx, data := .seq items m }) → Q (.ref a) { s with heap := h' }) :
  wpAny (Mod cx) A (call (.builtin "tuple.__new__") [.ref cx.tokC, .ref t]) Q E s := by
 refine w9 (X.obj) fun oc od cd sl hC e1 e2 => ?_
 obtain hC' := st _ _ hC
 obtain made := X.made.keeps st
 obtain base := X.base.keeps st
 obtain madeT := X.madeT.keeps st
 obtain tup := X.tup.keeps st
 obtain init := X.init.keeps st
 obtain isT : Looks (Mod cx) s.heap (isType (.ref cx.tokC)) true := by
  intro A Q E s' k h
  exact wpAny_bind (wpAny_loadPart (k _ _ hC') (wpAny_pure h))
 obtain here : Looks (Mod cx) s.heap (Bind.madeHere "tuple.__new__" (.ref cx.tokC)) () := base.andThen (madeT.andThen (Looks.of_pure (by simp only [Option.map_some, bne_self_eq_false, Bool.false_eq_true, if_false])))
 refine wpAny_call (codeAny_call_builtin PySem.F.plain_tuple_new PySem.F.entry_tuple_new ?_)
 simp only [checkBuiltinCall, b8, b9]
 repeat (first | (with_reducible refine wpAny_collect_seq t (.inr rfl) ho hc hd (fun h' kp => ?_) (by rw [hz]; decide)) | simp only [beq_self_eq_true, if_true, bne_self_eq_false, Bool.not_true, Bool.false_eq_true, if_false] | lk)
 rw [Array.toArray_toList]
 rw [if_neg (by rw [hz]; decide)]
 refine wpAny_bind (wpAny_alloc (wpAny_bind (wpAny_bind (wpAny_load (Heap.get?_push_of_some _ (Heap.get?_push_of_some _ (kp _ _ hC'))) (wpAny_pure ?_)))))
 refine (e1 ..).symm ▸ ?_
 refine wpAny_pure (wpAny_pure ?_)
 obtain q := hq ((h'.push emptyDict).push { cls := .ref cx.tokC, dict := some h'.objs.size, data := .seq items }) (h'.push emptyDict).objs.size h'.objs.size (fun b o e => Heap.get?_push_of_some _ (Heap.get?_push_of_some _ (kp _ _ e))) ⟨by
  cases e : s.heap.get? h'.objs.size with
  | none => rfl
  | some o => exact absurd (Heap.lt_size (kp _ _ e)) (Nat.lt_irrefl _), by
  cases e : s.heap.get? (h'.push emptyDict).objs.size with
  | none => rfl
  | some o => exact absurd (Heap.lt_size (Heap.get?_push_of_some emptyDict (kp _ _ e))) (Nat.lt_irrefl _)⟩ (Heap.get?_push_of_some _ (Heap.get?_push_size _ rfl)) ⟨_, Heap.get?_push_size _ rfl⟩
 exact q
end
theorem ae (a b c : Value) : argsOk "object.__init__" ⟨[a, b, c], []⟩ := by unfold argsOk; kernel_rfl
section
variable {cx : Cx} {A : Around} {s : Shared} {K : Frag} {r : FnR}
theorem af (X : TokNew cx K) {sm : Addr} {obj : Value} {rest : List Value} (hn : findCls K (.ref cx.tokC) (.type "type") "__new__" = some (.get (.builtin "staticmethod.__get__") (.ref sm) obj (.ref cx.tokC))) (hr : recIn K sm "staticmethod" = some (.ref f :: rest))
  (st : cx.base.StaysIn s.heap)
  (h : ∀ A' tk, A'.depth = A.depth + 1 → A'.handled = A.handled → wpAny (Mod cx) A' (call (.ref f) [.ref cx.tokC, k, v]) (fun o s' => ∃ a oo, o = .ref a ∧ cx.base.StaysIn s'.heap ∧ s'.heap.get? a = some oo ∧ oo.cls = .ref cx.tokC ∧ Q (.ref a) s') (fun _ _ => False) { s with toks := tk }) :
  wpAny (Mod cx) A (call (.ref cx.tokC) [k, v]) Q E s := by
 refine w9 (X.obj) fun oc od cd sl hC e1 e2 => ?_
 obtain hC' := st _ _ hC
 obtain call := X.call.keeps st
 obtain typ := X.typ.keeps st
 obtain made := X.made.keeps st
 obtain XK : K.In s.heap := fun a o e => st _ _ (X.inb a o e)
 obtain ⟨hh, g, d, t, os⟩ := s
 refine wpAny_call ?_
 refine codeAny_of_tree ?_
 refine nd_load hC' ?_
 show wpAny _ _ (callAny.viaDunder (.ref cx.tokC) _) _ _ _
 refine wpAny_bind (call.at ?_)
 dsimp only
 refine (tc_bind ..).symm ▸ ?_
 refine wpAny_bind (wpAny_pure (wpAny_bind (wpAny_pure ?_)))
 refine wpAny_pure (a := Fin.again (.call (.builtin "type.__call__") ⟨.ref cx.tokC :: [k, v], []⟩)) (And.intro rfl ?_)
 refine codeAny_call_builtin_at (Code.quiet_builtin _ (by decide +kernel)) entry_typeCall (check_slot tc_kind tc_split typ (tc_args _ _ _) ?_)
 obtain hm : Looks (Mod cx) hh (mroOf (.ref cx.tokC)) cd.mro := ((Looks.ld (part := none) hC').andThen .now).andThen .now
 repeat (first | simp only [e2, Bool.false_eq_true, if_false] | with_reducible refine cls_bind (mc := .type "type") XK X.reads hn ?_ | with_reducible refine wpAny_call ?_ | lk)
 refine sm_get (s := { heap := hh, gens := g, drawn := d, toks := t + 1, os := os }) XK hr (handed_on rfl ?_)
 refine wpAny_bind (wpAny_holding (wpAny_mono (h _ _ rfl rfl) (fun o s' z => ?_) fun _ _ z => z.elim))
 obtain ⟨a, oo, W0, st', ho, hc, hq⟩ := z
 refine (W0) ▸ ?_
 obtain ⟨h2, g2, d2, t2, os2⟩ := s'
 obtain t1 : Looks (Mod cx) h2 (typeOf (.ref a)) (.ref cx.tokC) := hc ▸ (Looks.ld ho).andThen .now
 obtain i1 : Looks (Mod cx) h2 (isInstance (.ref a) (.ref cx.tokC)) true := t1.andThen (X.self.keeps st')
 obtain i2 : Looks (Mod cx) h2 (isInstance (.ref a) (.type "object")) true := t1.andThen (X.top.keeps st')
 obtain init := X.init.keeps st'
 obtain made2 := X.made.keeps st'
 refine wpAny_bind (i1.here ?_)
 refine wpAny_bind (wpAny_holding ?_)
 obtain b1 : Looks (Mod cx) h2 (bindSpecial (.builtin "object.__init__") (.ref a)) (.builtin "object.__init__", [.ref a]) := Looks.of_pure (oi_bind _)
 repeat (first | with_reducible refine wpAny_call ?_ | lk)
 refine codeAny_call_builtin oi_plain entry_oi (@check_slot (Mod cx) _ _ ⟨h2, g2, d2, t2, os2⟩ "object.__init__" "object" "__init__" (.ref a) [k, v] [] _ oi_kind oi_split i2 (ae _ _ _) ?_)
 unfold Builtin.«object.__init__»
 repeat (first | simp only [Bool.false_eq_true, if_false, bne_self_eq_false] | lk)
 exact hq
end
noncomputable def sQ : Str := "_cls"
noncomputable def jS : Str := "__new__"
noncomputable def ag (d : Str) (p : Nat → Pos) : List Stmt :=
 [.Expr (.Constant (.str d) 0 (p 0)) (p 1), .Return (some (.Call (.Attribute (.Name xO (p 2)) jS (p 3)) [.Name sQ (p 4), .Tuple [.Name z6 (p 5), .Name z7 (p 6)] 0 (p 7)] [] (p 8))) (p 9)]
structure NewK (cx : Cx) (K : Frag) : Prop where
 cls : TokNew cx K
 nolimit : cx.base.NoLimit
 g : cx.base.Ns mainGlobals cx.mg
 b : cx.base.Ns builtinsNs cx.mb
 gn : cx.mg xO = none
 bv : cx.mb xO = some (.type "tuple")
 gi : findCls K (.type "tuple") (.type "type") jS = some (.val (.builtin "tuple.__new__"))
 ex : ∃ sm f obj rest r, findCls K (.ref cx.tokC) (.type "type") "__new__" = some (.get (.builtin "staticmethod.__get__") (.ref sm) obj (.ref cx.tokC)) ∧ recIn K sm "staticmethod" = some (.ref f :: rest) ∧ GetFn cx f r ∧
  r.ps = [sQ, z6, z7] ∧ zN r.sc sQ = true ∧ zN r.sc z6 = true ∧ zN r.sc z7 = true ∧ zD xO r.sc = some .globalImplicit ∧ ∃ d p, r.body = ag d p ∧ Nat.beq (p 3).endLine (p 8).line = true
section
variable {cx : Cx} {A : Around} {s : Shared} {K : Frag}
theorem ah (X : NewK cx K) (hk : A.depth + 2 < 1000) (st : cx.base.StaysIn s.heap)
  (hq : ∀ a dx h' tk, (∀ b o, s.heap.get? b = some o → h'.get? b = some o) → (s.heap.get? dx = none ∧ s.heap.get? a = none) → h'.get? dx = some emptyDict → (∃ m, h'.get? a = some { cls := .ref cx.tokC, dict := some dx, data := .seq #[k, v] m }) → Q (.ref a) { s with heap := h', toks := tk }) :
  wpAny (Mod cx) A (call (.ref cx.tokC) [k, v]) Q E s := by
 refine zo fun R_ k_ => ?_
 obtain ⟨sm, f, obj, rest, r, hn, hr, F, hps, l1, l2, l3, hg, dd, pp, hbe, e6⟩ := X.ex
 refine k_ ?_
 refine af X.cls hn hr st fun A' tk hd hh => ?_
 refine jP F X.nolimit (by lia) (s := { s with toks := tk }) st (by refine (hps ..).symm ▸ ?_; rfl) fun A₂ env s₀ _ _ hkd En₀ => ?_
 have En : Entered cx A' { s with toks := tk } env r.ps [.ref cx.tokC, k, v] { s₀ with toks := s₀.toks + 1 } := ⟨by rw [En₀.eq], En₀.kp, En₀.ek, En₀.new, En₀.loc⟩
 generalize hs1 : ({ s₀ with toks := s₀.toks + 1 } : Shared) = s₁ at En
 have st₁ : cx.base.StaysIn s₁.heap := zZ st En.kp
 obtain XK : K.In s₁.heap := fun a o e => st₁ _ _ (X.cls.inb a o e)
 ·refine (hbe ..).symm ▸ ?_
  obtain lc : zU env s₁.heap sQ (.ref cx.tokC) := En.loc (sQ, _) (by refine (hps ..).symm ▸ ?_; exact mem_cons_self ..) (by rw [hkd]; exact yl l1)
  obtain lk : zU env s₁.heap z6 k := En.loc (z6, _) (by refine (hps ..).symm ▸ ?_; exact mem_cons_of_mem _ (mem_cons_self ..)) (by rw [hkd]; exact yl l2)
  obtain lv : zU env s₁.heap z7 v := En.loc (z7, _) (by refine (hps ..).symm ▸ ?_; exact mem_cons_of_mem _ (mem_cons_of_mem _ (mem_cons_self ..))) (by rw [hkd]; exact yl l3)
  obtain bn : ∀ {Q' E' : Value → Shared → Prop} {p : Pos}, Q' (.type "tuple") s₁ → wpAny (Mod cx) A₂ (eval (.Name xO p) env) Q' E' s₁ := fun h =>
   Name_function_global En.ek.kind (by rw [hkd]; exact hg) (loadGlobal_builtin (by rw [En.ek.globals]; exact X.g.keeps st₁) X.gn (by rw [En.ek.builtins]; exact X.b.keeps st₁) X.bv h) (by rfl)
  refine wpAny_execs_cons (wpAny_Expr (wpAny_Constant_str ?_) (vm En.ek) rfl)
  refine (hs1 ..).symm ▸ ?_
  refine wpAny_execs_cons (wpAny_Return_some ?_)
  refine sK rfl (by unfold vL; refine (e6 ..).symm ▸ ?_; rfl) (bn ?_)
  refine jN XK X.gi rfl ?_
  refine callWith_builtin rfl (evalArgs_plain (spliced_cons (vn (s := { s₁ with toks := s₁.toks + 1 }) En.ek lc (by rfl) (spliced_cons ?_))))
  refine wpAny_Tuple (k := 0) (spliced_cons (vn (s := { s₁ with toks := s₁.toks + 1 }) En.ek lk (by rfl) (spliced_cons (vn (s := { s₁ with toks := s₁.toks + 1 }) En.ek lv (by rfl) (spliced_nil ⟨by show 2 ≤ sizeLine; decide, spliced_nil ?_⟩)))))
  have kp : ∀ b o, s₁.heap.get? b = some o → (s₁.heap.push { cls := .type "tuple", data := .seq [k, v].toArray }).get? b = some o := fun b o e => Heap.get?_push_of_some _ e
  refine ad (s := { s₁ with heap := s₁.heap.push { cls := .type "tuple", data := .seq [k, v].toArray }, toks := s₁.toks + 1 }) X.cls (zZ st₁ kp) (Heap.get?_push_size _ rfl) rfl rfl rfl fun h' a dx kp' hnew hdx hx => ?_
  refine zd (hx) fun m hx => ?_
  have kp2 : ∀ b o, s.heap.get? b = some o → h'.get? b = some o := fun b o e => kp' _ _ (kp _ _ (En.kp _ _ e))
  refine uY a _ rfl (zZ st kp2) hx rfl ?_
  have hnew2 : s.heap.get? dx = none ∧ s.heap.get? a = none := by
   constructor
   ·cases e : s.heap.get? dx with
    | none => rfl
    | some o => have q := hnew.1; replace q := (kp _ _ (En.kp _ _ e) ..) ▸ q; injection q
   ·cases e : s.heap.get? a with
    | none => rfl
    | some o => have q := hnew.2; replace q := (kp _ _ (En.kp _ _ e) ..) ▸ q; injection q
  obtain q := hq a dx h' (s₁.toks + 1) kp2 hnew2 hdx ⟨m, hx⟩
  refine (En.eq ..).symm ▸ ?_
  exact q
end
section
variable {cx : Cx} {A : Around} {s : Shared} {K : Frag}
theorem ai {x dx C : Addr} {name : Str} {Q : Unit → Shared → Prop} (X : K.In s.heap) (hx : s.heap.get? x = some (instObj C dx)) (hdx : s.heap.get? dx = some emptyDict)
  (hs : findIn K (.ref C) "__setattr__" = some (some (.builtin "object.__setattr__"))) (hp : plainOver K C = true) (ht : takerIn K C name = some none) (hh : (clsIn K C).any (·.hasDict) = true)
  (h : ∀ h' kh t n tk, h'.get? dx = some (dictOf [⟨kh, .str name t, v⟩] n) → Heap.SameBut dx s.heap h' → Q () { s with heap := h', toks := tk }) :
  wpAny (Mod cx) A (setAttr (.ref x) name v) Q E s := by
 obtain I : InstAt s.heap x (instObj C dx) C (some emptyDict) := ⟨hx, rfl, rfl, hdx⟩
 refine set_plain X I hs ?_
 refine osa_open (s := { s with toks := s.toks + 1 }) X I hp ht fun b => ?_
 refine zb (any_some hh) fun cd hc hd' => ?_
 refine wpAny_bind (wpAny_pure (wpAny_bind (wpAny_bind (wpAny_loadPart (s := { s with toks := s.toks + 1 }) hx (wpAny_bind (Looks.here (s := { s with toks := s.toks + 1 }) (looks_clsIn X hc) ?_))))))
 refine (hd' ..).symm ▸ ?_
 refine wpAny_pure (a := some dx) (wpAny_bind (wpAny_pure (wpAny_bind ?_)))
 refine wpAny_bind (wpAny_bind (wpAny_askSetting (wpAny_pure (wpAny_bind (wpAny_mkText (wpAny_bind (wpAny_loadPart (s := { s with toks := s.toks + 1 + 1 }) hdx ?_)))))))
 dsimp only
 rw [aRefKeyMayBeTheName_at]
 rw [if_neg (by simp)]
 obtain D' : ∀ kh k, (s.heap.update dx (Obj.putName name kh k v)).get? dx = some (dictOf [⟨kh, k, v⟩] 1) := fun kh k => Heap.get?_update_self (Obj.putName name kh k v) hdx rfl
 refine wpAny_updatePart (s := { s with toks := s.toks + 1 + 1 }) hdx ?_
 refine wpAny_bind (wpAny_lookBehind (D' _ _) (pastItsLine_dict (by show 1 ≤ sizeLine + 1; decide)) ?_)
 exact wpAny_pure (h _ _ _ _ _ (D' _ _) (Heap.SameBut.update ..))
end
noncomputable def xn : Str := "Token"
section
variable {cx : Cx} {A : Around} {s : Shared} {K : Frag} {env : Env}
theorem jT (X : NewK cx K) (hkp : keepIn K (.ref cx.tokC) = true) (hm : cx.mg xn = some (.ref cx.tokC)) (ek : EnvOk env) (hx : env.kindOf xn = some .globalImplicit) {e₁ e₂ : Expr} {pos : Pos} (hk : A.depth + 2 < 1000) (st : cx.base.StaysIn s.heap)
  (h1 : (!(xb e₁)) = true) (h2 : (!(xb e₂)) = true)
  (h : wpAny (Mod cx) A (eval e₁ env) (fun k s₁ => wpAny (Mod cx) A (eval e₂ env) (fun v s₂ => cx.base.StaysIn s₂.heap ∧ ∀ a dx h' tk, (∀ b o, s₂.heap.get? b = some o → h'.get? b = some o) → (s₂.heap.get? dx = none ∧ s₂.heap.get? a = none) → h'.get? dx = some emptyDict →
    (∃ m, h'.get? a = some { cls := .ref cx.tokC, dict := some dx, data := .seq #[k, v] m }) → Q (.ref a) { s₂ with heap := h', toks := tk }) E s₁) E s) :
  wpAny (Mod cx) A (eval (.Call (.Name xn p) [e₁, e₂] [] pos) env) Q E s := by
 obtain XK : K.In s.heap := fun a o e => st _ _ (X.cls.inb a o e)
 refine Call_Name rfl (Name_function_global ek.kind hx (loadGlobal_global (by rw [ek.globals]; exact X.g.keeps st) hm ?_) (by rfl))
 refine callWith_K (h₀ := s.heap) XK hkp ?_ (wL h1) (by rw [wL h2]; rfl)
 refine (wL h1 ..).symm ▸ (wL h2 ..).symm ▸ ?_
 refine spliced_cons (wpAny_mono h (fun k s₁ h₁ => ?_) fun _ _ z => z)
 refine spliced_cons (wpAny_mono h₁ (fun v s₂ h₂ => ?_) fun _ _ z => z)
 refine ze (h₂) fun st₂ h₂ => ?_
 exact spliced_nil ⟨fun a o e => st₂ _ _ (X.cls.inb a o e), ah X hk st₂ fun a dx h' tk kp hw hd ha => h₂ a dx h' tk kp hw hd ha⟩
end
section
variable {cx : Cx} {A : Around} {s : Shared} {K : Frag} {env : Env}
noncomputable def tj (cx : Cx) (h₀ h : Heap) (a : Addr) (k v : Value) : Prop := ∃ dx m, (h₀.get? dx = none ∧ h₀.get? a = none) ∧ h.get? dx = some emptyDict ∧ h.get? a = some { cls := .ref cx.tokC, dict := some dx, data := .seq #[k, v] m }
theorem tj.next {h₀ : Heap} {a L : Addr} {xs : Array Value} (T : tj cx h₀ h a k v) (ow : zI h L xs) (e : ∀ b o, b ≠ L → h.get? b = some o → h'.get? b = some o) : tj cx h₀ h' a k v := by
 refine zo fun R_ k_ => ?_
 refine yq (T) fun dx m hw h1 h2 => ?_
 obtain ⟨o, ho, hc, _, n, hd⟩ := ow
 refine k_ ?_
 refine wc dx m hw (e _ _ (fun q => ?_) h1) (e _ _ (fun q => ?_) h2)
 ·subst q; replace ho := (h1 ..) ▸ ho; (injection ho with ho; subst ho); injection hd
 ·subst q; rw [h2] at ho; (injection ho with ho; subst ho); injection hc
theorem aj (X : NewK cx K) (XL : LexK cx K) (hkp : keepIn K (.ref cx.tokC) = true) (hm : cx.mg xn = some (.ref cx.tokC)) (ek : EnvOk env) (hx : env.kindOf xn = some .globalImplicit) (hk : A.depth + 2 < 1000)
  {apos pos : Pos} {tl : Addr} {xs : Array Value} {Q : Flow → Shared → Prop} (hline : Nat.beq apos.endLine pos.line = true) (hsz : xs.size ≤ sizeLine)
  (st : cx.base.StaysIn s.heap) (lo : xE cx s.heap lx tl) (ow : zI s.heap tl xs) (ls : zU env s.heap zY (.ref lx)) (l1 : zU env s.heap z6 k) (l2 : zU env s.heap z7 v)
  (hQ : ∀ a h' tk, zI h' tl (xs.push (.ref a)) → tj cx s.heap h' a k v → (∀ b o, b ≠ tl → s.heap.get? b = some o → h'.get? b = some o) → Q .next { s with heap := h', toks := tk }) :
  wpAny (Mod cx) A (exec (.Expr (.Call (.Attribute (.Attribute (.Name zY p) yP p2) wG apos) [.Call (.Name xn p3) [.Name z6 p4, .Name z7 p5] [] p6] [] pos) p7) env) Q E s := by
 refine sL rfl rfl hline (vm ek) ?_
 refine Attribute_any_ ?_ (by rw [arm_eval_Attribute, tg rfl])
 refine wpAny_Name (xF ek ls (oP XL st lo ⟨tl, _, rfl, ow, ?_⟩)) (by rfl)
 refine jT (s := { s with toks := s.toks + 1 }) X hkp hm ek hx hk st rfl rfl ?_
 refine wpAny_Name (xF (s := { s with toks := s.toks + 1 }) ek l1 (wpAny_Name (xF (s := { s with toks := s.toks + 1 }) ek l2 ⟨st, fun a dx h' tk kp hw hd ha => ?_⟩) (by rfl))) (by rfl)
 refine zd (ha) fun m ha => ?_
 have ow' : zI h' tl xs := by refine zb (ow) fun o e r => ?_; exact zg o (kp _ _ e) r
 refine wb _ ow' hsz (fun h'' ow'' sb => ?_)
 obtain T : tj cx s.heap h' a k v := (wc dx m hw hd ha)
 have kb : ∀ b o, b ≠ tl → h'.get? b = some o → h''.get? b = some o := fun b o hb e => (sb.2 b hb).trans e
 exact hQ a h'' tk ow'' (T.next ow' kb) fun b o hb e => kb b o hb (kp _ _ e)
end
section
variable {cx : Cx} {A : Around} {s : Shared} {K : Frag} {env : Env}
structure LexSet (cx : Cx) (K : Frag) : Prop where
 hs : findIn K (.ref cx.lexC) "__setattr__" = some (some (.builtin "object.__setattr__"))
 hp : plainOver K cx.lexC = true
 ht : takerIn K cx.lexC yP = some none
 hh : (clsIn K cx.lexC).any (·.hasDict) = true
theorem ak (X : NewK cx K) (LS : LexSet cx K) (hkp : keepIn K (.ref cx.tokC) = true) (hm : cx.mg xn = some (.ref cx.tokC)) (ek : EnvOk env) (hx : env.kindOf xn = some .globalImplicit) (hk : A.depth + 2 < 1000)
  {pos : Pos} {k4 k5 : Nat} {c1 c2 : Str} {dl : Addr} {Q : Flow → Shared → Prop}
  (st : cx.base.StaysIn s.heap) (hlx : s.heap.get? lx = some (instObj cx.lexC dl)) (hdl : s.heap.get? dl = some emptyDict) (ndl : cx.base.get? dl = none) (ls : zU env s.heap zY (.ref lx))
  (hQ : ∀ tl a t1 t2 h' tk, xE cx h' lx tl → zI h' tl #[.ref a] → tj cx s.heap h' a (.str c1 t1) (.str c2 t2) → (∀ b o, b ≠ dl → s.heap.get? b = some o → h'.get? b = some o) → s.heap.get? tl = none → tl ≠ dl → Q .next { s with heap := h', toks := tk }) :
  wpAny (Mod cx) A (exec (.Assign [.Attribute (.Name zY p) yP p2] (.List [.Call (.Name xn p3) [.Constant (.str c1) k4 p4, .Constant (.str c2) k5 p5] [] p6] p7) pos) env) Q E s := by
 refine plainObj_wpAny_Assign_Attribute ?_
 refine wpAny_List (spliced_cons ?_)
 refine jT X hkp hm ek hx hk st rfl rfl ?_
 refine wpAny_Constant_str (wpAny_Constant_str ⟨st, fun a dx h' tk kp hw hd ha => ?_⟩)
 refine zd (ha) ?_
 clear ha
 intro m ha
 refine spliced_nil ⟨by show 1 ≤ sizeLine; decide, ?_⟩
 obtain k1 : ∀ b o, h'.get? b = some o → (h'.push { cls := .type "list", data := .seq [Value.ref a].toArray }).get? b = some o := fun b o e => Heap.get?_push_of_some _ e
 have kk : ∀ b o, s.heap.get? b = some o → (h'.push { cls := .type "list", data := .seq [Value.ref a].toArray }).get? b = some o := fun b o e => k1 _ _ (kp _ _ e)
 have ls' : zU env (h'.push { cls := .type "list", data := .seq [Value.ref a].toArray }) zY (.ref lx) := by
  rcases ls with ⟨q, m, N, e⟩ | ⟨q, c, o, hc, ho, hd⟩
  ·exact .inl ⟨q, m, N.keeps kk, e⟩
  ·exact .inr ⟨q, c, o, hc, kk _ _ ho, hd⟩
 refine wpAny_Name (xF (s := { s with heap := h'.push { cls := .type "list", data := .seq [Value.ref a].toArray }, toks := tk }) ek ls' ?_) (by rfl)
 refine ai (s := { s with heap := h'.push { cls := .type "list", data := .seq [Value.ref a].toArray }, toks := tk }) (fun b o e => kk _ _ (st _ _ (X.cls.inb b o e))) (kk _ _ hlx) (kk _ _ hdl) LS.hs LS.hp LS.ht LS.hh fun h2 kh t n tk2 hd2 sb => ?_
 have hlt : h'.objs.size ≠ dl := fun q => by
  exact absurd (Heap.lt_size (kp _ _ hdl)) (by rw [q]; exact Nat.lt_irrefl _)
 obtain own : zI h2 h'.objs.size #[.ref a] := ⟨_, (sb.2 _ hlt).trans (Heap.get?_push_size _ rfl), rfl, rfl, _, rfl⟩
 have nld : lx ≠ dl := fun q => by cases q; replace hdl := (hlx ..) ▸ hdl; cases hdl
 have nad : a ≠ dl := fun q => by subst q; replace ha := (kp _ _ hdl ..) ▸ ha; cases ha
 have nxd : dx ≠ dl := fun q => by cases q; obtain w := hw.1; rw [hdl] at w; exact nn w.symm
 have nt : s.heap.get? h'.objs.size = none := by
  cases e : s.heap.get? h'.objs.size with
  | none => rfl
  | some o => exact absurd (Heap.lt_size (kp _ _ e)) (Nat.lt_irrefl _)
 exact hQ h'.objs.size a _ _ h2 tk2 ⟨dl, n, kh, t, (sb.2 _ nld).trans (kk _ _ hlx), hd2⟩ own ⟨dx, m, hw, (sb.2 _ nxd).trans (k1 _ _ hd), (sb.2 _ nad).trans (k1 _ _ ha)⟩ (fun b o hb e => (sb.2 b hb).trans (kk _ _ e)) nt hlt
end
section
variable {cx : Cx} {A : Around} {env : Env} {Mi Mo : List Addr} {ρ : zf} {σ : St} {out : Out} {s : Shared} {n : Nat} {u v : Value}
set_option tactic.hygienic true in
theorem al {I l : Addr} {i : Int} {Q : Unit → Shared → Prop} (hit : s.heap.IsRevIter I l i) (h : Q () s) : wpAny (Mod cx) A (letOwnedTupleGo target (.ref I) v) Q E s := by
 refine yv (hit) fun o ho hc hd => ?_
 unfold letOwnedTupleGo
 split
 ·split
  ·rename_i e
   cases e
   refine wpAny_bind (wpAny_load ho ?_)
   refine (hc ..).symm ▸ (hd ..).symm ▸ ?_
   exact wpAny_pure h
  ·exact wpAny_pure h
 ·split
  ·rename_i e
   cases e
   refine wpAny_bind (wpAny_load ho ?_)
   refine (hc ..).symm ▸ (hd ..).symm ▸ ?_
   exact wpAny_pure h
  ·exact wpAny_pure h
 ·exact wpAny_pure h
theorem ao {M : List Addr} {l : List PyData} (hk : Rm A n) (ru : Rp cx (zc M s.heap) u (.dat (.list l)))
  (h : ∀ it s', Nx cx A s s' → (∀ b o, s.heap.get? b = some o → s'.heap.get? b = some o) → vT cx A target M s.heap l.reverse it s'.heap → Q it s') : wpAny (Mod cx) A (call (.type "reversed") [u]) (fun xv s₁ => wpAny (Mod cx) A (pyIter xv) Q E s₁) E s := by
 refine zW (yX ru) fun a vs as W1 hl r1 e1 => ?_
 refine (W1) ▸ ?_
 have hl' := yZ zE hl
 obtain hlt : a < s.heap.objs.size := by refine zb (hl') fun _ e _ => ?_; exact Heap.lt_size e
 refine call_reversed_list hl' ?_
 obtain kp : ∀ b o, s.heap.get? b = some o → (s.heap.push (revObj a ((vs.toArray.size : Int) - 1))).get? b = some o := fun _ _ e => Heap.get?_push_of_some _ e
 obtain hit : (s.heap.push (revObj a ((vs.toArray.size : Int) - 1))).IsRevIter s.heap.objs.size a ((vs.toArray.size : Int) - 1) := (wb _ (Heap.get?_push_size _ rfl) rfl rfl)
 refine wpAny_pyIter_revIter (s := { s with heap := s.heap.push (revObj a ((vs.toArray.size : Int) - 1)) }) hit ?_
 obtain W0 := Walks.listRev (prog := cx.prog) (w := cx.w) (A := A) hk.handled s.heap.objs.size a (Nat.ne_of_lt hlt) vs.toArray
 obtain W : Walks cx.prog cx.w A s.heap.objs.size [s.heap.objs.size, a] [s.heap.objs.size] vs.toArray.size (fun i v => i < vs.toArray.size ∧ vs.toArray[vs.toArray.size - 1 - i]? = some v) _ :=
  { W0 with item := fun i s Q E hi x hQ => W0.item i s Q E hi x fun v h' tk hP st hk => hQ v h' tk ⟨hi, hP⟩ st hk }
 obtain W' := KTurns.ofWalks (target := target) W fun i v s Q E st hQ => al (cx := cx) st.2.1 hQ
 obtain hn : vs.toArray.size = l.reverse.length := by simp [e1]
 obtain W'' : KTurns cx.prog cx.w A target s.heap.objs.size [s.heap.objs.size, a] [s.heap.objs.size] l.reverse.length _ _ _ := hn ▸ W'
 refine h _ _ (.push _) kp (.of [s.heap.objs.size] W'' ?_)
 refine ⟨rfl, W'', ⟨Nat.zero_le _, by simpa [e1] using hit, hl'.push _⟩, fun b hb => hb, fun b hb => ?_, fun b hb => ?_, fun i h st => ⟨fun b hb => ?_, fun b hb o e c d => ?_⟩, fun i v h' hP g kg kh => ?_, fun i s Q E st hQ => wpAny_pyIter_revIter st.2.1 hQ⟩
 ·rw [mem_singleton.mp hb]; exact Heap.get?_none_of_le (Nat.le_refl _)
 ·refine zh (mem_cons.mp hb) (fun W2 => ?_) fun hb => ?_
  ·refine (W2).symm ▸ ?_; exact .inl (mem_singleton.mpr rfl)
  ·refine (mem_singleton.mp hb ..).symm ▸ ?_
   refine zb (hl) fun o e _ => ?_
   exact .inr ⟨zQ e, o, zH e⟩
 ·rw [mem_singleton.mp hb]
  refine yE (st) fun _ W3 _ => ?_
  refine zb (W3) fun o e _ => ?_; exact ⟨o, e⟩
 ·rw [mem_singleton.mp hb] at e
  refine yE (st) fun _ W4 _ => ?_
  refine yv (W4) fun o' e' _ d' => ?_
  rw [e] at e'; (injection e' with e'; subst e'); rw [d] at d'; injection d'
 ·refine ze (hP) fun hi hP => ?_
  obtain hil : i < l.length := by simpa using hi
  obtain hP2 : vs[l.length - 1 - i]? = some v := by simpa using hP
  refine zb (kX (target := target) r1 hP2 kg kh) fun d hd it => ?_
  exact zg d (by rw [List.getElem?_reverse hil]; exact hd) it
end
noncomputable def aq : V → Bool
 | .lexer => true
 | _ => false
noncomputable def qx (ρ : zf) (x : Str) : Option PyData := ((zt x ρ).bind sA).bind xM
noncomputable def oQ (ρ : zf) (x : Str) : Bool := ((zt x ρ).bind sA).elim false aq
noncomputable def sR (ρ : zf) (K : KR) (σ : St) : Out := opt ((qx ρ z6).bind sd) (fun k => opt (qx ρ z7) (fun d => chk (oQ ρ zY && zi (σ.length + 1)) (K ρ ((k, d) :: σ))) .bad) .bad
theorem jU {ρ : zf} (h : qx ρ x = some d) : zt x ρ = some (.v (.dat d)) := by
 refine zb (yd h) fun v h e2 => ?_
 refine zb (yd h) fun t h e3 => ?_
 exact h.symm ▸ (qb e3 ..).symm ▸ (vQ e2 ..).symm ▸ rfl
theorem ar {ρ : zf} (h : oQ ρ x = true) : zt x ρ = some (.v .lexer) := by
 refine zb (vP h) fun v h e2 => ?_
 refine zb (yd h) ?_
 clear h
 intro t h e3
 refine (h ..).symm ▸ (qb e3 ..).symm ▸ ?_
 cases v with
 | lexer => rfl
 | _ => exact ff e2
section
variable {cx : Cx} {A : Around} {s : Shared} {K : Frag} {env : Env}
set_option tactic.hygienic true in
theorem au (X : NewK cx K) (XL : LexK cx K) (hkp : keepIn K (.ref cx.tokC) = true) (hm : cx.mg xn = some (.ref cx.tokC)) (hx : env.kindOf xn = some .globalImplicit) (hk : Rm A 0)
  {apos pos : Pos} (hline : Nat.beq apos.endLine pos.line = true) {tl : Addr} (hl : cx.lex = some (lx, tl)) :
  uA cx A false env sR [.Expr (.Call (.Attribute (.Attribute (.Name zY p) yP p2) wG apos) [.Call (.Name xn p3) [.Name z6 p4, .Name z7 p5] [] p6] [] pos) p7] := by
 intro ρ Mi Mo KN σ out s Q E h hb S hQ hR hE
 refine zo fun R_ k_ => ?_
 refine zb (zA h hb) fun k e1 h => ?_
 refine zb (zA h hb) fun d e2 h => ?_
 refine ze (zr h hb) fun hc h => ?_
 refine ze (zO hc) fun e3 hfit => ?_
 refine zb (yd e1) fun dk e1 ek => ?_
 refine k_ ?_
 rw [pT ek] at e1
 ·refine zb (S.loc _ _ (jU e1)) fun u1 l1 r1 => ?_
  refine zo fun R_ k_ => ?_
  refine zb (S.loc _ _ (jU e2)) fun u2 l2 r2 => ?_
  refine zb (S.loc _ _ (ar e3)) fun u3 l3 r3 => ?_
  refine zx (r3) fun lx' tl' hl' W0 => ?_
  obtain rfl := W0
  replace hl' := (hl ..) ▸ hl'
  cases hl'
  obtain ⟨as1, r1⟩ := r1
  refine zd (r2) fun as2 r2 => ?_
  refine k_ ?_
  cases r1
  rename_i t1
  obtain L := S.ok.lex
  unfold zq at L
  simp only [hl] at L
  refine zo fun R_ k_ => ?_
  obtain ⟨lo, hf0, us, ow, tk⟩ := L
  refine k_ ?_
  have tX : tl ∈ cx.X := by simp [Cx.X, hl]
  obtain tM : tl ∈ Mi ++ Mo := S.ok.xin tl tX
  obtain st := S.base
  obtain lo' : xE cx s.heap lx tl := lo.keeps zE
  refine wpAny_execs_cons (aj X XL hkp hm S.ek hx (by obtain this := hk.depth; lia) hline (by
   obtain q := yN hfit
   rw [size_toArray, length_reverse, qt tk]; exact Nat.le_of_lt ‹_›) st lo' ow l3 l1 l2 fun a h' tk' ow' T kp => wpAny_execs_nil ?_)
  obtain kM : (zc (Mi ++ Mo) s.heap).StaysIn (zc (Mi ++ Mo) h') := fun b o e => vis_get (kp b o (fun q => zQ e (q ▸ tM)) (zH e)) (zQ e)
  obtain N : Nx cx A s { s with heap := h', toks := tk' } := ⟨rfl, fun b o hb e => by
   have e2 := kp b o (fun q => hb (q ▸ tX)) e
   exact ⟨⟨o.slots, e2⟩, fun _ => e2⟩⟩
  obtain er : us.reverse.toArray.push (.ref a) = (.ref a :: us).reverse.toArray := by simp
  rw [er] at ow'
  refine yq (T) fun dx m W1 t1' t2' => ?_
  refine ze (W1) fun w1 w2 => ?_
  obtain nv : ∀ b, s.heap.get? b = none → b ∉ Mi ++ Mo := fun b e q => by refine zd (S.ok.live b q) fun o e' => ?_; rw [e] at e'; exact nn e'
  obtain hT : xl cx (zc (Mi ++ Mo) h') (.ref a) k d := (pn a u2 t1 m as2 rfl (⟨_, dx, _, vis_get t2' (nv _ w2), rfl, rfl, rfl, vis_get t1' (nv _ w1), _, rfl⟩) (Reads.keeps kM r2))
  obtain L' : zq cx h' (zc (Mi ++ Mo) h') ((k, d) :: σ) := by
   unfold zq
   simp only [hl]
   exact ⟨lo.keeps kM, hfit, .ref a :: us, ow', hT, tk.keeps kM⟩
  exact hQ ρ _ Mi _ h N.z (fun b hb => .inl hb) (S.to N L')
end
section
variable {cx : Cx} {A : Around} {s : Shared} {K : Frag} {env : Env} {G : Str → Option V} {Mi Mo : List Addr} {ρ : zf} {σ : St} {out : Out}
theorem av (W : Wd cx G) {sc : zm} {X : zf → KR → St → Out} {body : List Stmt} {pos p1 : Pos} {l : List PyData} {KN : KR} {Q : Flow → Shared → Prop}
  (hk : Rm A 0) (so : ScOk env sc) (IH : uA cx A false env X body) (hxr : env.kindOf ve = some .globalImplicit) (e : zt yP ρ = some (.v (.dat (.list l)))) (hf : zi l.length = true)
  (h : forK (zP sc target) X l.reverse ρ KN σ = out) (hb : out ≠ .bad) (S : Sa cx A env Mi Mo ρ σ s.heap)
  (hQ : ∀ ρ' σ' Mi' s', KN ρ' σ' = out → Nz cx A Mi s s' → yg Mi Mi' s.heap → Sa cx A env Mi' Mo ρ' σ' s'.heap → Q .next s')
  (hR : ∀ x σ' v s', out = .ok x σ' → Nz cx A Mi s s' → Rp cx (zc Mo s'.heap) v x → zq cx s'.heap (zc Mo s'.heap) σ' → Q (.ret v) s') :
  wpAny (Mod cx) A (exec (.For target (.Call (.Name ve p1) [.Name yP p2] [] p3) body [] pos) env) Q E s := by
 refine jH hk so IH (fun Q' hq => ?_) (fun _ => rfl) hb S hQ hR
 refine zb (S.loc _ _ e) fun u l1 r1 => ?_
 refine Call_Name rfl (kr W S.ek S.base hxr (by rfl) (W.bi ve .reversed rfl) W.bv.2.2.2.2.2.2 ?_)
 refine PySem.callWith_type rfl (evalArgs_plain (spliced_cons (vn S.ek l1 (by rfl) (spliced_nil ?_))))
 exact ao hk r1 fun it s' N kp Wk => hq l.reverse σ it s s' h (by rw [length_reverse]; exact hf) .refl N kp S.ok.lex Wk
end
theorem jV {sc : zm} {m : Nat} {p pk pv : Pos} (hl : (yx sc [.Name z6 pk, .Name z7 pv] && wF [.Name z6 pk, .Name z7 pv]) = true) {KN : KR} {out : Out} : ∀ (rows : List (Str × PyData)) (ρ : zf) (σ : St), zt zY ρ = some (.v .lexer) →
  (∀ j, j ≤ rows.length → zi (σ.length + j) = true) → (∀ ρ', zt zY ρ' = some (.v .lexer) → KN ρ' (rows.reverse ++ σ) = out) →
  forK (zP sc (.Tuple [.Name z6 pk, .Name z7 pv] m p)) sR (rows.map fun t => .tuple [.str t.1, t.2]) ρ KN σ = out
 | [], ρ, σ, hs, _, h => h ρ hs
 | t :: r, ρ, σ, hs, hf, h => by
  obtain e1 : zt zY (zz z7 (.v (.dat t.2)) (zz z6 (.v (.dat (.str t.1))) ρ)) = some (.v .lexer) := by
   rw [yO, if_neg (by decide), yO, if_neg (by decide)]; exact hs
  obtain hb : zP sc (.Tuple [.Name z6 pk, .Name z7 pv] m p) (.tuple [.str t.1, t.2]) ρ = some (zz z7 (.v (.dat t.2)) (zz z6 (.v (.dat (.str t.1))) ρ)) := by
   show cond (yx sc [.Name z6 pk, .Name z7 pv] && wF [.Name z6 pk, .Name z7 pv]) (vJ [.Name z6 pk, .Name z7 pv] [.str t.1, t.2] ρ) none = _
   refine (hl ..).symm ▸ ?_; rfl
  have hp : ∀ K : KR, sR (zz z7 (.v (.dat t.2)) (zz z6 (.v (.dat (.str t.1))) ρ)) K σ = K (zz z7 (.v (.dat t.2)) (zz z6 (.v (.dat (.str t.1))) ρ)) ((t.1, t.2) :: σ) := fun K => by
   unfold sR qx oQ
   rw [yO, if_neg (by decide), yO, if_pos rfl, yO, if_pos rfl, e1]
   show chk (zi (σ.length + 1)) _ = _
   refine (hf 1 (Nat.succ_le_succ (Nat.zero_le _)) ..).symm ▸ ?_
   rfl
  rw [map_cons]
  show opt (zP _ _ _ _) _ _ = _
  rw [hb]
  dsimp only [opt]
  rw [hp]
  refine jV hl r _ _ e1 (fun j hj => ?_) fun ρ' h' => ?_
  ·obtain q := hf (j + 1) (by rw [length_cons]; exact Nat.succ_le_succ ‹_›)
   rw [length_cons, show σ.length + 1 + j = σ.length + (j + 1) by lia]; exact q
  ·obtain q := h ρ' h'
   obtain q := (append_assoc ..) ▸ (reverse_cons ..) ▸ q
   exact q
section
variable {cx : Cx} {A : Around} {s : Shared} {K : Frag}
theorem aw {C : Addr} (X : K.In s.heap) (hm : makesIn K C = true) (hi : findIn K (.ref C) "__init__" = some (some (.ref f))) (hf : typeIn K (.ref f) = some (.type "function"))
  (h : codeAny (Mod cx) (A.under (.builtin "type.__call__" ⟨.ref C :: [u], []⟩)) (.call (.ref f) ⟨[.ref (s.heap.objs.size + 1), u], []⟩) (fun r s' => match r with | .ok (.ret v) => v = .none ∧ Q (.ref (s.heap.objs.size + 1)) s' | .ok _ => False | .error e => E e s')
   { s with heap := (s.heap.push emptyDict).push (instObj C s.heap.objs.size) }) :
  wpAny (Mod cx) A (call (.ref C) [u]) Q E s := by
 obtain ⟨hh, g, d, t, os⟩ := s
 refine wpAny_call (make_core (makes_of X hm) (looks_findIn X hi) (fun self => bind_fn X self hf) (.inl rfl) ?_)
 refine codeAny_mono h fun r s' z => ?_
 rcases r with e | (v | _ | _ | _) <;> first | exact z | exact z.elim
end
section
variable {cx : Cx} {A : Around} {s : Shared}
theorem ax {vals : List Value} {R : Result → Shared → Prop} (F : FnAt cx f r) (hlim : cx.base.NoLimit) (hk : A.depth < 1000) (st : cx.base.StaysIn s.heap) (hvl : vals.length = r.ps.length)
  (h : ∀ env s₁, env.frame = some env.locals → (∀ x, env.kindOf x = zD x r.sc) → Entered cx A s env r.ps vals s₁ → wpAny (Mod cx) (A.deeper env) (execs r.body env) (fun f s' => R (.ok (.ret (match f with | .ret v => v | _ => .none))) s') (fun _ _ => False) s₁) :
  codeAny (Mod cx) A (.call (.ref f) ⟨vals, []⟩) R s := by
 refine zo fun R_ k_ => ?_
 obtain ⟨o, fd, ho, hd, hbody, hsc, hkind, hco, hgen, hglob, hblt, hclo, hcd, hbind⟩ := F.ex
 refine k_ ?_
 have hlook : ∀ x, fd.scope.names.lookup x = zD x r.sc := fun x => by rw [hsc, wK]
 obtain hcr : s.heap.CodeRec fd.code fd.qualname := by
  refine w9 (hcd) fun c oc vs tq hc hoc r => ?_
  exact ud c oc vs tq hc (st _ _ hoc) r
 refine codeAny_call_cells hk (st _ _ ho) hd (hlim.keeps st) hcr hbody (hbind vals hvl) hclo (fun y hy => ?_) (fun s₁ X => ?_) hco hgen hkind
 ·rw [hlook]
  refine xL (F.kinds y.1 (of_mem_zip hy).1) (fun q => ?_) fun q w => ?_
  ·exact .inl q
  ·exact .inr ⟨q, by rw [hsc]; exact w _⟩
 refine zx (X.done) fun h₁ tk₁ e₁ kp => ?_
 obtain nd : ((r.ps.zip vals).map (·.1)).Nodup := by rw [sM hvl]; exact F.nodup
 refine wpAny_mono (h _ s₁ rfl (fun x => hlook x) ⟨by exact e₁.symm ▸ rfl, fun b o e => by rw [e₁]; exact kp b o e, ⟨hkind, hglob, hblt⟩, Heap.get?_none_of_le (Nat.le_refl _), fun p hp hl => .inl ⟨hl, _, X.toInCall.ns, ti hl _ _ nd hp⟩⟩) (fun _ _ q => q) fun _ _ q => q.elim
end
noncomputable abbrev Cx.withLex (cx : Cx) (L : Option (Addr × Addr)) : Cx := { cx with lex := L }
section
variable {cx : Cx} {K : Frag} {G : Str → Option V} {L : Option (Addr × Addr)}
theorem TokNew.withLex (X : TokNew cx K) : TokNew (cx.withLex L) K := ⟨X.inb, X.obj, X.made, X.base, X.madeT, X.self, X.top, X.tup, X.call, X.typ, X.init, X.reads⟩
theorem GetFn.withLex {f : Addr} {r : FnR} (X : GetFn cx f r) : GetFn (cx.withLex L) f r := ⟨X.ex, X.nodup, X.nocell, X.kinds⟩
theorem FnAt.withLex {f : Addr} {r : FnR} (X : FnAt cx f r) : FnAt (cx.withLex L) f r := ⟨X.ex, X.nodup, X.kinds⟩
theorem NewK.withLex (X : NewK cx K) : NewK (cx.withLex L) K := ⟨X.cls.withLex, X.nolimit, X.g, X.b, X.gn, X.bv, X.gi, by
 refine lE (X.ex) fun sm f obj rest r h1 h2 h3 h4 => ?_
 exact ⟨sm, f, obj, rest, r, h1, h2, h3.withLex, h4⟩⟩
theorem LexK.withLex (X : LexK cx K) : LexK (cx.withLex L) K := ⟨X.inb, X.nolimit, X.ga, X.gk, X.has, X.toks, by
 refine wg (X.next) fun f r h1 h2 h3 h4 => ?_
 exact (wE f r h1 h2 (h3.withLex) h4), by
 refine wg (X.unpop) fun f r h1 h2 h3 h4 => ?_
 exact (wE f r h1 h2 (h3.withLex) h4)⟩
end
section
variable {cx : Cx} {K : Frag} {G : Str → Option V} {L : Option (Addr × Addr)}
theorem Rp.withLex {g : Heap} {u : Value} {x : V} (hx : x ≠ .lexer) (r : Rp cx g u x) : Rp (cx.withLex L) g u x := by
 cases x <;> first | exact r | exact absurd rfl hx
theorem Wd.withLex (W : Wd cx G) (hG : ∀ x, G x ≠ some .lexer) : Wd (cx.withLex L) G :=
 ⟨W.g, W.b, W.nolimit, fun x v h => by
  refine zb (W.glob x v h) fun u e r => ?_
  exact (zg u e (r.withLex fun q => hG x (q ▸ h))), W.bi, W.bv⟩
end
noncomputable def ym : Str := "EndToken"
noncomputable def tm : Str := ""
noncomputable def ay (p : Nat → Pos) : List Stmt :=
 [.Assign [.Attribute (.Name zY (p 0)) yP (p 1)] (.List [.Call (.Name xn (p 2)) [.Constant (.str ym) 0 (p 3), .Constant (.str tm) 0 (p 4)] [] (p 5)] (p 6)) (p 7),
  .For (.Tuple [.Name z6 (p 8), .Name z7 (p 9)] 0 (p 10)) (.Call (.Name ve (p 11)) [.Name yP (p 12)] [] (p 13))
   [.Expr (.Call (.Attribute (.Attribute (.Name zY (p 14)) yP (p 15)) wG (p 16)) [.Call (.Name xn (p 17)) [.Name z6 (p 18), .Name z7 (p 19)] [] (p 20)] [] (p 21)) (p 22)] [] (p 23)]
structure LexMake (cx : Cx) (K : Frag) : Prop where
 make : makesIn K cx.lexC = true
 keep : keepIn K (.ref cx.tokC) = true
 token : cx.mg xn = some (.ref cx.tokC)
 set : LexSet cx K
 init : ∃ f r, findIn K (.ref cx.lexC) "__init__" = some (some (.ref f)) ∧ typeIn K (.ref f) = some (.type "function") ∧ FnAt cx f r ∧ r.ps = [zY, yP] ∧ zN r.sc zY = true ∧ zN r.sc yP = true ∧ zN r.sc z6 = true ∧ zN r.sc z7 = true ∧
  zD xn r.sc = some .globalImplicit ∧ zD ve r.sc = some .globalImplicit ∧ ∃ p, r.body = ay p ∧ Nat.beq (p 16).endLine (p 21).line = true
section
variable {cx : Cx} {A : Around} {M : List Addr} {s s₁ : Shared} {env : Env} {ps : List Str} {vals : List Value} {σ : St} {ρ : zf}
theorem sS (hfr : A.frames = some frs) (hf : env.frame = some env.locals) : Fs (A.deeper env) = env.locals :: Fs A := by
 unfold Fs
 rw [Around.frames_deeper hfr, hfr]
 show (env :: frs).filterMap (·.frame) = _
 rw [filterMap_cons, hf]; rfl
theorem az (O : Ok cx A M s.heap σ) (En : Entered cx A s env ps vals s₁) (hf : env.frame = some env.locals) (hns : ∃ m, s₁.heap.Ns env.locals m)
  (hloc : ∀ x t, zt x ρ = some t → ∃ y u, t = .v y ∧ zU env s₁.heap x u ∧ Rp cx (zc ([env.locals] ++ M) s₁.heap) u y) (hpool : yb ρ = true) : Sa cx (A.deeper env) env [env.locals] M ρ σ s₁.heap := by
 refine zb (O.frames) fun frs hfr ff => ?_
 refine zd (hns) fun m hns => ?_
 obtain newL := En.new
 obtain kp' := En.kp
 obtain fs' := sS (A := A) hfr hf
 have LM : env.locals ∉ M := fun q => by refine zd (O.live _ q) fun o e => ?_; rw [newL] at e; injection e
 have kgv : (zc M s.heap).StaysIn (zc ([env.locals] ++ M) s₁.heap) := fun b o e => vis_get (kp' b o (zH e)) fun q => by
  refine zh (mem_append.mp q) (fun q => ?_) fun q => ?_
  ·replace e := (mem_singleton.mp q ..) ▸ e; replace newL := (zH e ..) ▸ newL; injection newL
  ·exact zQ e q
 have base : cx.base.StaysIn s.heap := zZ O.stays zE
 obtain baseL : cx.base.get? env.locals = none := by
  cases q : cx.base.get? env.locals with
  | none => rfl
  | some o => rw [base _ _ q] at newL; injection newL
 have Kall : Kp [] (Fs A) s.heap s₁.heap := .of_all kp'
 obtain vX : s₁.heap.FunFrames cx.base (env :: frs) := Heap.FunFrames.cons (by rw [En.ek.kind]; decide) hf hns baseL (Kall.frames ff (by simp))
 refine ⟨⟨zZ O.stays kgv, fun b hb => ?_, ⟨_, Around.frames_deeper hfr, vX⟩, fun b hb => ?_, fun b hb q => ?_, fun b hb => mem_append_right _ (O.xin b hb), O.lex.step kgv fun b hb vs hl => hl.next Kall (by simp)⟩, En.ek, ⟨_, hns⟩, mem_singleton.mpr rfl, O.xin, fun b hb q => ?_, fun x t e => ?_, .inl hpool⟩
 ·rcases mem_append.mp hb with q | q
  ·rw [mem_singleton.mp q]; refine y5 (hns) fun o _ _ e _ => ?_; exact ⟨o, e⟩
  ·refine zd (O.live b q) fun o e => ?_; exact ⟨o, kp' b o e⟩
 ·rw [fs'] at hb
  refine zh (mem_cons.mp hb) (fun q => ?_) fun q => ?_
  ·rw [q]; exact mem_append_left _ (mem_singleton.mpr rfl)
  ·exact mem_append_right _ (O.fin b q)
 ·rw [fs'] at hb
  refine zh (mem_cons.mp hb) (fun w => ?_) fun w => ?_
  ·rw [w] at q; exact LM (O.xin _ q)
  ·exact O.fx b w q
 ·rw [mem_singleton.mp hb] at q; exact LM q
 ·refine yq (hloc x t e) fun y u W0 hl hr => ?_
  refine (W0) ▸ ?_
  exact zg u hl hr
end
section
variable {cx : Cx} {A : Around} {M : List Addr} {s : Shared} {h₂ : Heap} {env : Env} {σ σ' : St} {ρ : zf} {lx tl : Addr}
theorem aA (O : Ok cx A M s.heap σ) (kp' : ∀ b o, s.heap.get? b = some o → h₂.get? b = some o) (ek : EnvOk env) (newL : s.heap.get? env.locals = none) (hf : env.frame = some env.locals) (hns : ∃ m, h₂.Ns env.locals m)
  (newT : s.heap.get? tl = none) (hne : tl ≠ env.locals) (liveT : ∃ o, h₂.get? tl = some o) (hl : zq (cx.withLex (some (lx, tl))) h₂ (zc ([env.locals] ++ (tl :: M)) h₂) σ')
  (hloc : ∀ x t, zt x ρ = some t → ∃ y u, t = .v y ∧ zU env h₂ x u ∧ Rp (cx.withLex (some (lx, tl))) (zc ([env.locals] ++ (tl :: M)) h₂) u y) (hpool : yb ρ = true) :
  Sa (cx.withLex (some (lx, tl))) (A.deeper env) env [env.locals] (tl :: M) ρ σ' h₂ := by
 refine zb (O.frames) fun frs hfr ff => ?_
 refine zd (hns) fun m hns => ?_
 obtain fs' := sS (A := A) hfr hf
 obtain LM : env.locals ∉ M := fun q => by refine zd (O.live _ q) fun o e => ?_; rw [newL] at e; injection e
 obtain TM : tl ∉ M := fun q => by refine zd (O.live _ q) fun o e => ?_; rw [newT] at e; injection e
 obtain kgv : (zc M s.heap).StaysIn (zc ([env.locals] ++ (tl :: M)) h₂) := fun b o e => vis_get (kp' b o (zH e)) fun q => by
  refine zh (mem_append.mp q) (fun q => ?_) fun q => ?_
  ·rw [mem_singleton.mp q] at e; rw [zH e] at newL; injection newL
  ·refine zh (mem_cons.mp q) (fun q => ?_) fun q => ?_
   ·rw [q] at e; rw [zH e] at newT; injection newT
   ·exact zQ e q
 obtain base : cx.base.StaysIn s.heap := zZ O.stays zE
 obtain baseL : cx.base.get? env.locals = none := by
  cases q : cx.base.get? env.locals with
  | none => rfl
  | some o => rw [base _ _ q] at newL; injection newL
 obtain Kall : Kp [] (Fs A) s.heap h₂ := .of_all kp'
 obtain vX : h₂.FunFrames cx.base (env :: frs) := Heap.FunFrames.cons (by rw [ek.kind]; decide) hf hns baseL (Kall.frames ff (by simp))
 obtain hX : (cx.withLex (some (lx, tl))).X = [tl] := rfl
 refine ⟨⟨zZ O.stays kgv, fun b hb => ?_, ⟨_, Around.frames_deeper hfr, vX⟩, fun b hb => ?_, fun b hb q => ?_, fun b hb => ?_, hl⟩, ek, ⟨_, hns⟩, mem_singleton.mpr rfl, fun b hb => ?_, fun b hb q => ?_, fun x t e => ?_, .inl hpool⟩
 ·refine zh (mem_append.mp hb) (fun q => ?_) fun q => ?_
  ·refine (mem_singleton.mp q ..).symm ▸ ?_; refine y5 (hns) fun o _ _ e _ => ?_; exact ⟨o, e⟩
  ·rcases mem_cons.mp q with q | q
   ·refine (q ..).symm ▸ ?_; exact liveT
   ·refine zd (O.live b q) fun o e => ?_; exact ⟨o, kp' b o e⟩
 ·rw [fs'] at hb
  refine zh (mem_cons.mp hb) (fun q => ?_) fun q => ?_
  ·rw [q]; exact mem_append_left _ (mem_singleton.mpr rfl)
  ·exact mem_append_right _ (mem_cons_of_mem _ (O.fin b q))
 ·rw [fs'] at hb
  rw [hX] at q
  obtain q := mem_singleton.mp q
  refine zh (mem_cons.mp hb) (fun w => ?_) fun w => ?_
  ·exact hne (q.symm.trans w)
  ·exact TM (q ▸ O.fin b w)
 ·rw [hX] at hb
  rw [mem_singleton.mp hb]
  exact mem_append_right _ (mem_cons_self ..)
 ·rw [hX] at hb
  rw [mem_singleton.mp hb]
  exact mem_cons_self ..
 ·rw [mem_singleton.mp hb] at q
  refine zh (mem_cons.mp q) (fun q => ?_) fun q => ?_
  ·exact hne q.symm
  ·exact LM q
 ·refine yq (hloc x t e) fun y u W0 hl hr => ?_
  obtain rfl := W0
  exact zg u hl hr
end
noncomputable abbrev uC (C : Addr) (u : Value) : Args := ⟨.ref C :: [u], []⟩
theorem aB (C : Addr) (u : Value) : (Code.builtin "type.__call__" (uC C u)).weight = 1 := by kernel_rfl
theorem aC (C : Addr) (u : Value) : (Code.builtin "type.__call__" (uC C u)).cUnits = 1 := by kernel_rfl
theorem Tz (C : Addr) (u : Value) : (Code.builtin "type.__call__" (uC C u)).envs = [] := by kernel_rfl
section
variable {cx : Cx} {A : Around} {M : List Addr} {s : Shared} {K : Frag} {G : Str → Option V} {σ : St} {n : Nat}
theorem oR (C : Addr) (u : Value) (h : A.frames = some frs) : (A.under (.builtin "type.__call__" (uC C u))).frames = some frs := by
 dsimp only [Around.under]
 trivial
theorem jW (C : Addr) (u : Value) (h : A.frames = some frs) : Fs (A.under (.builtin "type.__call__" (uC C u))) = Fs A := by
 unfold Fs; exact (oR C u h ..).symm ▸ h.symm ▸ rfl
theorem Ok.under (O : Ok cx A M s.heap σ) (C : Addr) (u : Value) : Ok cx (A.under (.builtin "type.__call__" (uC C u))) M s.heap σ := by
 refine zb (O.frames) fun frs hfr ff => ?_
 obtain fs := jW C u hfr
 exact ⟨O.stays, O.live, ⟨frs, oR C u hfr, ff⟩, by refine (fs ..).symm ▸ ?_; exact O.fin, by refine (fs ..).symm ▸ ?_; exact O.fx, O.xin, O.lex⟩
noncomputable def xG : Tk := (ym, .str tm)
noncomputable def uD (row : List Tk) : PyData := .list (row.map fun t => .tuple [.str t.1, t.2])
theorem aD (X : NewK cx K) (LM : LexMake cx K) (XL : LexK cx K) (W : Wd cx G) (hG : ∀ x, G x ≠ some .lexer) (hk : Rm A 4) (O : Ok cx A M s.heap σ) (hnl : cx.lex = none) {row : List Tk}
  (r : Rp cx (zc M s.heap) u (.dat (uD row))) (hf : zi (row.length + 1) = true)
  (hQ : ∀ lx tl s', Nx cx A s s' → s.heap.get? lx = none → s.heap.get? tl = none → zq (cx.withLex (some (lx, tl))) s'.heap (zc (tl :: M) s'.heap) (row ++ [xG]) → Q (.ref lx) s') :
  wpAny (Mod cx) A (call (.ref cx.lexC) [u]) Q E s := by
 refine zo fun R_ k_ => ?_
 obtain ⟨f, ri, hi, hft, F, hps, l1, l2, l3, l4, g1, g2, pp, hbe, b16⟩ := LM.init
 have st : cx.base.StaysIn s.heap := zZ O.stays zE
 obtain XK : K.In s.heap := fun a o e => st _ _ (XL.inb a o e)
 refine zb (id O.frames) fun frs hfr ff => ?_
 refine k_ ?_
 refine aw XK LM.make hi hft ?_
 generalize hdl : s.heap.objs.size = dl
 have newDl : s.heap.get? dl = none := by refine (hdl ..) ▸ ?_; exact Heap.get?_none_of_le (Nat.le_refl _)
 have newLx : s.heap.get? (dl + 1) = none := by rw [← hdl]; exact Heap.get?_none_of_le (Nat.le_succ _)
 have gdl : ((s.heap.push emptyDict).push (instObj cx.lexC dl)).get? dl = some emptyDict := Heap.get?_push_of_some _ (by refine (hdl ..) ▸ ?_; exact Heap.get?_push_size _ rfl)
 have glx : ((s.heap.push emptyDict).push (instObj cx.lexC dl)).get? (dl + 1) = some (instObj cx.lexC dl) := by
  obtain q : (s.heap.push emptyDict).objs.size = dl + 1 := by rw [← hdl]; simp [Heap.push]
  refine (q ..) ▸ ?_; exact Heap.get?_push_size _ rfl
 have k0 : ∀ b o, s.heap.get? b = some o → ((s.heap.push emptyDict).push (instObj cx.lexC dl)).get? b = some o := fun b o e => Heap.get?_push_of_some _ (Heap.get?_push_of_some _ e)
 generalize hA : A.under (.builtin "type.__call__" (uC cx.lexC u)) = A'
 obtain O' : Ok cx A' M s.heap σ := by refine (hA ..) ▸ ?_; exact O.under _ _
 have hd' : A'.depth = A.depth + 1 := by rw [← hA]; show A.depth + _ = _; exact (aB ..).symm ▸ rfl
 obtain hu' : A'.units = A.units + 1 := by rw [← hA]; show A.units + _ = _; exact (aC ..).symm ▸ rfl
 obtain hh' : A'.handled = none := by rw [← hA]; exact hk.handled
 obtain hfr' : A'.frames = some frs := by refine (hA ..) ▸ ?_; exact oR _ _ hfr
 obtain hfs' : Fs A' = Fs A := by refine (hA ..) ▸ ?_; exact jW _ _ hfr
 generalize hs2 : ({ s with heap := (s.heap.push emptyDict).push (instObj cx.lexC dl) } : Shared) = s2
 have e2h : s2.heap = (s.heap.push emptyDict).push (instObj cx.lexC dl) := by rw [← hs2]
 rw [← e2h] at gdl glx k0
 refine ax F X.nolimit (by obtain this := hk.depth; lia) (zZ st k0) (by refine (hps ..).symm ▸ ?_; rfl) fun env s₁ hef hkd En => ?_
 have kS : ∀ b o, s.heap.get? b = some o → s₁.heap.get? b = some o := fun b o e => En.kp _ _ (k0 _ _ e)
 have newL : s.heap.get? env.locals = none := by
  cases e : s.heap.get? env.locals with
  | none => rfl
  | some o => have q := En.new; rw [k0 _ _ e] at q; injection q
 have lself : zU env s₁.heap zY (.ref (dl + 1)) := En.loc (zY, _) (by refine (hps ..).symm ▸ ?_; exact mem_cons_self ..) (by rw [hkd]; exact yl l1)
 obtain ltoks : zU env s₁.heap yP u := En.loc (yP, u) (by refine (hps ..).symm ▸ ?_; exact mem_cons_of_mem _ (mem_cons_self ..)) (by rw [hkd]; exact yl l2)
 obtain st₁ : cx.base.StaysIn s₁.heap := zZ st kS
 obtain nsB : ∃ m, s₁.heap.Ns env.locals m := by
  rcases lself with ⟨_, m, hm, _⟩ | ⟨q, _⟩
  ·exact ⟨m, hm⟩
  ·obtain q := (yl l1 ..) ▸ (hkd ..) ▸ q
   refine xL q (fun q => ?_) fun q _ => ?_<;> cases q
 have baseDl : cx.base.get? dl = none := by
  cases q : cx.base.get? dl with
  | none => rfl
  | some o => rw [st _ _ q] at newDl; injection newDl
 obtain hroom : (A'.deeper env).depth + 2 < 1000 := by show A'.depth + 1 + 2 < 1000; obtain this := hk.depth; lia
 ·rw [hbe]
  refine wpAny_execs_cons (ak X LM.set LM.keep LM.token En.ek (by rw [hkd]; exact g1) hroom st₁ (En.kp _ _ glx) (En.kp _ _ gdl) baseDl lself fun tl a x1 x2 h' tk lo ow T kp' newT' neT => ?_)
  have newT : s.heap.get? tl = none := by
   cases e : s.heap.get? tl with
   | none => rfl
   | some o => rw [kS _ _ e] at newT'; injection newT'
  have kS' : ∀ b o, s.heap.get? b = some o → h'.get? b = some o := fun b o e => kp' b o (fun q => by cases q; rw [newDl] at e; injection e) (kS _ _ e)
  have neL : ∀ {b o}, s2.heap.get? b = some o → b ≠ env.locals := fun {b o} e q => by subst q; rw [En.new] at e; injection e
  have neT2 : ∀ {b o}, s₁.heap.get? b = some o → b ≠ tl := fun {b o} e q => by subst q; rw [newT'] at e; injection e
  obtain ⟨m₁, hm₁⟩ := nsB
  have liveL : ∃ o, s₁.heap.get? env.locals = some o := by refine y5 (hm₁) fun o _ _ e _ => ?_; exact ⟨o, e⟩
  have Kd : Kp [dl] [] s₁.heap h' := .of_keeps fun b o hb e => kp' b o (fun q => hb (mem_singleton.mpr q)) e
  have nld : env.locals ≠ dl := fun q => neL gdl q.symm
  obtain hns' : h'.Ns env.locals m₁ := Kd.ns (fun q => nld (mem_singleton.mp q)) hm₁
  obtain nM : ∀ {b}, s.heap.get? b = none → b ∉ M := fun {b} e q => by refine zd (O.live b q) fun o e' => ?_; rw [e] at e'; injection e'
  have vAt : ∀ {b o}, h'.get? b = some o → b ≠ env.locals → b ≠ tl → s.heap.get? b = none → (zc ([env.locals] ++ (tl :: M)) h').get? b = some o := fun {b o} e n1 n2 n3 => vis_get e fun q => by
   refine zh (mem_append.mp q) (fun q => ?_) fun q => ?_
   ·exact n1 (mem_singleton.mp q)
   ·refine zh (mem_cons.mp q) (fun q => ?_) fun q => ?_
    ·exact n2 q
    ·exact nM n3 q
  obtain kM : (zc M s.heap).StaysIn (zc ([env.locals] ++ (tl :: M)) h') := fun b o e => vis_get (kS' _ _ (zH e)) fun q => by
   refine zh (mem_append.mp q) (fun q => ?_) fun q => ?_
   ·rw [mem_singleton.mp q] at e; rw [zH e] at newL; injection newL
   ·refine zh (mem_cons.mp q) (fun q => ?_) fun q => ?_
    ·rw [q] at e; rw [zH e] at newT; injection newT
    ·exact zQ e q
  refine yq (T) fun dx mm W0 t1' t2' => ?_
  obtain ⟨w1, w2⟩ := W0
  obtain neLo : ∀ {b}, s₁.heap.get? b = none → b ≠ env.locals := fun {b} e q => by subst q; refine zd (liveL) fun o e' => ?_; rw [e] at e'; injection e'
  obtain upS : ∀ {b}, s₁.heap.get? b = none → s.heap.get? b = none := fun {b} e => by
   cases e' : s.heap.get? b with
   | none => rfl
   | some o => rw [kS _ _ e'] at e; injection e
  obtain ⟨ot, hot, hoc, hon, on, hod⟩ := id ow
  obtain ntd : dx ≠ tl := fun q => by cases q; rw [hot] at t1'; (injection t1' with t1'; subst t1'); injection hod
  have nta : a ≠ tl := fun q => by cases q; rw [hot] at t2'; obtain rfl := Option.some.inj t2'; injection hoc
  have hT : xl (cx.withLex (some (dl + 1, tl))) (zc ([env.locals] ++ (tl :: M)) h') (.ref a) ym (.str tm) :=
   ⟨a, .str tm x2, x1, mm, [], rfl, ⟨_, dx, _, vAt t2' (neLo w2) nta (upS w2), rfl, rfl, rfl, vAt t1' (neLo w1) ntd (upS w1), _, rfl⟩, .str _ _⟩
  obtain hlo : xE (cx.withLex (some (dl + 1, tl))) (zc ([env.locals] ++ (tl :: M)) h') (dl + 1) tl := by
   refine yJ (lo) fun dd nn kh tt q1 q2 => ?_
   obtain q1' := kp' (dl + 1) _ (Nat.succ_ne_self dl) (En.kp _ _ glx)
   rw [q1] at q1'
   obtain hdd : dd = dl := by
    obtain z := Option.some.inj q1'
    obtain z2 : (instObj cx.lexC dd).dict = (instObj cx.lexC dl).dict := by exact z.symm ▸ rfl
    exact Option.some.inj z2
   subst hdd
   exact rF dd nn kh tt (vAt q1 (neL glx) (neT2 (En.kp _ _ glx)) newLx) (vAt q2 (neL gdl) (neT2 (En.kp _ _ gdl)) newDl)
  have hL : zq (cx.withLex (some (dl + 1, tl))) h' (zc ([env.locals] ++ (tl :: M)) h') [xG] := by
   exact ⟨hlo, rfl, [.ref a], ow, hT, trivial⟩
  have upL : ∀ {x v}, zU env s₁.heap x v → zU env h' x v := fun {x v} l => by
   rcases l with ⟨hk', m, hn, hm⟩ | ⟨hk', c, o, hc, ho, hd⟩
   ·exact .inl ⟨hk', m, Kd.ns (fun q => nld (mem_singleton.mp q)) hn, hm⟩
   ·exact .inr ⟨hk', c, o, hc, kp' c o (fun q => by cases q; rw [En.kp _ _ gdl] at ho; obtain rfl := Option.some.inj ho; injection hd) ho, hd⟩
  obtain r' := (r.keeps kM).withLex (L := some (dl + 1, tl)) (by intro q; injection q)
  obtain S₂ := aA (ρ := [(zY, .v .lexer), (yP, .v (.dat (uD row)))]) O' kS' En.ek newL hef ⟨_, hns'⟩ newT (by refine zd (liveL) fun o e => ?_; exact (neT2 e).symm) ⟨_, hot⟩ hL (fun x t e => by
   dsimp only [zt] at e
   cases q : (zY == x) with
   | true =>
    replace e := (q ..) ▸ e; (injection e with e; subst e)
    refine (eq_of_beq q) ▸ ?_
    exact ⟨_, _, rfl, upL lself, _, _, rfl, rfl⟩
   | false =>
    replace e := (q ..) ▸ e
    unfold zt at e
    cases q2 : (yP == x) with
    | true =>
     rw [q2] at e; refine Option.some.inj e ▸ ?_
     refine (eq_of_beq q2) ▸ ?_
     exact wc _ _ rfl (upL ltoks) r'
    | false => rw [q2] at e; exact nn e) rfl
  obtain hk' : Rm (A'.deeper env) 0 := ⟨hh', by show A'.depth + 1 + 0 ≤ 990; obtain this := hk.depth; lia, by show A'.units + 3 + 4 * 0 + 300 ≤ 9900; obtain this := hk.units; lia⟩
  have fin : ∀ s' : Shared, Nz (cx.withLex (some (dl + 1, tl))) (A'.deeper env) [env.locals] { s₁ with heap := h', toks := tk } s' → zq (cx.withLex (some (dl + 1, tl))) s'.heap (zc (tl :: M) s'.heap) (row ++ [xG]) → Q (.ref (dl + 1)) s' := fun s' N L => by
   refine hQ (dl + 1) tl s' ⟨?_, ?_⟩ newLx newT L
   ·rw [N.eq, En.eq, ← hs2]
   ·intro b o hb e
    have nb1 : b ≠ env.locals := fun q => by subst q; rw [newL] at e; injection e
    obtain nb2 : b ≠ tl := fun q => by cases q; rw [newT] at e; injection e
    have kk := N.kp b o (fun q => by
     refine zh (mem_append.mp q) (fun q => ?_) fun q => ?_
     ·exact nb1 (mem_singleton.mp q)
     ·exact nb2 (mem_singleton.mp q)) (kS' _ _ e)
    refine ⟨kk.1, fun hf => kk.2 fun q => ?_⟩
    rw [sS hfr' hef, hfs'] at q
    refine zh (mem_cons.mp q) (fun q => ?_) fun q => ?_
    ·exact nb1 q
    ·exact hf q
  refine wpAny_execs_cons (av (s := { s₁ with heap := h', toks := tk }) (sc := ri.sc) (X := sR) (out := .ok (.dat .none) (row ++ [xG])) (KN := fun _ σ => .ok (.dat .none) σ)
   (W.withLex (L := some (dl + 1, tl)) hG) hk' ⟨fun x e => by rw [hkd]; exact e, fun x e => by rw [hkd]; exact e, fun x e => by rw [hkd]; exact e⟩
   (au (cx := cx.withLex (some (dl + 1, tl))) X.withLex XL.withLex LM.keep LM.token (by rw [hkd]; exact g1) hk' b16 rfl) (by rw [hkd]; exact g2)
   (l := row.map fun t => .tuple [.str t.1, t.2]) rfl (by
    obtain q := yN hf
    unfold zi; rw [length_map]
    exact Nat.ble_eq_true_of_le (by obtain q : row.length + 1 ≤ 16777216 := Nat.le_of_ble_eq_true hf; exact Nat.le_of_lt ‹_›)) ?_ (by intro q; injection q) S₂ (fun ρ' σ' Mi' s' hK N g S' => wpAny_execs_nil ⟨rfl, ?_⟩) fun x σ' v s' ho N Rv L' => ?_)
  ·refine (map_reverse ..) ▸ ?_
   refine jV (by unfold yx yx yx; refine (l3 ..).symm ▸ (l4 ..).symm ▸ ?_; rfl) row.reverse _ _ rfl (fun j hj => ?_) fun ρ' _ => ?_
   ·obtain q : row.length + 1 ≤ 16777216 := Nat.le_of_ble_eq_true hf
    rw [length_reverse] at hj
    exact Nat.ble_eq_true_of_le (by show 1 + j ≤ _; lia)
   ·exact (List.reverse_reverse ..).symm ▸ rfl
  ·cases hK
   exact fin s' N (S'.ok.lex.step (xk fun b hb => mem_append_right _ hb) fun _ _ _ hl => hl)
  ·cases ho
   obtain ⟨as, Rv⟩ := Rv
   cases Rv
   exact ⟨rfl, fin s' N L'⟩
end
section
variable {cx : Cx} {A : Around} {M : List Addr} {s : Shared} {K : Frag} {G : Str → Option V} {σ : St} {n : Nat}
structure Fm (cx : Cx) (A : Around) (env : Env) (M : List Addr) (s s₁ : Shared) : Prop where
 eq : s₁ = { s with heap := s₁.heap, toks := s₁.toks }
 kp : ∀ b o, s.heap.get? b = some o → s₁.heap.get? b = some o
 fr : env.frame = some env.locals
 new : s.heap.get? env.locals = none
 frs : ∃ l, A.frames = some l
theorem Fm.back {s' : Shared} {Z : List Addr} (F : Fm cx A env M s s₁) (e : s' = { s₁ with heap := s'.heap, toks := s'.toks }) (k : Kp Z (Fs (A.deeper env)) s₁.heap s'.heap) (hZ : ∀ b ∈ Z, s.heap.get? b = none ∨ b ∈ cx.X) : Nx cx A s s' := by
 refine zd (F.frs) fun l hl => ?_
 refine ⟨by exact e.symm ▸ F.eq.symm ▸ rfl, fun b o hb eb => ?_⟩
 refine ze (k b o (fun q => by
  refine zh (hZ b q) (fun q => ?_) fun q => ?_
  ·rw [eb] at q; injection q
  ·exact hb q) (F.kp b o eb)) fun k1 k2 => ?_
 refine ⟨k1, fun hf => k2 fun q => ?_⟩
 rw [sS hl F.fr] at q
 refine zh (mem_cons.mp q) (fun q => ?_) fun q => ?_
 ·rw [q, F.new] at eb; injection eb
 ·exact hf q
theorem Fm.leave {s₂ s' : Shared} {Z : List Addr} {L : Option (Addr × Addr)} {Mi : List Addr} {out : Out} {e : Value} {E : Unit → Shared → Prop} {E' : Value → Shared → Prop} (F : Fm cx A env M s s₁) (e2 : s₂ = { s₁ with heap := s₂.heap, toks := s₂.toks }) (k : Kp Z (Fs (A.deeper env)) s₁.heap s₂.heap)
  (hZ : ∀ b ∈ Z, s.heap.get? b = none ∨ b ∈ cx.X) (hM : ∀ b ∈ Mi ++ (cx.withLex L).X, s.heap.get? b = none ∨ b ∈ cx.X) (x : ErrB (cx.withLex L) (A.deeper env) Mi true out s₂ e s') (hE : ∀ s'', ErrE cx A true out s e s'' → E () s'') :
  wpAny (Mod cx) (A.deeper env) (leaving env e) E E' s' := by
 refine zd (F.frs) fun frs hfr => ?_
 obtain hfr' : (A.deeper env).frames = some (env :: frs) := Around.frames_deeper hfr
 have kf : ∀ {h' : Heap}, s'.heap.UpToSlots h' → Kf cx.X s.heap h' := fun {h'} up b o hb e hd => by
  obtain nZ : b ∉ Z := fun q => by
   refine zh (hZ b q) (fun q => ?_) fun q => ?_
   ·rw [e] at q; injection q
   ·exact hb q
  have nM : b ∉ Mi ++ (cx.withLex L).X := fun q => by
   refine zh (hM b q) (fun q => ?_) fun q => ?_
   ·rw [e] at q; injection q
   ·exact hb q
  refine ze (k b o nZ (F.kp b o e)) fun W0 _ => ?_
  refine zd (W0) fun sl0 e0 => ?_
  refine zd (x.kf b _ nM e0 hd) fun sl e' => ?_
  refine zd (up b _ e' hd) fun sl' e'' => ?_
  exact ⟨sl', e''⟩
 refine lB x.how (fun frs' ea a0 hf' W1 fl => ?_) fun frs' hh ea vs hf' W2 hst hff hm => ?_
 ·obtain rfl := W1; replace hf' := (hfr' ..) ▸ hf'
  obtain rfl := Option.some.inj hf'
  refine wpAny_leaves_onW hfr' F.fr fl fun h' fl' up => hE _ ⟨rfl, x.out, by exact x.eq.symm ▸ e2.symm ▸ F.eq.symm ▸ rfl, ⟨frs, ea, a0, hfr, rfl, fl'⟩, kf up⟩
 ·obtain rfl := W2; rw [hfr'] at hf'
  obtain rfl := Option.some.inj hf'
  exact wpAny_leaves_madeW hfr' F.fr hst hff hm fun h' t fl' _ _ up => hE _ ⟨rfl, x.out, by exact x.eq.symm ▸ e2.symm ▸ F.eq.symm ▸ rfl, ⟨frs, ea, .ref t, hfr, rfl, fl'⟩, kf up⟩
set_option tactic.hygienic true in
theorem jX (hlim : cx.base.NoLimit) {fa : Addr} (F : FnAt cx fa r) {args : List V} {vals : List Value} (hlen : r.ps.length = args.length) (hk : Rm A (n + 1)) (O : Ok cx A M s.heap σ) (R : yM cx (zc M s.heap) vals args)
  (h : ∀ env s₁, Fm cx A env M s s₁ → ScOk env r.sc → wy cx env → Rm (A.deeper env) n → Sa cx (A.deeper env) env [env.locals] M (r.ps.zip (args.map .v)) σ s₁.heap →
   wpAny (Mod cx) (A.deeper env) (execs r.body env) (fun f s' => Q (match f with | .ret v => v | _ => .none) s') (fun e s' => wpAny (Mod cx) (A.deeper env) (leaving env e) (fun _ s'' => E e s'') (fun e' s'' => E e' s'') s') s₁) :
  wpAny (Mod cx) A (call (.ref fa) vals) Q E s := by
 have hvl : vals.length = r.ps.length := by exact R.length.symm ▸ hlen.symm ▸ rfl
 refine zo fun R_ k_ => ?_
 obtain ⟨o, fd, ho, hd, hbody, hsc, hkind, hco, hgen, hglob, hblt, hclo, hcd, hbind⟩ := F.ex
 refine k_ ?_
 have base : cx.base.StaysIn s.heap := zZ O.stays zE
 have hlook : ∀ x, fd.scope.names.lookup x = zD x r.sc := fun x => by rw [hsc, wK]
 obtain hcr : s.heap.CodeRec fd.code fd.qualname := by
  refine w9 (hcd) fun c oc vs tq hc hoc r => ?_
  exact ud c oc vs tq hc (base _ _ hoc) r
 have mem_p : ∀ y ∈ r.ps.zip vals, y.1 ∈ r.ps := fun y hy => (of_mem_zip hy).1
 refine wpAny_call (codeAny_call_cells (by obtain this := hk.depth; show A.depth < 1000; lia) (base _ _ ho) hd (hlim.keeps base) hcr hbody (hbind vals hvl) hclo (fun y hy => ?_) (fun s₁ X => ?_) hco hgen hkind)
 ·rw [hlook]
  refine xL (F.kinds y.1 (mem_p y hy)) (fun q => ?_) fun q w => ?_
  ·exact .inl q
  ·exact .inr ⟨q, by rw [hsc]; exact w _⟩
 refine zx (X.done) fun h₁ tk₁ e₁ kp => ?_
 obtain hns := X.toInCall.ns
 obtain env_kind : ∀ x, (callEnvC fd s.heap.objs.size fa).kindOf x = zD x r.sc := fun x => hlook x
 obtain e₁h : s₁.heap = h₁ := by rw [e₁]
 have kp' : ∀ b o, s.heap.get? b = some o → s₁.heap.get? b = some o := fun b o e => by rw [e₁h]; exact kp b o e
 refine zb (id O.frames) fun frs hfr ff => ?_
 have nd : ((r.ps.zip vals).map (·.1)).Nodup := by rw [sM hvl]; exact F.nodup
 obtain newL : s.heap.get? (callEnvC fd s.heap.objs.size fa).locals = none := Heap.get?_none_of_le (Nat.le_refl _)
 obtain En : Entered cx A s (callEnvC fd s.heap.objs.size fa) r.ps vals s₁ := ⟨by rw [e₁], kp', ⟨hkind, hglob, hblt⟩, newL, fun p hp hl => .inl ⟨hl, _, hns, ti hl _ _ nd hp⟩⟩
 obtain kgv : (zc M s.heap).StaysIn (zc ([(callEnvC fd s.heap.objs.size fa).locals] ++ M) s₁.heap) := fun b o e => vis_get (kp' b o (zH e)) fun q => by
  refine zh (mem_append.mp q) (fun q => ?_) fun q => ?_
  ·rw [mem_singleton.mp q] at e; rw [zH e] at newL; injection newL
  ·exact zQ e q
 obtain rp := R.keeps kgv
 refine h _ s₁ ⟨by rw [e₁], kp', rfl, newL, ⟨frs, hfr⟩⟩ ⟨fun x e => by rw [env_kind]; exact e, fun x e => by rw [env_kind]; exact e, fun x e => by rw [env_kind]; exact e⟩ ?_
  ⟨hk.handled, by obtain this := hk.depth; show A.depth + 1 + n ≤ 990; lia, by obtain this := hk.units; show A.units + 3 + 4 * n + 300 ≤ 9900; lia⟩ (az O En rfl ⟨_, hns⟩ (fun x t e => ?_) ?_)
 ·refine rJ (hcd) fun c oc vs tq hc hoc hdc _ => ?_
  exact uc c oc vs hc hoc hdc
 ·refine yq (sO rp e) fun u y W0 hm hr => ?_
  refine (W0) ▸ ?_
  refine wc y u rfl ?_ hr
  refine xL (F.kinds x (mem_p _ hm)) (fun q => ?_) fun q w => ?_
  ·exact .inl ⟨by rw [env_kind]; exact q, _, hns, ti (by rw [env_kind]; exact q) _ _ nd hm⟩
  ·refine zd (Option.isSome_iff_exists.mp (w (s.heap.objs.size + 1))) fun c hc => ?_
   have hc' : (callEnvC fd s.heap.objs.size fa).cells.lookup x = some c := by show (cellsFrom (s.heap.objs.size + 1) fd.scope.names []).lookup x = some c; refine (hsc ..).symm ▸ ?_; exact hc
   refine zb (X.cell x c hc') fun oc hoc hdc => ?_
   refine .inr ⟨.inl (by rw [env_kind]; exact q), c, oc, hc', hoc, ?_⟩
   rw [hdc, oN (by rw [env_kind, q]; decide) _ _ nd hm]
 ·unfold yb
  split
  ·rename_i e
   refine zx (sO rp e) fun u y q _ => ?_
   injection q
  ·rfl
end
section
variable {cx : Cx} {A : Around} {env : Env} {Mi Mo : List Addr} {s : Shared} {K : Frag} {G : Str → Option V} {σ σ' : St} {n : Nat} {ρ : zf} {lx tl : Addr}
theorem vh.withLex {L : Option (Addr × Addr)} {h g : Heap} {x : Str} {t : Sl} (ht : t ≠ .v .lexer) (l : vh cx env Mi h g x t) : vh (cx.withLex L) env Mi h g x t := by
 cases t with
 | v y => refine zb (l) fun u h1 h2 => ?_; exact zg u h1 (h2.withLex fun q => ht (by exact q.symm ▸ rfl))
 | own1 l' => exact l
 | own2 l' => exact l
theorem aE (S : Sa cx A env Mi Mo ρ σ s.heap) (hnl : cx.lex = none) (k : Kp cx.X (Fs A) s.heap h') (newT : s.heap.get? tl = none) (L : zq (cx.withLex (some (lx, tl))) h' (zc (tl :: (Mi ++ Mo)) h') σ')
  (hρ : ∀ x, zt x ρ ≠ some (.v .lexer)) : Sa (cx.withLex (some (lx, tl))) A env Mi (tl :: Mo) ρ σ' h' := by
 obtain hX : (cx.withLex (some (lx, tl))).X = [tl] := rfl
 obtain sw : ∀ b, b ∈ Mi ++ (tl :: Mo) ↔ b ∈ tl :: (Mi ++ Mo) := fun b => by
  simp only [mem_append, mem_cons]
  constructor
  ·rintro (q | q | q)
   ·exact .inr (.inl q)
   ·exact .inl q
   ·exact .inr (.inr q)
  ·rintro (q | q | q)
   ·exact .inr (.inl q)
   ·exact .inl q
   ·exact .inr (.inr q)
 obtain L' : zq (cx.withLex (some (lx, tl))) h' (zc (Mi ++ (tl :: Mo)) h') σ' := L.step (xk fun b hb => (sw b).mp hb) fun _ _ _ hl => hl
 have S' : Sa cx A env Mi ([tl] ++ Mo) ρ σ' h' := S.hide' (fun b q => by refine (mem_singleton.mp q ..).symm ▸ ?_; exact newT) k (fun b q => by
  refine (mem_singleton.mp q ..).symm ▸ ?_
  exact L.live tl (by rw [hX]; exact mem_singleton.mpr rfl)) (by unfold zq; refine (hnl ..).symm ▸ ?_; trivial)
 refine ⟨⟨S'.ok.stays, S'.ok.live, S'.ok.frames, S'.ok.fin, fun b hb q => ?_, fun b hb => ?_, L'⟩, S'.ek, S'.ns, S'.lin, fun b hb => ?_, S'.dis, fun x t e => (S'.loc x t e).withLex fun q => hρ x (q ▸ e), S'.two⟩
 ·rw [hX] at q
  rw [mem_singleton.mp q] at hb
  refine zd (S.ok.live tl (S.ok.fin tl hb)) fun o e => ?_
  rw [newT] at e; exact nn e
 ·rw [hX] at hb
  rw [mem_singleton.mp hb]
  exact mem_append_right _ (mem_cons_self ..)
 ·rw [hX] at hb
  rw [mem_singleton.mp hb]
  exact mem_cons_self ..
end
noncomputable def nS : Str := "s"
noncomputable def oS : Str := "lexer"
noncomputable def oT : Str := "BoolExprLexer"
noncomputable def aF (d : Str) (p : Nat → Pos) (rest : List Stmt) : List Stmt :=
 .Expr (.Constant (.str d) 0 (p 0)) (p 1) :: .Assign [.Name oS (p 2)] (.Call (.Name oT (p 3)) [.Name nS (p 4)] [] (p 5)) (p 6) :: rest
structure ParseAt (cx : Cx) (K : Frag) (fa : Addr) (r : FnR) (rest : List Stmt) : Prop where
 fn : FnAt cx fa r
 ps : r.ps = [nS]
 l1 : zN r.sc nS = true
 l2 : zN r.sc oS = true
 g1 : zD oT r.sc = some .globalImplicit
 body : ∃ d p, r.body = aF d p rest
 lexC : cx.mg oT = some (.ref cx.lexC)
 keep : keepIn K (.ref cx.lexC) = true
noncomputable def tn (row : List Tk) : zf := [(nS, .v (.dat (uD row))), (oS, .v .lexer)]
section
variable {cx : Cx} {A : Around} {M : List Addr} {s : Shared} {K : Frag} {G : Str → Option V} {σ : St} {n : Nat}
theorem aG {C : Str → List V → St → Out} (X : NewK cx K) (LM : LexMake cx K) (XL : LexK cx K) (W : Wd cx G) (hG : ∀ x, G x ≠ some .lexer) (Pr : ∀ L, Prim (cx.withLex L)) (CO : ∀ L, x5 (cx.withLex L) n C) (hnl : cx.lex = none)
  {fa : Addr} {rest : List Stmt} (PA : ParseAt cx K fa r rest) {row : List Tk} {out : Out} (hf : zi (row.length + 1) = true)
  (h : xs C G 100 true r.sc (tn row) rest (fun _ σ => .ok (.dat .none) σ) (row ++ [xG]) = out) (hd : ∀ x σ', out = .ok x σ' → ∃ d, x = .dat d) (hb : out ≠ .bad)
  (hk : Rm A (n + 5)) (O : Ok cx A M s.heap σ) (R : Rp cx (zc M s.heap) u (.dat (uD row)))
  (hQ : ∀ d σ' v s', out = .ok (.dat d) σ' → Nx cx A s s' → Rp cx (zc M s'.heap) v (.dat d) → Q v s') (hE : ∀ e s', ErrE cx A true out s e s' → E e s') :
  wpAny (Mod cx) A (call (.ref fa) [u]) Q E s := by
 refine jX (n := n + 4) (args := [.dat (uD row)]) X.nolimit PA.fn (by rw [PA.ps]; rfl) hk O ⟨R, trivial⟩ fun env s₁ Fr so hcode hk' S₁ => ?_
 refine zM (PA.body) fun dc pp hbe => ?_
 ·refine (hbe ..).symm ▸ ?_
  obtain S₁ := (PA.ps ..) ▸ S₁
  have S₁ : Sa cx (A.deeper env) env [env.locals] M [(nS, .v (.dat (uD row)))] σ s₁.heap := S₁
  obtain st₁ := S₁.base
  have XK : K.In s₁.heap := fun a o e => st₁ _ _ (X.cls.inb a o e)
  refine wpAny_execs_cons (wpAny_Expr (wpAny_Constant_str ?_) (vm S₁.ek) rfl)
  generalize hs1 : ({ s₁ with toks := s₁.toks + 1 } : Shared) = s1
  obtain hh1 : s1.heap = s₁.heap := by exact hs1 ▸ rfl
  rw [← hh1] at S₁ st₁ XK
  have F1 : Fm cx A env M s s1 := ⟨by exact hs1 ▸ Fr.eq.symm ▸ rfl, by refine (hh1 ..).symm ▸ ?_; exact Fr.kp, Fr.fr, Fr.new, Fr.frs⟩
  refine zb (S₁.loc nS _ rfl) fun u' lu ru => ?_
  refine wpAny_execs_cons (wpAny_Assign_Name ?_ rfl)
  refine Call_Name rfl (Name_function_global S₁.ek.kind (so.glob _ PA.g1) (loadGlobal_global (by rw [S₁.ek.globals]; exact X.g.keeps st₁) PA.lexC ?_) (by rfl))
  refine callWith_K (h₀ := s1.heap) XK PA.keep ?_
  refine spliced_cons (vn S₁.ek lu (by rfl) (spliced_nil ⟨XK, ?_⟩))
  refine aD X LM XL W hG ⟨hk'.handled, by obtain this := hk'.depth; lia, by obtain this := hk'.units; lia⟩ S₁.ok hnl ru hf fun lx tl s₂ N₂ newX newT L₂ => ?_
  obtain S₂ := aE S₁ hnl N₂.kp newT L₂ (fun x q => by
   dsimp only [zt] at q
   cases e : nS == x with
   | true => replace q := (e ..) ▸ q; cases q
   | false => replace q := (e ..) ▸ q; exact nn q)
  refine store_val (cx := cx.withLex (some (lx, tl))) (y := .lexer) S₂ (so.loc _ (yl PA.l2)) ⟨lx, tl, rfl, rfl⟩ fun s₃ N₃ S₃ _ => ?_
  have hs₃ : s₃ = { s1 with heap := s₃.heap, toks := s₃.toks } := by rw [N₃.eq, N₂.eq]
  obtain newL : s.heap.get? env.locals = none := F1.new
  obtain newT' : s.heap.get? tl = none := by
   cases e : s.heap.get? tl with
   | none => rfl
   | some o => rw [F1.kp _ _ e] at newT; exact nn newT.symm
  have hZ : ∀ b ∈ [env.locals] ++ [tl], s.heap.get? b = none ∨ b ∈ cx.X := fun b hb => by
   refine zh (mem_append.mp hb) (fun q => ?_) fun q => ?_
   ·rw [mem_singleton.mp q]; exact .inl newL
   ·rw [mem_singleton.mp q]; exact .inl newT'
  have hX0 : cx.X = [] := by unfold Cx.X; exact hnl.symm ▸ rfl
  have k2 : Kp ([env.locals] ++ [tl]) (Fs (A.deeper env)) s1.heap s₃.heap := (N₂.kp.mono (fun b hb => by replace hb := (hX0 ..) ▸ hb; cases hb) fun _ h => h).trans N₃.kp
  refine oM (cx := cx.withLex (some (lx, tl))) (W.withLex (L := some (lx, tl)) hG) (Pr _) (CO _) ⟨hk'.handled, by obtain this := hk'.depth; lia, by obtain this := hk'.units; lia⟩ 100 true r.sc rest so (fun _ => hcode) (tn row) [env.locals] (tl :: M) _ (row ++ [xG]) out s₃ _ _ h hb S₃ (fun ρ' σ' Mi' s' hK N g S' => ?_) (fun x σ' v s' ho N Rv L' => ?_) fun e s' x => ?_
  ·refine hQ .none σ' .none s' hK.symm ?_ ⟨_, .none⟩
   exact F1.back (by rw [N.eq, hs₃]) (k2.trans N.kp) hZ
  ·refine zd (hd x σ' ho) fun d W0 => ?_
   obtain rfl := W0
   obtain ⟨as, Rv⟩ := Rv
   exact hQ d σ' v s' ho (F1.back (by exact N.eq.symm ▸ hs₃.symm ▸ rfl) (k2.trans N.kp) hZ) ⟨as, Reads.keeps (xk fun b hb => mem_cons_of_mem _ hb) Rv⟩
  ·exact F1.leave hs₃ k2 hZ hZ x fun s'' z => hE _ _ z
end
end Mine
end
section
open PySem PySem.W PyProof.Rows PySem.Calls PySem.Spec
open Sem (wp)
set_option maxRecDepth 100000
namespace Mine
variable {I t : Addr} {items : Array Value} {Q : Value → Shared → Prop} {i : Int}
section
open PySem.F
theorem oU : Manifest.owners.lookup (String.ofList ['d', 'e', 's', 'r', 'e', 'v', 'e', 'r'].reverse) = some Manifest.sig_reversed := by kernel_rfl
theorem sU : Slot "reversed" "__next__" "reversed.__next__" :=
 .of (owner := "reversed") (n := "__next__") (by refine (typeLookup_type ..).symm ▸ (builtinLookup_eq_fast ..).symm ▸ ?_; kernel_rfl) (by rfl) (by rfl) (by rfl)
  (by first | exact .inl (by rfl) | exact .inr (by decide +kernel)) (by rw [isSubtype_type]; kernel_rfl)
theorem jY : entryFor table "reversed.__next__" = some Builtin.«reversed.__next__» := entryFor_of_tree rfl
theorem jZ (a : Value) : argsOk "reversed.__next__" ⟨[a], []⟩ := by
 unfold argsOk; refine (signature?_of (id := "reversed.__next__") (n := ['_', '_', 't', 'x', 'e', 'n', '_', '_']) (o := ['d', 'e', 's', 'r', 'e', 'v', 'e', 'r']) rfl oU ..).symm ▸ ?_; kernel_rfl
theorem j0 : Slot "reversed" "__iter__" "reversed.__iter__" :=
 .of (owner := "reversed") (n := "__iter__") (by refine (typeLookup_type ..).symm ▸ (builtinLookup_eq_fast ..).symm ▸ ?_; kernel_rfl) (by rfl) (by rfl) (by rfl)
  (by first | exact .inl (by rfl) | exact .inr (by decide +kernel)) (by rw [isSubtype_type]; kernel_rfl)
theorem aH (a : Value) : argsOk "reversed.__iter__" ⟨[a], []⟩ := by
 unfold argsOk; refine (signature?_of (id := "reversed.__iter__") (n := ['_', '_', 'r', 'e', 't', 'i', '_', '_']) (o := ['d', 'e', 's', 'r', 'e', 'v', 'e', 'r']) rfl oU ..).symm ▸ ?_; kernel_rfl
theorem aI : entryFor table "reversed.__iter__" = some Builtin.«dict_keyiterator.__iter__» :=
 entryFor_alias (id' := "dict_keyiterator.__iter__") rfl (by first | rfl | decide +kernel | (unfold String.splitOn; simp +decide [String.splitOnAux])) (by decide +kernel) rfl
theorem aJ : Slot "reversed" "__init__" "object.__init__" :=
 .of (owner := "object") (n := "__init__") (by refine (typeLookup_type ..).symm ▸ (builtinLookup_eq_fast ..).symm ▸ ?_; kernel_rfl) (by rfl) (by rfl) (by rfl)
  (by first | exact .inl (by rfl) | exact .inr (by decide +kernel)) (by rw [isSubtype_type]; kernel_rfl)
theorem oV : TypeCalled "reversed" "reversed.__new__" "object.__init__" :=
 ⟨by decide +kernel, create_reversed, ⟨_, _, mro_reversed⟩, made_reversed, plain_reversed_new, sub_reversed_self, aJ⟩
theorem aK : typeLookup (.type "tuple") "__reversed__" = pure none := by refine (typeLookup_type ..).symm ▸ (builtinLookup_eq_fast ..).symm ▸ ?_; kernel_rfl
theorem j1 : Slot "reversed" "__length_hint__" "reversed.__length_hint__" :=
 .of (owner := "reversed") (n := "__length_hint__") (by refine (typeLookup_type ..).symm ▸ (builtinLookup_eq_fast ..).symm ▸ ?_; kernel_rfl) (by rfl) (by rfl) (by rfl)
  (by first | exact .inl (by decide +kernel) | exact .inr (by rfl)) (by rw [isSubtype_type]; kernel_rfl)
theorem aL : entryFor table "reversed.__length_hint__" = some Builtin.«reversed.__length_hint__» := entryFor_of_tree rfl
theorem aM (a : Value) : argsOk "reversed.__length_hint__" ⟨[a], []⟩ := by
 unfold argsOk; refine (signature?_of (id := "reversed.__length_hint__") (n := ['_', '_', 't', 'n', 'i', 'h', '_', 'h', 't', 'g', 'n', 'e', 'l', '_', '_']) (o := ['d', 'e', 's', 'r', 'e', 'v', 'e', 'r']) rfl oU ..).symm ▸ ?_; kernel_rfl
theorem aN : typeLookup (.type "reversed") "__len__" = pure none := by refine (typeLookup_type ..).symm ▸ (builtinLookup_eq_fast ..).symm ▸ ?_; kernel_rfl
theorem aO : typeLookup (.type "reversed") "__length_hint__" = pure (some (.builtin "reversed.__length_hint__")) := by refine (typeLookup_type ..).symm ▸ (builtinLookup_eq_fast ..).symm ▸ ?_; kernel_rfl
end
section
variable {prog : Program} {w : World} {A : Around} {E : Value → Shared → Prop} {s : Shared}
theorem TA (a : Value) : Builtin.SmallTypes.newClass "reversed" ⟨[.type "reversed", a], []⟩ = pure (.type "reversed", [a]) := newClass_reversed a
theorem aP {Q₁ : Value → Shared → Prop} (ht : IsTup s.heap t items) (hz : (items.size : Int) < 2 ^ 63)
  (h : ∀ tk, Q₁ (.ref s.heap.objs.size) { s with heap := s.heap.push { cls := .type "reversed", data := .fields #[.ref t, rawInt ((items.size : Int) - 1)] }, toks := tk }) :
  codeAny (model prog w) A (.call (.builtin "reversed.__new__") ⟨[.type "reversed", .ref t], []⟩) (wants Q₁ E) s := by
 refine codeAny_of_tree ?_
 show wpAny _ A.in1 (do checkBuiltinCall "reversed.__new__" ⟨[.type "reversed", .ref t], []⟩; again (.builtin "reversed.__new__" ⟨[.type "reversed", .ref t], []⟩)) _ _ s
 refine wpAny_bind (wpAny_of_eq (F.newCall_reversed_1 _) (wpAny_pure ⟨plainId_quiet F.plain_reversed_new _, codeAny_builtin F.entry_reversed_new ?_⟩))
 refine (Around.under_plainId F.plain_reversed_new _ ..).symm ▸ ?_
 refine wpAny_bind (wpAny_of_eq (newClass_reversed _) ?_)
 try dsimp only
 refine wpAny_bind (wpAny_of_eq (a := ()) (by first | rfl | kernel_rfl) ?_)
 refine wpAny_bind (wpAny_of_eq (a := ()) (by first | rfl | kernel_rfl) ?_)
 try dsimp only
 refine wpAny_bind (wpAny_specialOf ht.typeIs aK ?_)
 try dsimp only
 refine wpAny_bind ?_
 wp_delta
 refine wpAny_bind (wpAny_isInstance (T := "tuple") (b := false) ht.typeIs F.sub_tuple_dict ?_)
 rw [if_neg (by decide)]
 refine wpAny_bind (wpAny_specialOf ht.typeIs slot_tuple_getitem.lookup ?_)
 try dsimp only
 rw [if_pos (by rfl)]
 refine wpAny_pure ?_
 rw [if_neg (by decide)]
 refine wpAny_bind (len_tuple ht hz ?_)
 refine wpAny_bind (wpAny_of_eq (a := some (items.size : Int)) (by first | rfl | (unfold asInt?; rfl)) ?_)
 try dsimp only
 refine wpAny_bind ?_
 show wpAny _ _ (newObj (.type "reversed") (.fields [Value.ref t, rawInt ((items.size : Int) - 1)].toArray)) _ _ _
 refine wpAny_newObj_type ?_
 exact wpAny_pure (h _)
theorem aQ (ht : IsTup s.heap t items) (hz : (items.size : Int) < 2 ^ 63)
  (h : ∀ tk, Q (.ref s.heap.objs.size) { s with heap := s.heap.push { cls := .type "reversed", data := .fields #[.ref t, rawInt ((items.size : Int) - 1)] }, toks := tk }) : wpAny (model prog w) A (call (.type "reversed") [.ref t]) Q E s :=
 callType_codes (Q₁ := fun obj s₁ => s₁.TypeIs obj "reversed" ∧ Q obj s₁) oV (F.typeCall_reversed_1 _) F.entry_object_init
  (aP ht hz fun tk => ⟨⟨_, Heap.get?_push_size _ rfl, rfl⟩, h tk⟩) fun obj s₁ h₁ =>
  ⟨h₁.1, F.args_object_init_2 obj _, object_init_meets oV.init.lookup oV.made (by rfl) prog w A.in1 _ s₁ ⟨h₁.1, rfl, h₁.2⟩⟩
noncomputable def xQ (h : Heap) (I t : Addr) (i : Int) : Prop := ∃ o, h.get? I = some o ∧ o.cls = .type "reversed" ∧ o.data = .fields #[.ref t, rawInt i]
theorem xQ.typeIs (x : xQ s.heap I t i) : s.TypeIs (.ref I) "reversed" := let ⟨o, ho, hc, _⟩ := x; ⟨o, ho, hc⟩
theorem xQ.at {h h' : Heap} (x : xQ h I t i) (e : ∀ o, h.get? I = some o → h'.get? I = some o) : xQ h' I t i := let ⟨o, ho, r⟩ := x; ⟨o, e _ ho, r⟩
theorem aR {i : Nat} {x : Value} {Q : Option Value → Shared → Prop} (hit : xQ s.heap I t (i : Int)) (ht : IsTup s.heap t items) (hx : items[i]? = some x) (hz : (items.size : Int) < 2 ^ 63)
  (hQ : ∀ h' tk, xQ h' I t ((i : Int) - 1) → Heap.SameBut I s.heap h' → Q (some x) { s with heap := h', toks := tk }) : wpAny (model prog w) A (pyNext (.ref I)) Q E s := by
 refine yv (id hit) fun o ho hc hd => ?_
 obtain hi : i < items.size := (Array.getElem?_eq_some_iff.mp hx).1
 refine wpAny_bind (wpAny_attempt (wpAny_callSpecial?_slot (name := Str.ofString "__next__") hit.typeIs sU
  (wpAny_call_entry sU hit.typeIs jY ?_ (jZ _))))
 refine wpAny_bind (wpAny_of_eq (a := (Value.ref I, [])) rfl ?_)
 try dsimp only
 refine wpAny_bind (wpAny_field ho hd (x := .ref t) rfl ?_)
 refine wpAny_bind (wpAny_field ho hd (x := rawInt (i : Int)) rfl ?_)
 show wpAny _ _ (if (i : Int) < 0 then _ else _) _ _ s
 rw [if_neg (by lia)]
 refine wpAny_bind (wpAny_specialOf ht.typeIs slot_tuple_getitem.lookup ?_)
 rw [if_neg (by decide)]
 refine wpAny_bind (wpAny_mkInt ?_)
 refine wpAny_bind (wpAny_attempt (getItem_tuple (s := { s with toks := s.toks + 1 }) ht (by lia) (by lia) (k := i) ?_ hx ?_))
 ·show seqIndex? (i : Int) items.size = some i
  unfold seqIndex?
  simp [show ¬ ((i : Int) < 0) by lia, hi]
 try dsimp only
 refine wpAny_bind (wpAny_field (s := { s with toks := s.toks + 1 }) ho hd (x := rawInt (i : Int)) rfl ?_)
 refine wpAny_bind (wpAny_setField (s := { s with toks := s.toks + 1 }) ho hd (by simp) ?_)
 refine wpAny_pure ⟨x, rfl, wpAny_pure (hQ _ _ ?_ (Heap.SameBut.update ..))⟩
 exact (wb _ (Heap.get?_update_self _ ho (Obj.isFreed_of_fields (Obj.data_mapFields hd _))) ((Obj.cls_mapFields ..).trans hc) (by
  rw [Obj.data_mapFields hd]; rfl))
theorem aS {Q : Option Value → Shared → Prop} (hh : A.handled = none) (hit : xQ s.heap I t (-1))
  (hQ : ∀ h', Heap.ExtBut I s.heap h' → Q none { s with heap := h' }) : wpAny (model prog w) A (pyNext (.ref I)) Q E s := by
 refine zo fun R_ k_ => ?_
 refine yv (id hit) fun o ho hc hd => ?_
 refine k_ ?_
 refine wpAny_bind (wpAny_attempt (wpAny_callSpecial?_slot (name := Str.ofString "__next__") hit.typeIs sU
  (wpAny_call_entry sU hit.typeIs jY ?_ (jZ _))))
 refine wpAny_bind (wpAny_of_eq (a := (Value.ref I, [])) rfl ?_)
 try dsimp only
 refine wpAny_bind (wpAny_field ho hd (x := .ref t) rfl ?_)
 refine wpAny_bind (wpAny_field ho hd (x := rawInt (-1)) rfl ?_)
 show wpAny _ _ (if (-1 : Int) < 0 then _ else _) _ _ s
 rw [if_pos (by decide)]
 refine wpAny_bind (wpAny_rule ?_)
 refine wpAny_bind ?_
 wp_delta
 refine wpAny_bind (wpAny_setField ho hd (by simp) ?_)
 obtain ho₁ := Heap.get?_update_self (Obj.mapFields (·.setIfInBounds 1 (rawInt (-1)))) ho (Obj.isFreed_of_fields (Obj.data_mapFields hd _))
 obtain hd₁ := Obj.data_mapFields hd (·.setIfInBounds 1 (rawInt (-1)))
 refine wpAny_setField (s := { s with heap := _ }) ho₁ hd₁ (by simp) ?_
 obtain hx : Heap.ExtBut I s.heap ((s.heap.update I (Obj.mapFields (·.setIfInBounds 1 (rawInt (-1))))).update I (Obj.mapFields (·.setIfInBounds 0 Value.none))) := fun b o hb e =>
  (Heap.get?_update_other _ _ (Ne.symm hb)).trans ((Heap.get?_update_other _ _ (Ne.symm hb)).trans e)
 refine wpAny_bind ?_
 refine wpAny_bind ?_
 simp only [newExc, newTuple]
 refine wpAny_bind (wpAny_newObj_type ?_ (by size_fits))
 refine wpAny_bind (m := firstArgMember _ _) (wpAny_of_eq (a := Value.none) (by first | rfl | (simp only [firstArgMember]; rfl)) ?_)
 refine wpAny_newObj_type ?_ (by size_fits)
 dsimp only [raiseNew]
 refine wpAny_bind (wpAny_handled ?_)
 first | rw [show A.in1.handled = none from hh] | rw [hh]
 refine wpAny_bind (wpAny_pure (wpAny_throw ?_))
 refine wpAny_bind (wpAny_isInstance (T := "StopIteration") (b := true) ⟨_, Heap.get?_push_size _ rfl, rfl⟩ isSubtype_stop ?_)
 exact wpAny_pure (hQ _ ((hx.push _).push _))
theorem j2 (hit : xQ s.heap I t i) (h : Q (.ref I) s) : wpAny (model prog w) A (pyIter (.ref I)) Q E s := by
 refine wpAny_pyIter_slot hit.typeIs j0 (wpAny_call_entry j0 hit.typeIs aI ?_ (aH _))
 exact wpAny_pure ⟨_, rfl, "reversed", _, hit.typeIs, sU.lookup, h⟩
theorem aT (hh : A.handled = none) (I t : Addr) (hne : t ≠ I) (items : Array Value) (hz : (items.size : Int) < 2 ^ 63) :
  Walks prog w A I [I, t] [I] items.size (fun i v => items[items.size - 1 - i]? = some v) (fun i h => i ≤ items.size ∧ xQ h I t ((items.size : Int) - 1 - (i : Int)) ∧ IsTup h t items) where
 sub := fun b hb => by simp at hb; simp [hb]
 frame := fun _ _ _ x hk => (yV (x.1) (x.2.1.at fun o e => hk I (by simp) o e) (by refine zb (x.2.2) fun o e r => ?_; exact (zg o (hk t (by simp) o e) r)))
 item := fun i s Q E hi x hQ => by
  have e : (items.size : Int) - 1 - (i : Int) = ((items.size - 1 - i : Nat) : Int) := by (first | lia | omega)
  obtain hit := x.2.1
  rw [e] at hit
  obtain hx : items[items.size - 1 - i]? = some (items[items.size - 1 - i]'(by lia)) := Array.getElem?_eq_getElem (by lia)
  refine aR hit x.2.2 hx hz fun h' tk hit' hs' => ?_
  obtain e2 : ((items.size - 1 - i : Nat) : Int) - 1 = (items.size : Int) - 1 - ((i + 1 : Nat) : Int) := by (first | lia | omega)
  rw [e2] at hit'
  exact hQ _ h' tk hx ⟨hi, hit', x.2.2.extBut hs'.extBut hne⟩ fun b o hb eo => hs'.extBut b o (fun h => hb (by simp [h])) eo
 done := fun s Q E x hQ => by
  obtain e : (items.size : Int) - 1 - (items.size : Int) = -1 := by lia
  obtain hit := x.2.1
  rw [e] at hit
  exact aS hh hit fun h' he' => hQ h' s.toks fun b o hb eo => he' b o (fun h => hb (by simp [h])) eo
 self := fun _ _ _ _ x hQ => j2 x.2.1 hQ
theorem aU (k : Int) (u : Tok) : asInt? (.int k u) = pure (some k) := by first | rfl | (unfold asInt?; rfl)
theorem aV {Q : List Value → Shared → Prop} (hh : A.handled = none) (hit : xQ s.heap I t ((items.size : Int) - 1)) (ht : IsTup s.heap t items) (hne : t ≠ I) (hz : items.size ≤ sizeLine)
  (hQ : ∀ h' tk, (∀ b o, b ≠ I → s.heap.get? b = some o → h'.get? b = some o) → Q items.toList.reverse { s with heap := h', toks := tk }) : wpAny (model prog w) A (collect (.ref I)) Q E s := by
 have hz63 : (items.size : Int) < 2 ^ 63 := by rw [sizeLine_eq] at hz; lia
 obtain W := (aT (prog := prog) (w := w) (A := A.in1) hh I t hne items hz63).toS
 obtain itI : I < s.heap.objs.size := by refine zb (hit) fun o e _ => ?_; exact Heap.lt_size e
 obtain itT : t < s.heap.objs.size := ht.lt
 have hSI : s.heap.objs.size ≠ I := Nat.ne_of_gt itI
 obtain hSf : s.heap.objs.size ∉ [I, t] := fun hm => by
  refine zh (mem_cons.mp hm) (fun q => ?_) fun q => ?_
  ·exact hSI q
  ·exact absurd (mem_singleton.mp q) (Nat.ne_of_gt itT)
 refine wpAny_bind (wpAny_runValue (codeAny_builtin F.entry_proto_collect ?_))
 refine (Around.under_plainId F.plain_proto_collect _ ..).symm ▸ ?_
 refine wpAny_bind (wpAny_newObj_type ?_)
 refine wpAny_pure ⟨plainId_quiet F.plain_list_iadd _, codeAny_builtin F.entry_list_iadd ?_⟩
 refine (Around.under_plainId F.plain_list_iadd _ ..).symm ▸ ?_
 have hit₁ : xQ (s.heap.push { cls := .type "list", data := .seq ([] : List Value).toArray }) I t ((items.size : Int) - 1) := hit.at fun o e => Heap.get?_push_of_some _ e
 obtain ht₁ : IsTup (s.heap.push { cls := .type "list", data := .seq ([] : List Value).toArray }) t items := ht.push _
 obtain hS₁ : (s.heap.push { cls := .type "list", data := .seq ([] : List Value).toArray }).get? s.heap.objs.size = some { cls := .type "list", data := .seq ([] : List Value).toArray } := Heap.get?_push_size _ rfl
 obtain h1 : Builtin.List.listSameRef (.ref s.heap.objs.size) (.ref I) = false := by simp [Builtin.List.listSameRef, hSI]
 obtain h2 : (Value.type "reversed" == Value.type "list") = false := by rfl
 have h3 : (Value.type "reversed" == Value.type "tuple") = false := by assumption
 show wpAny _ A.in1 (Builtin.List.listExtendWith (.ref s.heap.objs.size) (.ref I) (.ref s.heap.objs.size)) _ _ _
 refine wpAny_bind (wpAny_typeOf (s := { s with heap := _ }) hit₁.typeIs ?_)
 simp only [h1, h2, h3, Bool.or_false, Bool.false_eq_true, if_false]
 refine wpAny_bind (j2 (s := { s with heap := _ }) hit₁ ?_)
 refine wpAny_bind (wpAny_holding ?_)
 refine wpAny_bind (wpAny_specialOf (s := { s with heap := _ }) hit₁.typeIs aN ?_)
 refine wpAny_bind (wpAny_specialOf (s := { s with heap := _ }) hit₁.typeIs aO ?_)
 generalize hid : ("reversed.__length_hint__" : String) = id0
 wp_delta
 rw [show splitId id0 = some ("reversed", "__length_hint__") from by subst hid; rfl]
 subst hid
 refine wpAny_bind (wpAny_isInstance (s := { s with heap := _ }) (T := "reversed") (b := true) hit₁.typeIs F.sub_reversed_self ?_)
 rw [if_neg (by decide)]
 rw [if_neg (by trivial)]
 refine wpAny_bind (wpAny_rule ?_)
 refine wpAny_bind (wpAny_of_eq (j1.bind _) ?_)
 try dsimp only
 obtain hint : ∀ {Q' : Value → Shared → Prop} {E' : Value → Shared → Prop}, (∀ tk u, Q' (.int (items.size : Int) u) { s with heap := s.heap.push { cls := .type "list", data := .seq ([] : List Value).toArray }, toks := tk }) → wpAny (model prog w) A.in1 (call (.builtin "reversed.__length_hint__") [.ref I]) Q' E' { s with heap := s.heap.push { cls := .type "list", data := .seq ([] : List Value).toArray } } := fun {Q' E'} hq => by
  refine yv (id hit₁) fun o ho hc hd => ?_
  refine wpAny_call_entry j1 (s := { s with heap := _ }) hit₁.typeIs aL ?_ (aM _)
  refine wpAny_bind (wpAny_of_eq (a := Value.ref I) rfl ?_)
  refine wpAny_bind (wpAny_field ho hd (x := .ref t) rfl ?_)
  rw [if_neg (show ¬ ((Value.ref t == Value.none) = true) from by simp)]
  refine wpAny_bind (len_tuple (s := { s with heap := _ }) ht₁ hz63 ?_)
  refine wpAny_bind (wpAny_of_eq (a := some (items.size : Int)) (by first | rfl | (unfold asInt?; rfl)) ?_)
  try dsimp only
  refine wpAny_bind (wpAny_field (s := { s with heap := _, toks := _ }) ho hd (x := rawInt ((items.size : Int) - 1)) rfl ?_)
  show wpAny _ _ (if (items.size : Int) < (items.size : Int) - 1 + 1 then _ else _) _ _ _
  rw [if_neg (by lia)]
  show wpAny _ _ (retInt ((items.size : Int) - 1 + 1)) _ _ _
  rw [show (items.size : Int) - 1 + 1 = (items.size : Int) by lia]
  exact wpAny_bind (wpAny_mkInt (wpAny_pure ⟨_, rfl, hq _ _⟩))
 refine wpAny_bind (wpAny_attempt (hint fun tk u => ?_))
 try dsimp only
 rw [aU, pure_bind]
 try dsimp only
 obtain hfit : Builtin.List.listFitsIndex (items.size : Int) = true := by simp [Builtin.List.listFitsIndex]; assumption
 obtain hnl : Builtin.List.listTooLong (Int.toNat (items.size : Int)) = false := by
  simp [Builtin.List.listTooLong]; assumption
 rw [hfit, hnl, if_neg (by decide), if_neg (by lia), if_neg (by decide)]
 refine wpAny_pure ?_
 obtain loop : ∀ (R : Result → Shared → Prop) (H : Heap) (tk' : Nat) (c : Nat), (∀ b o, b ≠ s.heap.objs.size → (s.heap.push { cls := .type "list", data := .seq ([] : List Value).toArray }).get? b = some o → H.get? b = some o) →
   H.get? s.heap.objs.size = some { cls := .type "list", dict := none, data := .seq #[] c, slots := #[] } →
   (∀ (h' : Heap) tk acc c', (∀ b o, b ≠ I → s.heap.get? b = some o → h'.get? b = some o) → acc.toList = items.toList.reverse → h'.get? s.heap.objs.size = some { cls := .type "list", dict := none, data := .seq acc c', slots := #[] } → R (.ok (.ret (.ref s.heap.objs.size))) { s with heap := h', toks := tk }) →
   codeAny (model prog w) A (.builtin "list.extend.loop" ⟨[.ref s.heap.objs.size, .ref I, .ref s.heap.objs.size], []⟩) R { s with heap := H, toks := tk' } := fun R H tk' c hk hS hR => by
  obtain hI : xQ H I t ((items.size : Int) - 1 - ((0 : Nat) : Int)) := by
   rw [show (items.size : Int) - 1 - ((0 : Nat) : Int) = (items.size : Int) - 1 by lia]
   exact hit₁.at fun o e => hk I o (Ne.symm hSI) e
  obtain hT : IsTup H t items := by refine zb (ht₁) fun o e r => ?_; exact zg o (hk t o (Nat.ne_of_lt itT) e) r
  refine codeAny_extend_loopS W hz _ hSf _ items.size 0 { s with heap := H, toks := tk' } #[] c (by lia) (Nat.zero_le _) ⟨Nat.zero_le _, hI, hT⟩ hS (ItemsOf.nil _) fun s' acc' c' hm hS' hacc => ?_
  obtain e1 : acc'.toList = items.toList.reverse := by
   refine ze (hacc) fun hsz hv => ?_
   refine List.ext_getElem (by simp [hsz]) fun j h1 h2 => ?_
   obtain h1' : j < acc'.size := by simpa using h1
   obtain q : items[items.size - 1 - j]? = some acc'[j] := hv j acc'[j] (Array.getElem?_eq_getElem h1')
   obtain h3 : items.size - 1 - j < items.size := by (first | lia | omega)
   rw [Array.getElem?_eq_getElem h3] at q
   obtain q' := Option.some.inj q
   simp only [Array.getElem_toList, List.getElem_reverse, Array.length_toList]
   exact q'.symm
  obtain e2 : s' = { s with heap := s'.heap, toks := s'.toks } := by
   obtain ⟨_, hg, hdr, hos, _⟩ := hm
   obtain ⟨a1, a2, a3, a4, a5⟩ := s'
   simp only at hg hdr hos
   subst hg hdr hos
   rfl
  rw [e2]
  refine hR s'.heap s'.toks acc' c' (fun b o hb e => ?_) e1 hS'
  obtain nS : b ≠ s.heap.objs.size := Nat.ne_of_lt (Heap.lt_size e)
  exact hm.heap b o (fun q => by
   refine zh (mem_cons.mp q) (fun q => ?_) fun q => ?_
   ·exact nS q
   ·exact hb (mem_singleton.mp q)) (hk b o nS (Heap.get?_push_of_some _ e))
 cases hb : ((items.size : Int) != 0) with
 | false =>
  rw [if_neg (by trivial)]
  refine wpAny_pure ⟨plainId_quiet F.plain_extend_loop _, loop _ _ _ 0 (fun b o _ e => e) hS₁ fun h' tk acc c' kp e1 hS' => ?_⟩
  refine wpAny_bind (wpAny_load hS' (wpAny_pure ?_))
  show Q acc.toList _
  refine (e1 ..).symm ▸ ?_
  exact hQ h' tk kp
 | true =>
  rw [if_pos (by rfl)]
  refine wpAny_bind (wpAny_rule ?_)
  refine wpAny_bind ?_
  refine wpAny_bind (wpAny_updateSeq hS₁ rfl ?_ (by decide) (by decide))
  obtain hS₂ := Heap.get?_update_self (Obj.mapSeq (·.push Value.none)) hS₁ rfl
  refine wpAny_updateSeq hS₂ rfl ?_ (by decide) (by decide)
  obtain hS₃ := Heap.get?_update_self (Obj.mapSeq (·.pop)) hS₂ rfl
  refine wpAny_pure ⟨plainId_quiet F.plain_extend_loop _, loop _ _ _ _ (fun b o hb e => (Heap.get?_update_other _ _ (Ne.symm hb)).trans ((Heap.get?_update_other _ _ (Ne.symm hb)).trans e)) hS₃ fun h' tk acc c' kp e1 hS' => ?_⟩
  refine wpAny_bind (wpAny_load hS' (wpAny_pure ?_))
  show Q acc.toList _
  refine (e1 ..).symm ▸ ?_
  exact hQ h' tk kp
theorem aW {Q₁ : Value → Shared → Prop} (hh : A.handled = none) (hit : xQ s.heap I t ((items.size : Int) - 1)) (ht : IsTup s.heap t items) (hne : t ≠ I) (hz : items.size ≤ sizeLine)
  (h : ∀ (h' : Heap) tk, (∀ b o, b ≠ I → s.heap.get? b = some o → h'.get? b = some o) → Q₁ (.ref h'.objs.size) { s with heap := h'.push { cls := .type "tuple", data := .seq items.toList.reverse.toArray }, toks := tk }) :
  codeAny (model prog w) A (.call (.builtin "tuple.__new__") ⟨[.type "tuple", .ref I], []⟩) (wants Q₁ E) s := by
 refine codeAny_of_tree ?_
 refine wpAny_bind (wpAny_of_eq (F.newCall_tuple_1 _) (wpAny_pure ⟨plainId_quiet F.plain_tuple_new _, codeAny_builtin F.entry_tuple_new ?_⟩))
 refine (Around.under_plainId F.plain_tuple_new _ ..).symm ▸ ?_
 obtain hsub := sub_tuple_self
 obtain hinit := init_tuple_lookup
 have hmh := madeHere_tuple
 have hTI := hit.typeIs
 wp_walk using wpAny_typeOf hTI, aV (A := A.in1) hh hit ht hne hz
 intro h' tk kp
 show wpAny _ _ (Builtin.Tuple.tupleExact items.toList.reverse.toArray >>= fun v => ret v) _ _ _
 refine wpAny_bind (wpAny_newObj_type ?_ (by show items.toList.reverse.toArray.size ≤ sizeLine; simpa using hz))
 exact wpAny_pure (h h' tk kp)
theorem aX (hh : A.handled = none) (ht : IsTup s.heap t items) (hz : items.size ≤ sizeLine)
  (h : ∀ (h' : Heap) tk, (∀ b o, s.heap.get? b = some o → h'.get? b = some o) → Q (.ref h'.objs.size) { s with heap := h'.push { cls := .type "tuple", data := .seq items.toList.reverse.toArray }, toks := tk }) :
  wpAny (model prog w) A (call (.type "reversed") [.ref t]) (fun v s₁ => wpAny (model prog w) A (call (.type "tuple") [v]) Q E s₁) E s := by
 obtain hz63 : (items.size : Int) < 2 ^ 63 := by rw [sizeLine_eq] at hz; lia
 obtain hlt := ht.lt
 refine aQ ht hz63 fun tk => ?_
 refine callType_codes (Q₁ := fun obj s₁ => s₁.TypeIs obj "tuple" ∧ Q obj s₁) F.called_tuple (F.typeCall_tuple_1 _) F.entry_object_init
  (aW (s := { s with heap := s.heap.push { cls := .type "reversed", data := .fields #[.ref t, rawInt ((items.size : Int) - 1)] }, toks := tk }) hh ⟨_, Heap.get?_push_size _ rfl, rfl, rfl⟩ (ht.push _) (Nat.ne_of_lt hlt) hz fun h' tk' kp => ⟨⟨_, Heap.get?_push_size _ rfl, rfl⟩, ?_⟩) fun obj s₁ h₁ => ?_
 ·exact h h' tk' fun b o e => kp b o (Nat.ne_of_lt (Heap.lt_size e)) (Heap.get?_push_of_some _ e)
 ·exact yV (h₁.1) (F.args_object_init_2 obj _) (object_init_meets F.called_tuple.init.lookup F.called_tuple.made (by rfl) prog w A.in1 _ s₁ ⟨h₁.1, rfl, h₁.2⟩)
end
end Mine
end
section
open PySem PySem.W PyProof.Rows PySem.Calls PySem.Spec
set_option maxRecDepth 100000
namespace Mine
variable {r : FnR}
noncomputable abbrev Cx.up (cx : Cx) (b : Heap) (L : Option (Addr × Addr)) : Cx := { cx with base := b, lex := L }
noncomputable def yn : Str := "parse"
section
variable {cx : Cx} {K : Frag} {G : Str → Option V} {L : Option (Addr × Addr)} {b : Heap}
theorem oW (st : cx.base.StaysIn b) (X : K.In cx.base) : K.In b := fun a o e => st _ _ (X a o e)
theorem j3 (st : cx.base.StaysIn b) {c : Value} {q : Str} (X : cx.base.CodeRec c q) : b.CodeRec c q := by
 refine w9 (X) fun c oc vs tq hc hoc r => ?_
 exact ud c oc vs tq hc (st _ _ hoc) r
theorem FnAt.up (st : cx.base.StaysIn b) {f : Addr} {r : FnR} (X : FnAt cx f r) : FnAt (cx.up b L) f r := by
 refine zo fun R_ k_ => ?_
 obtain ⟨o, fd, ho, hd, hbody, hsc, hkind, hco, hgen, hglob, hblt, hclo, hcd, hbind⟩ := X.ex
 refine k_ ?_
 exact ⟨⟨o, fd, st _ _ ho, hd, hbody, hsc, hkind, hco, hgen, hglob, hblt, hclo, j3 st hcd, hbind⟩, X.nodup, X.kinds⟩
theorem GetFn.up (st : cx.base.StaysIn b) {f : Addr} {r : FnR} (X : GetFn cx f r) : GetFn (cx.up b L) f r := by
 refine zo fun R_ k_ => ?_
 obtain ⟨o, fd, ho, hd, hbody, hsc, hkind, hco, hgen, hglob, hblt, hcd, hbind⟩ := X.ex
 refine k_ ?_
 exact ⟨⟨o, fd, st _ _ ho, hd, hbody, hsc, hkind, hco, hgen, hglob, hblt, j3 st hcd, fun s vals k => hbind s vals (zZ st k)⟩, X.nodup, X.nocell, X.kinds⟩
theorem TokNew.up (st : cx.base.StaysIn b) (X : TokNew cx K) : TokNew (cx.up b L) K := by
 refine w9 (X.obj) fun oc od cd sl hC e1 e2 => ?_
 exact ⟨oW st X.inb, ⟨oc, od, cd, sl, st _ _ hC, e1, e2⟩, X.made.keeps st, X.base.keeps st, X.madeT.keeps st, X.self.keeps st, X.top.keeps st, X.tup.keeps st, X.call.keeps st, X.typ.keeps st, X.init.keeps st, X.reads⟩
theorem NewK.up (st : cx.base.StaysIn b) (X : NewK cx K) : NewK (cx.up b L) K := by
 refine lE (X.ex) fun sm f obj rest r h1 h2 h3 h4 => ?_
 exact ⟨X.cls.up st, X.nolimit.keeps st, X.g.keeps st, X.b.keeps st, X.gn, X.bv, X.gi, sm, f, obj, rest, r, h1, h2, h3.up st, h4⟩
theorem LexK.up (st : cx.base.StaysIn b) (X : LexK cx K) : LexK (cx.up b L) K := by
 refine wg (X.next) fun f r h1 h2 h3 h4 => ?_
 refine wg (X.unpop) fun f' r' h1' h2' h3' h4' => ?_
 exact ⟨oW st X.inb, X.nolimit.keeps st, X.ga, X.gk, X.has, X.toks, ⟨f, r, h1, h2, h3.up st, h4⟩, ⟨f', r', h1', h2', h3'.up st, h4'⟩⟩
theorem LexSet.up (X : LexSet cx K) : LexSet (cx.up b L) K := ⟨X.hs, X.hp, X.ht, X.hh⟩
theorem LexMake.up (st : cx.base.StaysIn b) (X : LexMake cx K) : LexMake (cx.up b L) K := by
 refine wg (X.init) fun f r h1 h2 h3 h4 => ?_
 exact ⟨X.make, X.keep, X.token, X.set.up, f, r, h1, h2, h3.up st, h4⟩
theorem ParseAt.up (st : cx.base.StaysIn b) {fa : Addr} {r : FnR} {rest : List Stmt} (X : ParseAt cx K fa r rest) : ParseAt (cx.up b L) K fa r rest :=
 ⟨X.fn.up st, X.ps, X.l1, X.l2, X.g1, X.body, X.lexC, X.keep⟩
theorem GetK.up (st : cx.base.StaysIn b) {r : FnR} (X : GetK cx K r) : GetK (cx.up b L) K r := by
 refine zo fun R_ k_ => ?_
 refine zx (X.tok) fun o c h1 h2 => ?_
 refine k_ ?_
 exact ⟨oW st X.inb, X.nolimit.keeps st, X.g.keeps st, X.b.keeps st, X.gn, X.bv, ⟨o, c, st _ _ h1, h2⟩, X.sub, X.ga, X.gk, X.isc, X.gi, X.ps, X.ls, X.lo, X.gl, X.body⟩
theorem FieldK.up (st : cx.base.StaysIn b) {r : FnR} {name : Str} {i : Nat} (X : FieldK cx K r name i) : FieldK (cx.up b L) K r name i := by
 obtain ⟨d, od, dd, gc, f, tk, h1, h2, h3, h4, h5, h6⟩ := X.ex
 exact ⟨d, od, dd, gc, f, tk, h1, h2, h3, h4.up st, InstAt.keeps' st h5, h6⟩
theorem Rp.up (st : cx.base.StaysIn b) {u : Value} {x : V} (hx : x ≠ .lexer) (r : Rp cx cx.base u x) : Rp (cx.up b L) b u x := by
 obtain r := Rp.keeps st r
 cases x with
 | fn => obtain ⟨f, rfl, o, fd, h1, h2⟩ := r; exact ⟨f, rfl, o, fd, st _ _ h1, h2⟩
 | lexer => exact absurd rfl hx
 | dat => exact r
 | tok => exact r
 | dct => exact r
 | kin => exact r
theorem Wd.up (st : cx.base.StaysIn b) (W : Wd cx G) (hG : ∀ x, G x ≠ some .lexer) : Wd (cx.up b L) G :=
 ⟨W.g.keeps st, W.b.keeps st, W.nolimit.keeps st, fun x v h => by
  refine zb (W.glob x v h) fun u e r => ?_
  exact (zg u e (r.up st fun q => hG x (q ▸ h))), W.bi, W.bv⟩
end
structure Lib (cx : Cx) (K : Frag) (G : Str → Option V) (T : Str → Option FnR) (rp : FnR) (restp : List Stmt) (Bn nid initId : String) (bm : List Value) : Prop where
 get : ∃ rg, GetK cx K rg ∧ FieldK cx K rg z6 0 ∧ FieldK cx K rg z7 1
 nw : NewK cx K
 make : LexMake cx K
 lexk : LexK cx K
 wd : Wd cx G
 nolex : ∀ x, G x ≠ some .lexer
 err : OwnCls wH cx.errC bm nid cx.mg cx.base
 fb : ExcBaseFacts Bn nid initId bm
 hbase : bm.contains (.type "BaseException") = true
 fns : ∀ f r fa, T f = some r → cx.mg f = some (.ref fa) → FnAt cx fa r
 parse : ∀ fa, cx.mg yn = some (.ref fa) → ParseAt cx K fa rp restp
section
variable {cx : Cx} {K : Frag} {G : Str → Option V} {T : Str → Option FnR} {rp : FnR} {restp : List Stmt} {Bn nid initId : String} {bm : List Value}
theorem Lib.up (X : Lib cx K G T rp restp Bn nid initId bm) {b : Heap} {L : Option (Addr × Addr)} (st : cx.base.StaysIn b) : Lib (cx.up b L) K G T rp restp Bn nid initId bm := by
 refine yv (X.get) fun rg g1 g2 g3 => ?_
 exact ⟨⟨rg, g1.up st, g2.up st, g3.up st⟩, X.nw.up st, X.make.up st, X.lexk.up st, X.wd.up st X.nolex, X.nolex, X.err.keeps st, X.fb, X.hbase, fun f r fa h1 h2 => (X.fns f r fa h1 h2).up st, fun fa h => (X.parse fa h).up st⟩
theorem Lib.prim (X : Lib cx K G T rp restp Bn nid initId bm) : Prim cx where
 kind := fun A s g u k d Q E hk st kg T hQ => by
  refine yv (X.get) fun rg g1 g2 g3 => ?_
  exact bY g1 g2 A s g u k d Q E hk st kg T hQ
 value := fun A s g u k d Q E hk st kg T hQ => by
  refine yv (X.get) fun rg g1 g2 g3 => ?_
  exact bZ g1 g3 A s g u k d Q E hk st kg T hQ
 next := fun lx tl hl => bN X.lexk lx tl hl
 unpop := fun lx tl hl => bO X.lexk lx tl hl
 raise := fun A env s p1 p2 p3 pos m k Q E hk ek hx st h => bH X.wd.g X.err X.fb A env s p1 p2 p3 pos m k Q E hk ek hx st h
 rev := fun A s t items Q E hh ht hz h => aX hh ht hz h
theorem Lib.run (X : Lib cx K G T rp restp Bn nid initId bm) {Pp : Nat → Str → List V → St → Option Out}
  (hP : ∀ n, x5 cx n (yC T Pp G n) → ∀ f args σ out fa, Pp n f args σ = some out → out ≠ .bad → cx.mg f = some (.ref fa) → qr cx (n + 1) fa args σ out) (n : Nat) : x5 cx n (yC T Pp G n) :=
 jL X.wd X.prim X.fns hP n
end
noncomputable def P0 : Nat → Str → List V → St → Option Out := fun _ _ _ _ => none
noncomputable def vV : List PyData → Option (List Tk)
 | [] => some []
 | .tuple [.str k, v] :: r => (vV r).map ((k, v) :: ·)
 | _ => none
theorem j4 : ∀ {l : List PyData} {row : List Tk}, vV l = some row → PyData.list l = uD row
 | [], row, h => by obtain rfl := Option.some.inj h; rfl
 | .tuple [.str k, v] :: r, row, h => by
  dsimp only [vV] at h
  cases e : vV r with
  | none => rw [e] at h; exact nn h
  | some row' =>
   rw [e] at h
   refine Option.some.inj h ▸ ?_
   obtain q := j4 e
   injection q with q
   rw [q]; rfl
noncomputable def sW (σ : St) : Out → Out
 | .ok (.dat d) _ => .ok (.dat d) σ
 | .err => .err
 | _ => .bad
noncomputable def vo (rest : List Stmt) (sc : zm) (C : Str → List V → St → Out) (G : Str → Option V) (f : Str) (args : List V) (σ : St) : Out :=
 match args with
 | [.dat (.list l)] => (match vV l with
  | some row => chk (f == yn && zi (row.length + 1)) (sW σ (xs C G 100 true sc (tn row) rest (fun _ σ => .ok (.dat .none) σ) (row ++ [xG])))
  | none => .bad)
 | _ => .bad
noncomputable def sX (σ : St) : Out → Out
 | .err => .ok (.dat .none) σ
 | o => o
noncomputable def xH : Str := "row"
noncomputable def aY (p : Nat → Pos) : List Stmt :=
 [.Try [.Return (some (.Call (.Name yn (p 0)) [.Name xH (p 1)] [] (p 2))) (p 3)] [.ExceptHandler (some (.Name wH (p 4))) none [.Return (some (.Constant .none 0 (p 5))) (p 6)] (p 7)] [] [] (p 8)]
section
variable {cx : Cx} {K : Frag} {G : Str → Option V} {T : Str → Option FnR} {rp : FnR} {restp : List Stmt} {Bn nid initId : String} {bm : List Value}
set_option tactic.hygienic true in
theorem j5 (X : Lib cx K G T rp restp Bn nid initId bm) (hnl : cx.lex = none) (n : Nat) : x5 cx (n + 5) (vo restp rp.sc (yC T P0 G n) G) := by
 intro f args σ out fa h hb hm A M s vals Q E hk O R hQ hE
 unfold vo at h
 split at h
 ·rename_i l
  split at h
  ·rename_i row hr
   refine ze (zr h hb) fun hc h2 => ?_
   clear h
   simp only [Bool.and_eq_true] at hc
   obtain rfl := eq_of_beq hc.1
   refine zb ((by
    match vals, R with
    | [u], ⟨R, _⟩ => exact (zg u rfl R)) : ∃ u, vals = [u] ∧ Rp cx (zc M s.heap) u (.dat (.list l))) fun u W0 R1 => ?_
   refine (W0) ▸ ?_
   ·rw [j4 hr] at R1
    generalize hin : xs (yC T P0 G n) G 100 true rp.sc (tn row) restp (fun _ σ => .ok (.dat .none) σ) (row ++ [xG]) = inn at h2
    obtain lib : ∀ L, Lib (cx.up cx.base L) K G T rp restp Bn nid initId bm := fun L => X.up ko
    refine aG (n := n) X.nw X.make X.lexk X.wd X.nolex (fun L => (lib L).prim) (fun L => (lib L).run (fun n _ f args σ out fa e => by exact nn e) n) hnl (X.parse fa hm) hc.2 hin (fun x σ' e => ?_) (fun e => ?_) hk O R1 (fun d σ' v s' ho N Rv => ?_) fun e s' x => ?_
    ·subst e
     unfold sW at h2
     split at h2
     ·rename_i q; (injection q with q; subst q); exact ⟨_, rfl⟩
     ·rename_i q; injection q
     ·exact absurd h2.symm hb
    ·subst e; exact absurd h2.symm hb
    ·rw [ho] at h2
     refine hQ (.dat d) σ v s' h2.symm N Rv ?_
     unfold zq; refine (hnl ..).symm ▸ ?_; trivial
    ·obtain q := x.out
     obtain h2 := (q ..) ▸ h2
     exact hE e s' ⟨x.er, h2.symm, x.eq, x.fly, x.kf⟩
  ·exact absurd h.symm hb
 ·exact absurd h.symm hb
theorem j6 {h base b : Heap} : ∀ {l : List Env}, h.FunFrames base l → (∀ e ∈ l, ∀ L, e.frame = some L → b.get? L = none) → h.FunFrames b l
 | [], _, _ => trivial
 | e :: r, ⟨hk, ⟨L, o, hf, _, ho, hd⟩, hr⟩, hn => (yV hk (⟨L, o, hf, hn e (.head _) L hf, ho, hd⟩) (j6 hr fun e' he => hn e' (.tail _ he)))
theorem aZ {w : World} {prog : Program} {A : Around} {s : Shared} {env : Env} {E : Value → Shared → Prop} {e C : Addr} {x : Str} {bmB : List Value} {newId : String} {mg : Str → Option Value} {t : Expr} {b₀ : Stmt} {suite : List Stmt} {pos : Pos} {rest : List ExceptHandler} {Q : Flow → Shared → Prop}
  (hbase : bmB.contains (.type "BaseException") = true)
  (h : wpAny (model prog w) (A.mark (some (.ref e))) (eval t env) (fun c s₁ => c = .ref C ∧ OwnCls x C bmB newId mg s₁.heap ∧ (∃ oe, s₁.heap.get? e = some oe ∧ oe.cls = .ref C) ∧
   wpAny (model prog w) (A.mark (some (.ref e))) (setFlight (.ref e) none) (fun _ s₂ => wpAny (model prog w) (A.mark (some (.ref e))) (execs (b₀ :: suite) env) Q (notedBy (model prog w) (A.mark (some (.ref e))) env (cameBackBy (model prog w) A env E)) s₂) (notedBy (model prog w) (A.mark (some (.ref e))) env (cameBackBy (model prog w) A env E)) s₁) (notedBy (model prog w) (A.mark (some (.ref e))) env (cameBackBy (model prog w) A env E)) s) :
  wpAny (model prog w) A (handleBy (.ref e) env (.ExceptHandler (some t) none (b₀ :: suite) pos :: rest)) Q E s := by
 refine wpAny_handleBy_cons (codeAny_handlers_test (wpAny_mono h (fun c s₁ h₁ => ?_) fun _ _ y => y)) (by intro q; injection q)
 refine zo fun R_ k_ => ?_
 refine py (h₁) fun W0 O W1 hk => ?_
 obtain rfl := W0
 obtain ⟨oe, he, hcls⟩ := W1
 obtain ⟨bm, N, nm, q, bs, hdct, sn, sub, ab, col, dd, k0, k1, k2, k3, k5, mN, hC, hN, hni, T⟩ := O.obj
 obtain ⟨hh, g, d, tk, os⟩ := s₁
 refine k_ ?_
 exact wpAny_excMatches_sub_self hC he hcls (T.hasType hbase) (codeAny_handlers_suite hk)
theorem Rp.over {b g : Heap} {u : Value} {x : V} (st : cx.base.StaysIn b) (hx : x ≠ .lexer) (r : Rp cx g u x) : Rp (cx.up b none) g u x := by
 cases x with
 | fn => obtain ⟨f, rfl, o, fd, h1, h2⟩ := r; exact ⟨f, rfl, o, fd, st _ _ h1, h2⟩
 | lexer => exact absurd rfl hx
 | dat => exact r
 | tok => exact r
 | dct => exact r
 | kin => exact r
theorem a7 (X : Lib cx K G T rp restp Bn nid initId bm) (hnl : cx.lex = none) {fa : Addr} (F : FnAt cx fa r) (hps : r.ps = [xH]) (hl : zN r.sc xH = true) (g1 : zD yn r.sc = some .globalImplicit) (g2 : zD wH r.sc = some .globalImplicit)
  {pp : Nat → Pos} (hbe : r.body = aY pp) (hgp : sv (G yn) = true) {v : V} (hv : v ≠ .lexer) {σ : St} {out : Out} {n : Nat} (h : sX σ (vo restp rp.sc (yC T P0 G n) G yn [v] σ) = out) (hb : out ≠ .bad) : qr cx (n + 8) fa [v] σ out := by
 intro A M s vals Q E hk O R hQ hE
 refine jX (n := n + 7) X.nw.nolimit F (by rw [hps]; rfl) hk O R fun env s₁ Fr so hcode hk' S₁ => ?_
 obtain S₁ := (hps ..) ▸ S₁
 have S₁ : Sa cx (A.deeper env) env [env.locals] M [(xH, .v v)] σ s₁.heap := S₁
 ·refine (hbe ..).symm ▸ ?_
  refine wpAny_execs_cons (wpAny_Try_except (wpAny_execs_cons (wpAny_Return_some ?_)))
  obtain hG0 : G yn ≠ none := fun q => by rw [q] at hgp; cases hgp
  obtain hnr : zD xH r.sc = some .local := yl hl
  obtain hlet : ∀ o : Out, vo restp rp.sc (yC T P0 G n) G yn [v] σ = o → ev (vo restp rp.sc (yC T P0 G n) G) G 10 true r.sc [(xH, .v v)] (.Call (.Name yn (pp 0)) [.Name xH (pp 1)] [] (pp 2)) .ok σ = (match o with
    | .ok v σ => .ok v σ
    | .err => .err
    | .bad => .bad) := fun o e => by
   obtain e1 : yB r.sc [(xH, .v v)] yn = true := by
    unfold yB
    exact (show zt yn [(xH, Sl.v v)] = none from rfl ..).symm ▸ g1.symm ▸ rfl
   obtain e3 : (sv (G yn) && !(yn == r5)) = true := by refine (hgp ..).symm ▸ ?_; rfl
   obtain e4 : ev (vo restp rp.sc (yC T P0 G n) G) G 10 true r.sc [(xH, .v v)] (.Call (.Name yn (pp 0)) [.Name xH (pp 1)] [] (pp 2)) .ok σ = chk (yB r.sc [(xH, .v v)] yn) (chk (sv (G yn) && !(yn == r5)) (match vo restp rp.sc (yC T P0 G n) G yn [v] σ with
    | .ok v σ => .ok v σ
    | .err => .err
    | .bad => .bad)) := by kernel_rfl
   rw [e4, e1, e3, e]
   subst o <;> rfl
  obtain frs0 := Fr.frs
  refine zd (frs0) fun frs hfr => ?_
  obtain hfr' : (A.deeper env).frames = some (env :: frs) := Around.frames_deeper hfr
  obtain hfs : Fs (A.deeper env) = env.locals :: Fs A := sS hfr Fr.fr
  obtain hX0 : cx.X = [] := by unfold Cx.X; rw [hnl]
  generalize hin : vo restp rp.sc (yC T P0 G n) G yn [v] σ = inn at h
  have hev := hlet inn hin
  cases inn with
  | bad => exact absurd h.symm hb
  | ok x σ' =>
   refine th X.wd X.prim (j5 X hnl n) ⟨hk'.handled, by have := hk'.depth; lia, by have := hk'.units; lia⟩ 10 true env r.sc _ _ _ so (fun _ => hcode) _ .ok σ (.ok x σ') s₁ _ _ hev (by intro q; injection q) S₁ (fun x' σ₂ w s' hK N Rv L => ?_) fun e s' z => by cases z.out
   cases hK
   exact hQ x σ' w s' h.symm (Fr.back N.eq N.kp fun b hb => .inr hb) (Rv.keeps (xk fun b hb => mem_append_right _ hb)) (L.step (xk fun b hb => mem_append_right _ hb) fun _ _ _ hl => hl)
  | err =>
   subst h
   obtain hFM : ∀ b ∈ Fs A, b ∈ M := O.fin
   have st : cx.base.StaysIn (zc (Fs (A.deeper env)) s₁.heap) := zZ S₁.ok.stays (xk S₁.ok.fin)
   generalize hbs : zc (Fs (A.deeper env)) s₁.heap = b' at st
   have X' := X.up (L := none) st
   have lives : ∀ b ∈ Fs (A.deeper env), ∃ o, s₁.heap.get? b = some o := fun b hb => S₁.ok.live b (S₁.ok.fin b hb)
   have S' : Sa (cx.up b' none) (A.deeper env) env [env.locals] (Fs A) [(xH, .v v)] σ s₁.heap := by
    refine ⟨⟨?_, fun b hb => ?_, ?_, fun b hb => ?_, fun b hb q => (nomatch q), fun b hb => (nomatch hb), trivial⟩, S₁.ek, S₁.ns, S₁.lin, fun b hb => (nomatch hb), fun b hb q => ?_, fun x t e => ?_, S₁.two⟩
    ·refine (hbs ..) ▸ (hfs ..).symm ▸ ?_; exact ko
    ·exact lives b (by rw [hfs]; exact hb)
    ·refine zb (S₁.ok.frames) fun l e ff => ?_
     refine zg l e (j6 ff fun e' he L hL => ?_)
     refine (hbs ..) ▸ ?_
     exact hideAll_none _ (by unfold Fs; rw [e]; exact mem_filterMap.mpr ⟨e', he, hL⟩)
    ·rw [hfs] at hb; exact hb
    ·rw [mem_singleton.mp hb] at q
     refine zd (O.live _ (hFM _ q)) fun o e => ?_
     rw [Fr.new] at e; exact nn e
    ·obtain ⟨hx1, rfl⟩ : x = xH ∧ t = .v v := by
      dsimp only [zt] at e
      cases q : xH == x with
      | true => replace e := (q ..) ▸ e; refine Option.some.inj e ▸ ?_; exact ⟨(eq_of_beq q).symm, rfl⟩
      | false => replace e := (q ..) ▸ e; exact nn e
     refine zb (S₁.loc x _ e) fun u l1 r1 => ?_
     exact (zg u l1 ((r1.keeps (xk fun b hb => by
      refine zh (mem_append.mp hb) (fun q => ?_) fun q => ?_
      ·exact mem_append_left _ q
      ·exact mem_append_right _ (hFM b q))).over st hv))
   refine th X'.wd X'.prim (j5 X' rfl n) ⟨hk'.handled, by have := hk'.depth; lia, by have := hk'.units; lia⟩ 10 true env r.sc _ _ _ so (fun _ => by
    refine xW (hcode) fun c o vs h1 h2 h3 => ?_
    exact (uc c o vs h1 (st _ _ h2) h3)) _ .ok σ .err s₁ _ _ hev (by intro q; injection q) S' (fun x' σ₂ w s' hK N Rv L => by cases hK) fun e s' z => ?_
   refine zo fun R_ k_ => ?_
   obtain ⟨_, _, zeq, ⟨frs', ea, a0, hf', rfl, fl⟩, zkf⟩ := z
   refine k_ ?_
   rw [hfr'] at hf'
   obtain rfl := Option.some.inj hf'
   refine wpAny_looks_onW hfr' Fr.fr fl fun h₄ held up4 => ?_
   refine wpAny_landsW held fun h₅ fl5 up5 => ?_
   obtain st5 : cx.base.StaysIn h₅ := zZ st fl5.1
   refine aZ X.hbase (Name_function_global S₁.ek.kind (so.glob _ g2) (loadGlobal_global (by rw [S₁.ek.globals]; exact X.wd.g.keeps st5) X.err.bound ⟨rfl, X.err.keeps st5, fl5.there, ?_⟩) (by rfl))
   refine lands_againW fl5 fun h₆ fl6 up6 => ?_
   refine wpAny_execs_cons (wpAny_Return_some (wpAny_Constant_none ?_))
   refine hQ (.dat .none) σ .none _ rfl (Fr.back (Z := []) (by exact zeq.symm ▸ rfl) (fun b o _ e => ?_) (fun b hb => nomatch hb)) qe (by dsimp only [zq]; refine (hnl ..).symm ▸ ?_; trivial)
   by_cases hbF : b ∈ Fs (A.deeper env)
   ·refine ⟨?_, fun q => absurd hbF q⟩
    refine zo fun R_ k_ => ?_
    refine zb (S₁.ok.frames) fun l el ff => ?_
    obtain hbm : b ∈ l.filterMap (·.frame) := by
     have q := hbF
     unfold Fs at q
     rw [el] at q
     exact q
    obtain ⟨_, o', e', hd⟩ := ff.mem hbm
    refine k_ ?_
    rw [e] at e'
    obtain rfl := Option.some.inj e'
    refine zo fun R_ k_ => ?_
    refine zd (zkf b o (fun q => nomatch q) e hd) fun sl e1 => ?_
    refine zd (up4 b _ e1 hd) fun sl4 e4 => ?_
    refine zd (up5 b _ e4 hd) fun sl5 e5 => ?_
    refine zd (up6 b _ e5 hd) fun sl6 e6 => ?_
    refine k_ ?_
    exact ⟨sl6, e6⟩
   ·have q := fl6.1 b o (by refine (hbs ..) ▸ ?_; exact vis_get e hbF)
    exact ⟨⟨o.slots, q⟩, fun _ => q⟩
end
end Mine
end
section
open PySem PySem.W PyProof.Rows
namespace Mine
noncomputable def oX (f : Str) : List Stmt → Option FnR
 | [] => none
 | .FunctionDef name a body _ _ _ sc _ _ _ :: r => cond (name == f) (some ⟨a.args.map (·.arg), sc.names, body⟩) (oX f r)
 | _ :: r => oX f r
noncomputable def tr : List Str :=
 ("_expect_token" : Str) ::
 ("_expr" : Str) ::
 ("_ite" : Str) ::
 ("_impl" : Str) ::
 ("_sumterm" : Str) ::
 ("_sumterm_prime" : Str) ::
 ("_xorterm" : Str) ::
 ("_xorterm_prime" : Str) ::
 ("_prodterm" : Str) ::
 ("_prodterm_prime" : Str) ::
 ("_factor" : Str) ::
 ("_args" : Str) ::
 ("_zom_arg" : Str) ::
 ("_variable" : Str) ::
 ("_names" : Str) ::
 ("_zom_name" : Str) ::
 ("_indices" : Str) ::
 ("_zom_index" : Str) ::
 ("_law_weak" : Str) ::
 ("_law_words" : Str) ::
 ("_law_order" : Str) ::
 ("_law_more" : Str) ::
 ("_law_leaf" : Str) ::
 ("_law_inside" : Str) ::
 ("_law_height" : Str) ::
 ("_law_joined" : Str) ::
 ("_law_called" : Str) ::
 ("_law_part" : Str) ::
 ("_law_cut" : Str) ::
 ("_law_every_other" : Str) ::
 ("_law_single" : Str) ::
 ("_law_read" : Str) ::
 ("_law_parsed" : Str) ::
 ("parse" : Str) :: []
noncomputable def zj (f : Str) : FnR := match oX f PySem.Challenge.pw_jk0033_01.main.body with
 | some r => r
 | none => ⟨[], [], []⟩
noncomputable def Tb (f : Str) : Option FnR := cond (zu f tr) (some (zj f)) none
noncomputable def xd : List Str := ["KW_or", "KW_and", "KW_xor", "KW_xnor", "KW_equal", "KW_unequal", "KW_nor", "KW_nand", "KW_onehot0", "KW_onehot", "KW_majority", "KW_achillesheel"]
noncomputable def yQ : List Str := (["OP_not", "LPAREN", "KW_ite", "KW_implies", "KW_not", "NameToken", "IntegerToken"] : List Str) ++ xd
noncomputable def uE : List Str := ["or", "and", "xor", "xnor", "equal", "unequal", "nor", "nand", "onehot0", "onehot", "majority", "achillesheel"]
noncomputable def dS (s : Str) : PyData := .str s
noncomputable def Gb (x : Str) : Option V :=
 cond (x == "OPN_TOKS") (some (.dat (.tuple (xd.map .str)))) <|
 cond (x == "FACTOR_TOKS") (some (.dat (.tuple (yQ.map .str)))) <|
 cond (x == "ASTOPS") (some (.dct (xd.zip (uE.map .str)))) <|
 cond (x == "_law_counted") (some (.dct [("KW_ite", .tuple [dS "ite", .int 3]), ("KW_implies", .tuple [dS "implies", .int 2]), ("KW_not", .tuple [dS "not", .int 1])])) <|
 cond (x == "_law_open") (some (.dat (.tuple [dS "LPAREN", dS "("]))) <|
 cond (x == "_law_shut") (some (.dat (.tuple [dS "RPAREN", dS ")"]))) <|
 cond (x == "_law_comma") (some (.dat (.tuple [dS "COMMA", dS ","]))) <|
 cond (zu x tr) (some .fn) none
noncomputable def sY : List Stmt := (zj "parse").body.drop 2
noncomputable def sZ : Expr := .Constant .none 0 ⟨0, 0, 0, 0⟩
noncomputable def eK : Expr → List Expr
 | .BinOp l _ r _ => [l, r]
 | .Call _ as _ _ => as
 | .BoolOp _ vs _ => vs
 | .IfExp _ b _ _ => [b]
 | .Tuple es _ _ => es
 | _ => []
noncomputable def eN (i : Nat) (e : Expr) : Expr := (eK e).getD i sZ
noncomputable def eM : Expr → Nat
 | .Tuple _ m _ => m
 | _ => 0
noncomputable def sE : Stmt → List Expr
 | .Assign ts e _ => e :: ts
 | .Expr e _ => [e]
 | .Return o _ => o.toList
 | .If t _ _ _ => [t]
 | .For t i _ _ _ => [t, i]
 | _ => []
noncomputable def sN (i : Nat) (s : Stmt) : Expr := (sE s).getD i sZ
noncomputable def sB : Stmt → List Stmt × List Stmt
 | .If _ b o _ => (b, o)
 | .For _ _ b o _ => (b, o)
 | _ => ([], [])
noncomputable def bS (b : List Stmt) (i : Nat) : Stmt := b.getD i (.Pass ⟨0, 0, 0, 0⟩)
noncomputable def s0 : Expr → Option (Expr × List Comprehension × zm × ScopeKind)
 | .ListComp e g s _ => some (e, g, s.names, s.kind)
 | _ => none
noncomputable def oY (e : Expr) : Comprehension := ((s0 e).bind fun q => q.2.1.head?).getD ⟨sZ, sZ, [], 1⟩
noncomputable def vp (e : Expr) : Expr := ((s0 e).map (·.1)).getD sZ
noncomputable def xp (e : Expr) : Expr := (oY e).target
noncomputable def a8 (e : Expr) : List Expr := (oY e).ifs
noncomputable def uF (e : Expr) : Expr := (oY e).iter
noncomputable def y7 (e : Expr) : zm := ((s0 e).map (·.2.2.1)).getD []
noncomputable def uG (e : Expr) : ScopeKind := ((s0 e).map (·.2.2.2)).getD .module
noncomputable def vW (e : Expr) : Bool := ((s0 e).bind fun q => ul q.2.1).elim false fun q => q.2.isEmpty && decide (q.1.is_async = 0)
theorem a9 {e : Expr} (h : vW e = true) : ∃ elt g s p, e = .ListComp elt [g] s p ∧ decide (g.is_async = 0) = true := by
 cases e with
 | ListComp e g s p =>
  cases g with
  | nil => exact ff h
  | cons g r =>
   cases r with
   | nil => exact rF e g s p rfl h
   | cons _ _ => exact ff h
 | _ => exact ff h
end Mine
end
section
open PySem PySem.W PyProof.Rows
set_option maxRecDepth 100000
namespace Mine
variable {P : List Tk → PyData → Prop} {f kd nm s sp x : Str} {j k m n : Nat} {a w : List Tk} {d1 p q t v v1 v2 : PyData} {rest σ τ : St} {F K : V → St → Out} {r : Tk} {ts : List PyData}
noncomputable abbrev rP := yC Tb P0 Gb
noncomputable def onOk (o : Out) (k : V → St → Out) : Out := match o with
 | .ok v σ => k v σ
 | .err => .err
 | .bad => .bad
noncomputable abbrev zv (v : V) (k : PyData → Out) : Out := yw v k
noncomputable def s4 (σ : St) (k : Tk → St → Out) : Out := match σ with
 | [] => .bad
 | t :: σ => k t σ
noncomputable def yD (t : Tk) (σ : St) (k : St → Out) : Out := chk (zi (σ.length + 1)) (k (t :: σ))
noncomputable def zS (s : Str) (x y : PyData) : PyData := .tuple [.str s, x, y]
theorem qy (n : Nat) (k : Str) (t : Tk) (σ : St) : rP (n + 1) "_expect_token" [.lexer, .dat (.tuple [.str k])] (t :: σ) = cond (zu t.1 [k]) (.ok (.tok t.1 t.2) σ) .err := by kernel_rfl
theorem Za (n : Nat) (t : Tk) (σ : St) : rP (n + 1) "_expect_token" [.lexer, .dat (.tuple (yQ.map .str))] (t :: σ) = cond (zu t.1 yQ) (.ok (.tok t.1 t.2) σ) .err := by kernel_rfl
theorem j7 (n : Nat) (σ : St) : rP (n + 1) "_expr" [.lexer] σ = onOk (rP n "_ite" [.lexer] σ) .ok := by kernel_rfl
theorem oZ (n : Nat) (σ : St) : rP (n + 1) "_ite" [.lexer] σ = onOk (rP n "_impl" [.lexer] σ) fun s σ => s4 σ fun t σ => cond (t.1 == "OP_question")
  (onOk (rP n "_ite" [.lexer] σ) fun d1 σ => onOk (rP n "_expect_token" [.lexer, .dat (.tuple [.str "OP_colon"])] σ) fun _ σ => onOk (rP n "_ite" [.lexer] σ) fun d0 σ => zv s fun s => zv d1 fun d1 => zv d0 fun d0 => .ok (.dat (.tuple [.str "ite", s, d1, d0])) σ)
  (yD t σ (.ok s)) := by kernel_rfl
theorem o0 (n : Nat) (σ : St) : rP (n + 1) "_impl" [.lexer] σ = onOk (rP n "_sumterm" [.lexer] σ) fun p σ => s4 σ fun t σ => cond (t.1 == "OP_rarrow")
  (onOk (rP n "_impl" [.lexer] σ) fun q σ => zv p fun p => zv q fun q => .ok (.dat (zS "implies" p q)) σ)
  (cond (t.1 == "OP_lrarrow") (onOk (rP n "_impl" [.lexer] σ) fun q σ => zv p fun p => zv q fun q => .ok (.dat (zS "equal" p q)) σ)
  (yD t σ (.ok p))) := by kernel_rfl
theorem j8 (n : Nat) (σ : St) : rP (n + 1) "_sumterm" [.lexer] σ = onOk (rP n "_xorterm" [.lexer] σ) fun p σ => onOk (rP n "_sumterm_prime" [.lexer] σ) fun q σ => cond (isNone q) (.ok p σ) (zv p fun p => zv q fun q => .ok (.dat (zS "or" p q)) σ) := by kernel_rfl
theorem j9 (n : Nat) (σ : St) : rP (n + 1) "_xorterm" [.lexer] σ = onOk (rP n "_prodterm" [.lexer] σ) fun p σ => onOk (rP n "_xorterm_prime" [.lexer] σ) fun q σ => cond (isNone q) (.ok p σ) (zv p fun p => zv q fun q => .ok (.dat (zS "xor" p q)) σ) := by kernel_rfl
theorem ia (n : Nat) (σ : St) : rP (n + 1) "_prodterm" [.lexer] σ = onOk (rP n "_factor" [.lexer] σ) fun p σ => onOk (rP n "_prodterm_prime" [.lexer] σ) fun q σ => cond (isNone q) (.ok p σ) (zv p fun p => zv q fun q => .ok (.dat (zS "and" p q)) σ) := by kernel_rfl
theorem Zb (n : Nat) (t : Tk) (σ : St) : rP (n + 1) "_sumterm_prime" [.lexer] (t :: σ) = cond (t.1 == "OP_or") (rP (n + 1) "_sumterm" [.lexer] σ) (yD t σ (.ok (.dat .none))) := by rw [j8]; kernel_rfl
theorem Zc (n : Nat) (t : Tk) (σ : St) : rP (n + 1) "_xorterm_prime" [.lexer] (t :: σ) = cond (t.1 == "OP_xor") (rP (n + 1) "_xorterm" [.lexer] σ) (yD t σ (.ok (.dat .none))) := by rw [j9]; kernel_rfl
theorem Zd (n : Nat) (t : Tk) (σ : St) : rP (n + 1) "_prodterm_prime" [.lexer] (t :: σ) = cond (t.1 == "OP_and") (rP (n + 1) "_prodterm" [.lexer] σ) (yD t σ (.ok (.dat .none))) := by rw [ia]; kernel_rfl
noncomputable def wO (v : V) (k : PyData → Out) : Out := opt (sq v) (fun t => k t.2) .bad
noncomputable def ex (n : Nat) (k : Str) (σ : St) (K : V → St → Out) : Out := onOk (rP n "_expect_token" [.lexer, .dat (.tuple [.str k])] σ) K
noncomputable def xq (x : List PyData) (z : V) (K : V → St → Out) (σ : St) : Out := zl .Add (.dat (.tuple x)) z K σ
noncomputable def qz (r : V) (σ : St) : Out := ug r fun l => chk (zi l.length) (.ok (.dat (.tuple l.reverse)) σ)
theorem qA (n : Nat) (σ : St) : rP (n + 1) "_args" [.lexer] σ = onOk (rP n "_expr" [.lexer] σ) fun e σ => zv e fun e => onOk (rP n "_zom_arg" [.lexer] σ) fun z σ => xq [e] z .ok σ := by kernel_rfl
theorem o3 (n : Nat) (t : Tk) (σ : St) : rP (n + 1) "_zom_arg" [.lexer] (t :: σ) = cond (t.1 == "COMMA") (rP (n + 1) "_args" [.lexer] σ) (yD t σ (.ok (.dat (.tuple [])))) := by rw [qA]; kernel_rfl
theorem o4 (n : Nat) (σ : St) : rP (n + 1) "_variable" [.lexer] σ = onOk (rP n "_names" [.lexer] σ) fun nm σ => s4 σ fun t σ => cond (t.1 == "LBRACK")
  (onOk (rP n "_indices" [.lexer] σ) fun ix σ => ex n "RBRACK" σ fun _ σ => zv nm fun nm => zv ix fun ix => .ok (.dat (zS "var" nm ix)) σ)
  (yD t σ fun σ => zv nm fun nm => .ok (.dat (zS "var" nm (.tuple []))) σ) := by kernel_rfl
theorem ib (n : Nat) (σ : St) : rP (n + 1) "_names" [.lexer] σ = ex n "NameToken" σ fun v σ => wO v fun d => onOk (rP n "_zom_name" [.lexer] σ) fun z σ => xq [d] z qz σ := by kernel_rfl
theorem Ze (n : Nat) (t : Tk) (σ : St) : rP (n + 1) "_zom_name" [.lexer] (t :: σ) = cond (t.1 == "DOT")
  (ex n "NameToken" σ fun v σ => wO v fun d => onOk (rP n "_zom_name" [.lexer] σ) fun z σ => xq [d] z .ok σ) (yD t σ (.ok (.dat (.tuple [])))) := by kernel_rfl
theorem ic (n : Nat) (σ : St) : rP (n + 1) "_indices" [.lexer] σ = ex n "IntegerToken" σ fun v σ => wO v fun d => onOk (rP n "_zom_index" [.lexer] σ) fun z σ => xq [d] z .ok σ := by kernel_rfl
theorem Zf (n : Nat) (t : Tk) (σ : St) : rP (n + 1) "_zom_index" [.lexer] (t :: σ) = cond (t.1 == "COMMA")
  (ex n "IntegerToken" σ fun v σ => wO v fun d => onOk (rP n "_zom_index" [.lexer] σ) fun z σ => xq [d] z .ok σ) (yD t σ (.ok (.dat (.tuple [])))) := by kernel_rfl
theorem ie (n : Nat) (v : PyData) (σ : St) : rP (n + 2) "_factor" [.lexer] (("OP_not", v) :: σ) = onOk (rP (n + 1) "_factor" [.lexer] σ) fun x σ => zv x fun x => .ok (.dat (.tuple [.str "not", x])) σ := by kernel_rfl
theorem ig (n : Nat) (v : PyData) (σ : St) : rP (n + 2) "_factor" [.lexer] (("LPAREN", v) :: σ) = onOk (rP (n + 1) "_expr" [.lexer] σ) fun x σ => ex (n + 1) "RPAREN" σ fun _ σ => .ok x σ := by kernel_rfl
theorem ii (n : Nat) (v : PyData) (σ : St) : rP (n + 2) "_factor" [.lexer] (("KW_ite", v) :: σ) = ex (n + 1) "LPAREN" σ fun _ σ => onOk (rP (n + 1) "_expr" [.lexer] σ) fun s σ => ex (n + 1) "COMMA" σ fun _ σ =>
  onOk (rP (n + 1) "_expr" [.lexer] σ) fun d1 σ => ex (n + 1) "COMMA" σ fun _ σ => onOk (rP (n + 1) "_expr" [.lexer] σ) fun d0 σ => ex (n + 1) "RPAREN" σ fun _ σ =>
  zv s fun s => zv d1 fun d1 => zv d0 fun d0 => .ok (.dat (.tuple [.str "ite", s, d1, d0])) σ := by kernel_rfl
theorem ij (n : Nat) (v : PyData) (σ : St) : rP (n + 2) "_factor" [.lexer] (("KW_implies", v) :: σ) = ex (n + 1) "LPAREN" σ fun _ σ => onOk (rP (n + 1) "_expr" [.lexer] σ) fun p σ => ex (n + 1) "COMMA" σ fun _ σ =>
  onOk (rP (n + 1) "_expr" [.lexer] σ) fun q σ => ex (n + 1) "RPAREN" σ fun _ σ => zv p fun p => zv q fun q => .ok (.dat (zS "implies" p q)) σ := by kernel_rfl
theorem ik (n : Nat) (v : PyData) (σ : St) : rP (n + 2) "_factor" [.lexer] (("KW_not", v) :: σ) = ex (n + 1) "LPAREN" σ fun _ σ => onOk (rP (n + 1) "_expr" [.lexer] σ) fun x σ => ex (n + 1) "RPAREN" σ fun _ σ => zv x fun x => .ok (.dat (.tuple [.str "not", x])) σ := by kernel_rfl
theorem il (n : Nat) (v : PyData) (σ : St) : rP (n + 2) "_factor" [.lexer] (("NameToken", v) :: σ) = yD ("NameToken", v) σ fun σ => onOk (rP (n + 1) "_variable" [.lexer] σ) .ok := by kernel_rfl
theorem im (n : Nat) (i : Int) (σ : St) : rP (n + 2) "_factor" [.lexer] (("IntegerToken", .int i) :: σ) = cond (!(xa i [0, 1])) .err (.ok (.dat (.tuple [.str "const", .int i])) σ) := by kernel_rfl
noncomputable def qB (n : Nat) (nm : Str) (σ : St) : Out := ex (n + 1) "LPAREN" σ fun _ σ => s4 σ fun t σ => cond (t.1 == "RPAREN") (.ok (.dat (.tuple [.str nm])) σ)
  (yD t σ fun σ => onOk (rP (n + 1) "_args" [.lexer] σ) fun xs σ => ex (n + 1) "RPAREN" σ fun _ σ => xq [.str nm] xs .ok σ)
theorem words_ind {P : Str → Str → Prop} (h1 : P "KW_or" "or") (h2 : P "KW_and" "and") (h3 : P "KW_xor" "xor") (h4 : P "KW_xnor" "xnor") (h5 : P "KW_equal" "equal") (h6 : P "KW_unequal" "unequal") (h7 : P "KW_nor" "nor") (h8 : P "KW_nand" "nand")
  (h9 : P "KW_onehot0" "onehot0") (h10 : P "KW_onehot" "onehot") (h11 : P "KW_majority" "majority") (h12 : P "KW_achillesheel" "achillesheel") (h : (kd, nm) ∈ xd.zip uE) : P kd nm :=
 have f : ∀ {a b : Str} {l : List (Str × Str)}, P a b → (∀ q ∈ l, P q.1 q.2) → ∀ q ∈ (a, b) :: l, P q.1 q.2 := fun h g => forall_mem_cons.mpr ⟨h, g⟩
 f h1 (f h2 (f h3 (f h4 (f h5 (f h6 (f h7 (f h8 (f h9 (f h10 (f h11 (f h12 fun _ h => absurd h not_mem_nil))))))))))) _ h
theorem o5 (h : (kd, nm) ∈ xd.zip uE) (n : Nat) (v : PyData) (σ : St) : rP (n + 2) "_factor" [.lexer] ((kd, v) :: σ) = qB n nm σ :=
 words_ind (P := fun kd nm => ∀ n v σ, rP (n + 2) "_factor" [.lexer] ((kd, v) :: σ) = qB n nm σ) (fun _ _ _ => by kernel_rfl) (fun _ _ _ => by kernel_rfl) (fun _ _ _ => by kernel_rfl) (fun _ _ _ => by kernel_rfl) (fun _ _ _ => by kernel_rfl) (fun _ _ _ => by kernel_rfl) (fun _ _ _ => by kernel_rfl) (fun _ _ _ => by kernel_rfl) (fun _ _ _ => by kernel_rfl) (fun _ _ _ => by kernel_rfl) (fun _ _ _ => by kernel_rfl) (fun _ _ _ => by kernel_rfl) h n v σ
theorem Zg (o : Out) : chk true o = o := rfl
theorem Zh (n : Nat) (f : Str) (args : List V) (σ : St) (h2 : zu f tr = true) : rP (n + 1) f args σ = chk (Nat.beq (zj f).ps.length args.length) (xs (rP n) Gb 100 true (zj f).sc ((zj f).ps.zip (args.map .v)) (zj f).body (fun _ σ => .ok (.dat .none) σ) σ) := by
 obtain e2 : Tb f = some (zj f) := by unfold Tb; rw [h2]; rfl
 unfold rP yC
 dsimp only [P0]
 rw [e2]
theorem Zi (C : Str → List V → St → Out) (k : Nat) (er : Bool) (sc : zm) (ρ : zf) (x : Str) (p q : Pos) (e : Expr) (rest : List Stmt) (KN : KR) (σ : St) (h : (x == yy) = false) (h2 : zN sc x = true) :
  xs C Gb (k + 1) er sc ρ (.Assign [.Name x p] e q :: rest) KN σ = ev C Gb k er sc ρ e (fun v => xs C Gb k er sc (zz x (.v v) ρ) rest KN) σ := by
 show chk (zN sc x) (cond (x == yy) _ _) = _
 rw [h, h2]; rfl
theorem Zj (C : Str → List V → St → Out) (k : Nat) (er : Bool) (sc : zm) (ρ : zf) (e : Expr) (q : Pos) (rest : List Stmt) (KN : KR) (σ : St) (h : vO e = true) :
  xs C Gb (k + 1) er sc ρ (.Expr e q :: rest) KN σ = xs C Gb k er sc ρ rest KN σ := by
 show cond (vO e) _ _ = _
 rw [h]; rfl
noncomputable def vq (i : Nat) : Stmt := (zj "_factor").body.getD i (.Pass ⟨0, 0, 0, 0⟩)
noncomputable def qC (s : Stmt) : Expr := sN 0 s
noncomputable def o6 (s : Stmt) : Pos × Pos := ((sN 1 s).pos, s.pos)
theorem Zk (n : Nat) (t : Tk) (σ : St) (h : zu t.1 yQ = false) : rP (n + 2) "_factor" [.lexer] (t :: σ) = .err := by
 obtain e0 : (zj "_factor").ps = (["lexer"] : List Str) := by kernel_rfl
 obtain e1 : (zj "_factor").body = (vq 0 :: .Assign [.Name "tok" (o6 (vq 1)).1] (qC (vq 1)) (o6 (vq 1)).2 :: (zj "_factor").body.drop 2) := by kernel_rfl
 have e2 : vq 0 = .Expr (qC (vq 0)) (o6 (vq 0)).2 := by kernel_rfl
 have e3 : vO (qC (vq 0)) = true := by kernel_rfl
 have e4 : ∀ K, ev (rP (n + 1)) Gb 98 true (zj "_factor").sc [("lexer", .v .lexer)] (qC (vq 1)) K (t :: σ) = onOk (rP (n + 1) "_expect_token" [.lexer, .dat (.tuple (yQ.map .str))] (t :: σ)) K := fun K => by kernel_rfl
 refine (Zh (n + 1) "_factor" _ _ rfl ..).symm ▸ e0.symm ▸ e1.symm ▸ e2.symm ▸ ?_
 show chk true (xs _ _ _ _ _ [("lexer", .v .lexer)] _ _ _) = _
 rw [Zg, Zj _ _ _ _ _ _ _ _ _ _ e3, Zi _ _ _ _ _ _ _ _ _ _ _ _ rfl rfl, e4, Za, h]
 rfl
noncomputable def tu (n : Nat) (row : List Tk) : Out := xs (rP n) Gb 100 true (zj "parse").sc (tn row) sY (fun _ σ => .ok (.dat .none) σ) (row ++ [xG])
theorem io (n : Nat) (row : List Tk) : tu n row = onOk (rP n "_expr" [.lexer] (row ++ [xG])) fun x σ => ex n ym σ fun _ σ => .ok x σ := by kernel_rfl
noncomputable def xe : List (Str × Nat × Str) := [("OP_rarrow", 1, "implies"), ("OP_lrarrow", 1, "equal"), ("OP_or", 2, "or"), ("OP_xor", 3, "xor"), ("OP_and", 4, "and")]
noncomputable def zT : List (Str × Str) := xd.zip uE
noncomputable def z8 : List (Str × Str × Nat) := [("KW_ite", "ite", 3), ("KW_implies", "implies", 2), ("KW_not", "not", 1)]
noncomputable abbrev T (k : Str) (v : PyData) : Tk := (k, v)
inductive SL (kd sp : Str) : List Tk → List PyData → Prop
 | one (x : PyData) : SL kd sp [(kd, x)] [x]
 | cons (x v : PyData) {w : List Tk} {xs : List PyData} : SL kd sp w xs → SL kd sp ((kd, x) :: (sp, v) :: w) (x :: xs)
inductive D : Nat → List Tk → PyData → Prop
 | up {k : Nat} {w : List Tk} {t : PyData} : k < 5 → D (k + 1) w t → D k w t
 | ite (q v : PyData) {a b c : List Tk} {s d1 d0 : PyData} : D 1 a s → D 0 b d1 → D 0 c d0 → D 0 (a ++ (T "OP_question" q) :: (b ++ (T "OP_colon" v) :: c)) (.tuple [.str "ite", s, d1, d0])
 | bin {kd nm : Str} {k : Nat} (v : PyData) {a b : List Tk} {p q : PyData} : (kd, k, nm) ∈ xe → D (k + 1) a p → D k b q → D k (a ++ T kd v :: b) (zS nm p q)
 | not (v : PyData) {w : List Tk} {t : PyData} : D 5 w t → D 5 ((T "OP_not" v) :: w) (.tuple [.str "not", t])
 | paren (v v' : PyData) {w : List Tk} {t : PyData} : D 0 w t → D 5 ((T "LPAREN" v) :: (w ++ [(T "RPAREN" v')])) t
 | word0 {kd nm : Str} (v v1 v2 : PyData) : (kd, nm) ∈ zT → D 5 [T kd v, (T "LPAREN" v1), (T "RPAREN" v2)] (.tuple [.str nm])
 | word {kd nm : Str} (v v1 v2 : PyData) {w : List Tk} {ts : List PyData} : (kd, nm) ∈ zT → D 9 w (.tuple ts) → D 5 (T kd v :: (T "LPAREN" v1) :: (w ++ [(T "RPAREN" v2)])) (.tuple (.str nm :: ts))
 | cnt {kd nm : Str} {c : Nat} (v v1 v2 : PyData) {w : List Tk} {ts : List PyData} : (kd, nm, c) ∈ z8 → D 9 w (.tuple ts) → ts.length = c → D 5 (T kd v :: (T "LPAREN" v1) :: (w ++ [(T "RPAREN" v2)])) (.tuple (.str nm :: ts))
 | var {w : List Tk} {ns : List PyData} : SL "NameToken" "DOT" w ns → D 5 w (zS "var" (.tuple ns.reverse) (.tuple []))
 | varI (v v' : PyData) {w w' : List Tk} {ns is : List PyData} : SL "NameToken" "DOT" w ns → SL "IntegerToken" "COMMA" w' is → D 5 (w ++ (T "LBRACK" v) :: (w' ++ [(T "RBRACK" v')])) (zS "var" (.tuple ns.reverse) (.tuple is))
 | const {i : Int} : i = 0 ∨ i = 1 → D 5 [T "IntegerToken" (.int i)] (.tuple [.str "const", .int i])
 | arg1 {w : List Tk} {t : PyData} : D 0 w t → D 9 w (.tuple [t])
 | argS (v : PyData) {w w' : List Tk} {t : PyData} {ts : List PyData} : D 0 w t → D 9 w' (.tuple ts) → D 9 (w ++ (T "COMMA" v) :: w') (.tuple (t :: ts))
noncomputable def zC (s : Str) : Nat := cond (s == "OP_question") 0 (cond (s == "OP_rarrow") 1 (cond (s == "OP_lrarrow") 1 (cond (s == "OP_or") 2 (cond (s == "OP_xor") 3 (cond (s == "OP_and") 4 9)))))
noncomputable def wz (k : Nat) (s : Str) : Bool := s == "DOT" || s == "LBRACK" || (Nat.ble k (zC s) && Nat.blt (zC s) 9)
theorem tw (h : wz k s = false) (hx : wz k x = true) : (s == x) = false := by
 cases e : s == x with
 | false => rfl
 | true => rw [eq_of_beq e, hx] at h; exact ff h.symm
theorem o7 (h : wz k s = false) : wz (k + 1) s = false := by
 unfold wz at h ⊢
 simp only [Bool.or_eq_false_iff, Bool.and_eq_false_iff] at h ⊢
 refine ⟨h.1, ?_⟩
 refine zh h.2 (fun q => ?_) fun q => ?_
 ·left
  obtain q : ¬ k ≤ zC s := fun z => by rw [Nat.ble_eq_true_of_le z] at q; exact ff q.symm
  cases e : Nat.ble (k + 1) (zC s) with
  | false => rfl
  | true => exact absurd (Nat.le_of_ble_eq_true e) (by lia)
 ·exact .inr q
theorem D.tuple {k : Nat} {w : List Tk} {t : PyData} (h : D k w t) : ∃ l, t = .tuple l := by
 induction h <;> first | assumption | exact ⟨_, rfl⟩
theorem SL.pos {xs : List PyData} (h : SL kd sp w xs) : 1 ≤ w.length ∧ xs.length ≤ w.length := by
 induction h with
 | one => exact ⟨Nat.le_refl _, Nat.le_refl _⟩
 | cons x v h ih => simp [length_cons]; lia
theorem D.pos {k : Nat} {w : List Tk} {t : PyData} (h : D k w t) : 1 ≤ w.length := by
 induction h with
 | var h => exact h.pos.1
 | up _ _ ih => exact ih
 | arg1 _ ih => exact ih
 | const => exact Nat.le_refl _
 | _ => simp only [length_append, length_cons]; lia
theorem nt {b : Bool} (h : (!b) = true) : b = false := by
 cases b with
 | false => rfl
 | true => exact ff h
theorem yz {P : Nat → Prop} (h : ∀ m, m < n → P m) (hn : P n) : ∀ m, m < n + 1 → P m := fun m hm => (Nat.lt_succ_iff_lt_or_eq.mp hm).elim (h m) fun e => e ▸ hn
theorem o8 {P : Str → Str → Nat → Prop} (h3 : P "KW_ite" "ite" 3) (h2 : P "KW_implies" "implies" 2) (h1 : P "KW_not" "not" 1) {c : Nat} (h : (kd, nm, c) ∈ z8) : P kd nm c :=
 (forall_mem_cons (p := fun q : Str × Str × Nat => P q.1 q.2.1 q.2.2)).mpr ⟨h3, forall_mem_cons.mpr ⟨h2, forall_mem_cons.mpr ⟨h1, fun _ h => absurd h not_mem_nil⟩⟩⟩ _ h
theorem bins_ind {P : Str → Nat → Str → Prop} (h1 : P "OP_rarrow" 1 "implies") (h2 : P "OP_lrarrow" 1 "equal") (h3 : P "OP_or" 2 "or") (h4 : P "OP_xor" 3 "xor") (h5 : P "OP_and" 4 "and") (h : (kd, k, nm) ∈ xe) : P kd k nm :=
 (forall_mem_cons (p := fun q : Str × Nat × Str => P q.1 q.2.1 q.2.2)).mpr ⟨h1, forall_mem_cons.mpr ⟨h2, forall_mem_cons.mpr ⟨h3, forall_mem_cons.mpr ⟨h4, forall_mem_cons.mpr ⟨h5, fun _ h => absurd h not_mem_nil⟩⟩⟩⟩⟩ _ h
theorem s5 (p : Str → Bool) (c : zT.all (fun q => p q.1) = true) (h : (kd, nm) ∈ zT) : p kd = true := all_eq_true.mp c _ h
theorem qD (p : Str → Nat → Bool) (e : z8.all (fun q => p q.1 q.2.2) = true) {c : Nat} (h : (kd, nm, c) ∈ z8) : p kd c = true := all_eq_true.mp e _ h
theorem o9 (p : Str → Nat → Bool) (c : xe.all (fun q => p q.1 q.2.1) = true) (h : (kd, k, nm) ∈ xe) : p kd k = true := all_eq_true.mp c _ h
theorem na (p : Str → Bool) (c : zT.all (fun q => p q.1) = true) (e : z8.all (fun q => p q.1) = true) (h : (∃ nm, (kd, nm) ∈ zT) ∨ ∃ nm c, (kd, nm, c) ∈ z8) : p kd = true :=
 h.elim (fun ⟨_, h⟩ => s5 p c h) fun ⟨_, _, h⟩ => qD (fun k _ => p k) e h
theorem qE (h : (kd, k, nm) ∈ xe) : k + 1 ≤ 5 := Nat.le_of_ble_eq_true (o9 (fun _ k => Nat.ble (k + 1) 5) rfl h)
theorem D.args (h : D k w t) : k = 9 → ∃ ts, t = .tuple ts ∧ ts.length ≤ w.length := by
 induction h with
 | up hk _ _ => intro e; rw [e] at hk; exact absurd hk (by decide)
 | @arg1 w t h _ => intro _; exact zg _ rfl (h.pos)
 | @argS v w w' t ts h _ _ ih =>
  intro _
  refine zb (ih rfl) fun us e hl => ?_
  refine (PyData.tuple.inj e ..).symm ▸ ?_
  exact zg _ rfl (by simp only [length_append, length_cons]; lia)
 | bin v hm _ _ _ _ => intro e; obtain this := qE hm; lia
 | _ => intro e; exact nomatch e
theorem zJ (h : n ≤ 1000) : zi n = true := Nat.ble_eq_true_of_le (by lia)
theorem xr {t : Tk} {k : St → Out} (h : (t :: σ).length ≤ 1000) : yD t σ k = k (t :: σ) := by
 unfold yD
 rw [zJ (by trivial)]; rfl
theorem xR {k : Str} : ex (n + 1) k ((k, v) :: σ) K = K (.tok k v) σ := by
 unfold ex
 rw [qy]
 obtain e : zu k [k] = true := by dsimp only [zu]; rw [beq_self_eq_true]; rfl
 rw [e]; rfl
theorem wP {x y : List PyData} (h : x.length + y.length ≤ 1000) : xq x (.dat (.tuple y)) K σ = K (.dat (.tuple (x ++ y))) σ := by
 show chk (zi (x.length + y.length)) _ = _
 rw [zJ h]; rfl
structure Lv (f g sub kd nm : Str) : Prop where
 sf : ∀ n σ, rP (n + 1) f [.lexer] σ = onOk (rP n sub [.lexer] σ) fun p σ => onOk (rP n g [.lexer] σ) fun q σ => cond (isNone q) (.ok p σ) (zv p fun p => zv q fun q => .ok (.dat (zS nm p q)) σ)
 sg : ∀ n t σ, rP (n + 1) g [.lexer] (t :: σ) = cond (t.1 == kd) (rP (n + 1) f [.lexer] σ) (yD t σ (.ok (.dat .none)))
theorem ni : Lv "_sumterm" "_sumterm_prime" "_xorterm" "OP_or" "or" := ⟨j8, Zb⟩
theorem nj : Lv "_xorterm" "_xorterm_prime" "_prodterm" "OP_xor" "xor" := ⟨j9, Zc⟩
theorem np : Lv "_prodterm" "_prodterm_prime" "_factor" "OP_and" "and" := ⟨ia, Zd⟩
theorem Lv.one {g sub : Str} (L : Lv f g sub kd nm) (h : rP (n + 1) sub [.lexer] σ = .ok (.dat t) (r :: rest)) (hr : (r.1 == kd) = false) (hl : (r :: rest).length ≤ 1000) :
  rP (n + 2) f [.lexer] σ = .ok (.dat t) (r :: rest) := by
 rw [L.sf, h]
 show onOk (rP (n + 1) g [.lexer] (r :: rest)) _ = _
 rw [L.sg, hr]
 show onOk (yD r rest _) _ = _
 rw [xr hl]; rfl
theorem Lv.two {g sub : Str} (L : Lv f g sub kd nm) {σ' : St} (h : rP (n + 1) sub [.lexer] σ = .ok (.dat p) ((kd, v) :: σ')) (h2 : rP (n + 1) f [.lexer] σ' = .ok (.dat q) τ) (hq : ∃ l, q = .tuple l) :
  rP (n + 2) f [.lexer] σ = .ok (.dat (zS nm p q)) τ := by
 rw [L.sf, h]
 show onOk (rP (n + 1) g [.lexer] ((kd, v) :: σ')) _ = _
 rw [L.sg]
 rw [beq_self_eq_true, cond_true, h2]
 obtain ⟨l, rfl⟩ := hq
 rfl
inductive LL (P : List Tk → PyData → Prop) : List Tk → List PyData → Prop
 | one {w : List Tk} {t : PyData} : P w t → LL P w [t]
 | cons (v : PyData) {w w' : List Tk} {t : PyData} {ts : List PyData} : P w t → LL P w' ts → LL P (w ++ (T "COMMA" v) :: w') (t :: ts)
noncomputable def fn (k : Nat) : Str := match k with
 | 0 => "_ite"
 | 1 => "_impl"
 | 2 => "_sumterm"
 | 3 => "_xorterm"
 | 4 => "_prodterm"
 | _ => "_factor"
noncomputable def C (k : Nat) (w : List Tk) (t : PyData) : Prop := 1 ≤ w.length ∧ ∀ n r rest, 8 * w.length + 6 ≤ n + k → wz k r.1 = false → (w ++ r :: rest).length ≤ 1000 → rP n (fn k) [.lexer] (w ++ r :: rest) = .ok (.dat t) (r :: rest)
theorem C.expr (h : C 0 w t) (hn : 8 * w.length + 7 ≤ n) (hr : wz 0 r.1 = false) (hl : (w ++ r :: rest).length ≤ 1000) : rP n "_expr" [.lexer] (w ++ r :: rest) = .ok (.dat t) (r :: rest) := by
 refine zd ((⟨n - 1, by lia⟩) : ∃ m, n = m + 1) fun m W0 => ?_
 obtain rfl := W0
 rw [j7]
 obtain q := h.2 m r rest (by lia) hr hl
 show onOk (rP m (fn 0) _ _) _ = _
 rw [q]; rfl
theorem LL.len (h : LL (C 0) w ts) : ts.length ≤ w.length := by
 induction h with
 | one h => exact h.1
 | cons v h _ ih => simp only [length_append, length_cons]; lia
theorem LL.args (h : LL (C 0) w ts) : ∀ n r rest, 8 * w.length + 8 ≤ n → (r.1 == ("COMMA" : Str)) = false → wz 0 r.1 = false → (w ++ r :: rest).length ≤ 1000 → rP n "_args" [.lexer] (w ++ r :: rest) = .ok (.dat (.tuple ts)) (r :: rest) := by
 induction h with
 | one h =>
  intro n r rest hn hc hr hl
  refine zd ((⟨n - 2, by lia⟩) : ∃ m, n = m + 2) fun m W0 => ?_
  obtain rfl := W0
  rw [qA, h.expr (by lia) hr hl]
  show onOk (rP (m + 1) "_zom_arg" [.lexer] (r :: rest)) _ = _
  rw [o3, hc]
  show onOk (yD r rest _) _ = _
  rw [xr (by simp only [length_append] at hl; exact Nat.le_trans (Nat.le_add_left ..) ‹_›)]
  exact wP (K := .ok) (by simp)
 | @cons v w w' t ts h h2 ih =>
  intro n r rest hn hc hr hl
  refine zd ((⟨n - 2, by lia⟩) : ∃ m, n = m + 2) fun m W1 => ?_
  obtain rfl := W1
  simp [length_append, length_cons] at hn hl
  obtain e1 : (w ++ T "COMMA" v :: w') ++ r :: rest = w ++ T "COMMA" v :: (w' ++ r :: rest) := by simp
  rw [e1, qA, h.expr (by lia) rfl (by simp only [length_append, length_cons]; assumption)]
  show onOk (rP (m + 1) "_zom_arg" [.lexer] (T "COMMA" v :: (w' ++ r :: rest))) _ = _
  rw [o3]
  show onOk (rP (m + 1) "_args" [.lexer] (w' ++ r :: rest)) _ = _
  rw [ih (m + 1) r rest (by lia) hc hr (by simp only [length_append, length_cons]; lia)]
  obtain this := h2.len
  exact wP (K := .ok) (by simp only [length_cons, length_nil]; lia)
structure Zm (fz kd sp : Str) : Prop where
 sz : ∀ n t σ, rP (n + 1) fz [.lexer] (t :: σ) = cond (t.1 == sp) (ex n kd σ fun v σ => wO v fun d => onOk (rP n fz [.lexer] σ) fun z σ => xq [d] z .ok σ) (yD t σ (.ok (.dat (.tuple []))))
theorem ip : Zm "_zom_name" "NameToken" "DOT" := ⟨Ze⟩
theorem iq : Zm "_zom_index" "IntegerToken" "COMMA" := ⟨Zf⟩
theorem Zm.run {fz : Str} (Z : Zm fz kd sp) {xs : List PyData} (h : SL kd sp w xs) : ∀ n r rest (K : V → St → Out), w.length ≤ n → (r.1 == sp) = false → (w ++ r :: rest).length ≤ 1000 →
  (ex n kd (w ++ r :: rest) fun v σ => wO v fun d => onOk (rP n fz [.lexer] σ) fun z σ => xq [d] z K σ) = K (.dat (.tuple xs)) (r :: rest) := by
 induction h with
 | one x =>
  intro n r rest K hn hr hl
  refine zd ((⟨n - 1, by simp only [length_cons, length_nil] at hn; lia⟩) : ∃ m, n = m + 1) fun m W0 => ?_
  obtain rfl := W0
  show ex (m + 1) kd ((kd, x) :: r :: rest) _ = _
  rw [xR]
  show onOk (rP (m + 1) fz [.lexer] (r :: rest)) _ = _
  rw [Z.sz, hr]
  show onOk (yD r rest _) _ = _
  rw [xr (by simp only [length_append] at hl; exact Nat.le_trans (Nat.le_add_left ..) ‹_›)]
  exact wP (by simp)
 | @cons x v w xs h ih =>
  intro n r rest K hn hr hl
  simp only [length_cons] at hn
  refine zd ((⟨n - 1, by lia⟩) : ∃ m, n = m + 1) fun m W1 => ?_
  obtain rfl := W1
  simp only [length_append, length_cons] at hl
  show ex (m + 1) kd ((kd, x) :: (sp, v) :: (w ++ r :: rest)) _ = _
  rw [xR]
  show onOk (rP (m + 1) fz [.lexer] ((sp, v) :: (w ++ r :: rest))) _ = _
  rw [Z.sz]
  rw [beq_self_eq_true, cond_true, ih m r rest .ok (by lia) hr (by simp only [length_append, length_cons]; lia)]
  obtain this := h.pos
  exact wP (by simp only [length_cons, length_nil]; lia)
theorem ir {l : List PyData} (h : l.length ≤ 1000) : qz (.dat (.tuple l)) σ = .ok (.dat (.tuple l.reverse)) σ := by
 show chk (zi l.length) _ = _
 rw [zJ h]; rfl
theorem iu {xs : List PyData} (h : SL "NameToken" "DOT" w xs) (hn : w.length + 1 ≤ n) (hr : (r.1 == ("DOT" : Str)) = false) (hl : (w ++ r :: rest).length ≤ 1000) :
  rP n "_names" [.lexer] (w ++ r :: rest) = .ok (.dat (.tuple xs.reverse)) (r :: rest) := by
 refine zd ((⟨n - 1, by lia⟩) : ∃ m, n = m + 1) fun m W0 => ?_
 obtain rfl := W0
 rw [ib, ip.run h m r rest qz (by lia) hr hl]
 obtain this := h.pos
 exact ir (by simp [length_append] at hl; lia)
theorem Zl {xs : List PyData} (h : SL "IntegerToken" "COMMA" w xs) (hn : w.length + 1 ≤ n) (hr : (r.1 == ("COMMA" : Str)) = false) (hl : (w ++ r :: rest).length ≤ 1000) :
  rP n "_indices" [.lexer] (w ++ r :: rest) = .ok (.dat (.tuple xs)) (r :: rest) := by
 refine zd ((⟨n - 1, by lia⟩) : ∃ m, n = m + 1) fun m W0 => ?_
 obtain rfl := W0
 rw [ic, iq.run h m r rest .ok (by lia) hr hl]
theorem SL.head {xs : List PyData} (h : SL kd sp w xs) : ∃ x w', w = (kd, x) :: w' := by
 cases h <;> exact y4 _ _ rfl
theorem iw {xs : List PyData} (h : SL "NameToken" "DOT" w xs) (hl : (w ++ τ).length ≤ 1000) : rP (n + 2) "_factor" [.lexer] (w ++ τ) = onOk (rP (n + 1) "_variable" [.lexer] (w ++ τ)) .ok := by
 refine zM (h.head) fun x w' W0 => ?_
 obtain rfl := W0
 show rP (n + 2) "_factor" [.lexer] (("NameToken", x) :: (w' ++ τ)) = _
 rw [il, xr (by trivial)]
 rfl
theorem Zn (h : LL (C 0) w ts) (hr : ∃ r w', w = r :: w' ∧ (r.1 == ("RPAREN" : Str)) = false) (hn : 8 * w.length + 8 ≤ n + 1) (hl : w.length + rest.length + 2 ≤ 1000) :
  qB n nm (T "LPAREN" v1 :: (w ++ T "RPAREN" v2 :: rest)) = .ok (.dat (.tuple (.str nm :: ts))) rest := by
 obtain ⟨r, w', rfl, hr⟩ := hr
 show ex (n + 1) "LPAREN" (("LPAREN", v1) :: _) _ = _
 rw [xR]
 show cond (r.1 == "RPAREN") _ (yD r (w' ++ T "RPAREN" v2 :: rest) _) = _
 rw [hr, cond_false, xr (by simp only [length_append, length_cons] at hl ⊢; lia)]
 show onOk (rP (n + 1) "_args" [.lexer] ((r :: w') ++ T "RPAREN" v2 :: rest)) _ = _
 rw [h.args (n + 1) _ _ hn rfl rfl (by simp only [length_append, length_cons] at hl ⊢; exact Nat.le_of_lt ‹_›)]
 show ex (n + 1) "RPAREN" (("RPAREN", v2) :: rest) (fun _ σ => xq [.str nm] (.dat (.tuple ts)) .ok σ) = _
 rw [xR]
 obtain this := h.len
 exact wP (K := .ok) (by simp only [length_cons, length_nil] at this hl ⊢; lia)
theorem Zo (h : C 1 w t) : C 0 w t := by
 refine ⟨h.1, fun n r rest hn hr hl => ?_⟩
 refine zd ((⟨n - 1, by lia⟩) : ∃ m, n = m + 1) fun m W0 => ?_
 obtain rfl := W0
 show rP (m + 1) "_ite" _ _ = _
 rw [oZ]
 show onOk (rP m (fn 1) _ _) _ = _
 rw [h.2 m r rest (by assumption) (o7 hr) hl]
 show cond (r.1 == "OP_question") _ (yD r rest _) = _
 rw [tw hr rfl, cond_false, xr (by rw [length_append] at hl; exact Nat.le_trans (Nat.le_add_left ..) ‹_›)]
theorem Zp (h : C 2 w t) : C 1 w t := by
 refine ⟨h.1, fun n r rest hn hr hl => ?_⟩
 refine zd ((⟨n - 1, by lia⟩) : ∃ m, n = m + 1) fun m W0 => ?_
 obtain rfl := W0
 show rP (m + 1) "_impl" _ _ = _
 rw [o0]
 show onOk (rP m (fn 2) _ _) _ = _
 rw [h.2 m r rest (by assumption) (o7 hr) hl]
 show cond (r.1 == "OP_rarrow") _ (cond (r.1 == "OP_lrarrow") _ (yD r rest _)) = _
 rw [tw hr rfl, cond_false, tw hr rfl, cond_false, xr (by rw [length_append] at hl; exact Nat.le_trans (Nat.le_add_left ..) ‹_›)]
theorem nq {g sub : Str} (L : Lv f g sub kd nm) (h1 : fn k = f) (h2 : fn (k + 1) = sub) (h3 : wz k kd = true) (hk : k ≤ 4) (h : C (k + 1) w t) : C k w t := by
 refine ⟨h.1, fun n r rest hn hr hl => ?_⟩
 refine zd ((⟨n - 2, by lia⟩) : ∃ m, n = m + 2) fun m W0 => ?_
 obtain rfl := W0
 refine (h1 ..).symm ▸ ?_
 exact L.one (by refine (h2 ..) ▸ ?_; exact h.2 (m + 1) r rest (by lia) (o7 hr) hl) (tw hr h3) (by rw [length_append] at hl; exact Nat.le_trans (Nat.le_add_left ..) ‹_›)
theorem Zq {b c : List Tk} {s d0 : PyData} (ha : C 1 a s) (hb : C 0 b d1) (hc : C 0 c d0) : C 0 (a ++ (T "OP_question" q) :: (b ++ (T "OP_colon" v) :: c)) (.tuple [.str "ite", s, d1, d0]) := by
 refine ⟨by simp only [length_append, length_cons]; lia, fun n r rest hn hr hl => ?_⟩
 simp [length_append, length_cons] at hn hl
 refine zd ((⟨n - 2, by lia⟩) : ∃ m, n = m + 2) fun m W0 => ?_
 obtain rfl := W0
 obtain e : (a ++ (T "OP_question" q) :: (b ++ (T "OP_colon" v) :: c)) ++ r :: rest = a ++ (T "OP_question" q) :: (b ++ (T "OP_colon" v) :: (c ++ r :: rest)) := by simp
 rw [e]
 show rP (m + 2) "_ite" _ _ = _
 rw [oZ]
 show onOk (rP (m + 1) (fn 1) _ _) _ = _
 rw [ha.2 (m + 1) _ _ (by lia) rfl (by simp only [length_append, length_cons]; assumption)]
 show onOk (rP (m + 1) (fn 0) _ (b ++ (T "OP_colon" v) :: (c ++ r :: rest))) _ = _
 rw [hb.2 (m + 1) _ _ (by lia) rfl (by simp only [length_append, length_cons]; lia)]
 show onOk (rP (m + 1) "_expect_token" [.lexer, .dat (.tuple [.str "OP_colon"])] (("OP_colon", v) :: (c ++ r :: rest))) (fun _ σ => onOk (rP (m + 1) "_ite" [.lexer] σ) fun d0 σ => zv d0 fun d0 => .ok (.dat (.tuple [.str "ite", s, d1, d0])) σ) = _
 rw [qy]
 show onOk (rP (m + 1) (fn 0) _ (c ++ r :: rest)) _ = _
 rw [hc.2 (m + 1) _ _ (by lia) hr (by simp only [length_append, length_cons]; lia)]
 rfl
theorem iy {b : List Tk} (hk : (kd = "OP_rarrow" ∧ nm = "implies") ∨ (kd = "OP_lrarrow" ∧ nm = "equal")) (ha : C 2 a p) (hb : C 1 b q) : C 1 (a ++ T kd v :: b) (zS nm p q) := by
 refine ⟨by simp only [length_append, length_cons]; lia, fun n r rest hn hr hl => ?_⟩
 simp only [length_append, length_cons] at hn hl
 refine zd ((⟨n - 2, by lia⟩) : ∃ m, n = m + 2) fun m W0 => ?_
 obtain rfl := W0
 have e : (a ++ T kd v :: b) ++ r :: rest = a ++ T kd v :: (b ++ r :: rest) := by simp
 rw [e]
 show rP (m + 2) "_impl" _ _ = _
 rw [o0]
 show onOk (rP (m + 1) (fn 2) _ _) _ = _
 rcases hk with ⟨rfl, rfl⟩ | ⟨rfl, rfl⟩
 ·rw [ha.2 (m + 1) _ _ (by lia) rfl (by simp only [length_append, length_cons]; lia)]
  show onOk (rP (m + 1) (fn 1) _ (b ++ r :: rest)) _ = _
  rw [hb.2 (m + 1) _ _ (by lia) hr (by simp only [length_append, length_cons]; lia)]
  rfl
 ·rw [ha.2 (m + 1) _ _ (by lia) rfl (by simp only [length_append, length_cons]; lia)]
  show onOk (rP (m + 1) (fn 1) _ (b ++ r :: rest)) _ = _
  rw [hb.2 (m + 1) _ _ (by lia) hr (by simp only [length_append, length_cons]; lia)]
  rfl
theorem nr {g sub : Str} (L : Lv f g sub kd nm) (h1 : fn k = f) (h2 : fn (k + 1) = sub) (h3 : wz (k + 1) kd = false) (hk : k ≤ 4) {b : List Tk} (hq : ∃ l, q = .tuple l) (ha : C (k + 1) a p) (hb : C k b q) : C k (a ++ T kd v :: b) (zS nm p q) := by
 refine ⟨by simp only [length_append, length_cons]; lia, fun n r rest hn hr hl => ?_⟩
 simp only [length_append, length_cons] at hn hl
 refine zd ((⟨n - 2, by lia⟩) : ∃ m, n = m + 2) fun m W0 => ?_
 obtain rfl := W0
 obtain e : (a ++ T kd v :: b) ++ r :: rest = a ++ T kd v :: (b ++ r :: rest) := by simp
 refine (e ..).symm ▸ (h1 ..).symm ▸ ?_
 exact L.two (by rw [← h2]; exact ha.2 (m + 1) _ _ (by lia) h3 (by simp only [length_append, length_cons]; lia)) (by refine (h1 ..) ▸ ?_; exact hb.2 (m + 1) r rest (by lia) hr (by simp only [length_append, length_cons]; lia)) hq
theorem Zr (h : C 5 w t) : C 5 (T "OP_not" v :: w) (.tuple [.str "not", t]) := by
 refine ⟨by simp only [length_cons]; lia, fun n r rest hn hr hl => ?_⟩
 simp only [length_append, length_cons] at hn hl
 refine zd ((⟨n - 2, by lia⟩) : ∃ m, n = m + 2) fun m W0 => ?_
 obtain rfl := W0
 show rP (m + 2) "_factor" _ (("OP_not", v) :: (w ++ r :: rest)) = _
 rw [ie]
 show onOk (rP (m + 1) (fn 5) _ _) _ = _
 rw [h.2 (m + 1) r rest (by lia) hr (by simp only [length_append, length_cons]; lia)]
 rfl
theorem Zs {v' : PyData} (h : C 0 w t) : C 5 (T "LPAREN" v :: (w ++ [T "RPAREN" v'])) t := by
 refine ⟨by simp only [length_cons]; lia, fun n r rest hn hr hl => ?_⟩
 simp only [length_append, length_cons, length_nil] at hn hl
 refine zd ((⟨n - 2, by lia⟩) : ∃ m, n = m + 2) fun m W0 => ?_
 obtain rfl := W0
 obtain e : (T "LPAREN" v :: (w ++ [T "RPAREN" v'])) ++ r :: rest = T "LPAREN" v :: (w ++ T "RPAREN" v' :: r :: rest) := by simp
 rw [e]
 show rP (m + 2) "_factor" _ (("LPAREN", v) :: _) = _
 rw [ig, h.expr (by lia) rfl (by simp only [length_append, length_cons]; lia)]
 show ex (m + 1) "RPAREN" (("RPAREN", v') :: r :: rest) (fun _ σ => .ok (.dat t) σ) = _
 rw [xR]
theorem Zt (hm : (kd, nm) ∈ zT) : C 5 [(kd, v), (T "LPAREN" v1), (T "RPAREN" v2)] (.tuple [.str nm]) := by
 refine ⟨by simp only [length_cons]; decide, fun n r rest hn hr hl => ?_⟩
 simp only [length_cons, length_nil] at hn
 refine zd ((⟨n - 2, by lia⟩) : ∃ m, n = m + 2) fun m W0 => ?_
 obtain rfl := W0
 show rP (m + 2) "_factor" _ ((kd, v) :: _) = _
 rw [o5 hm]
 show ex (m + 1) "LPAREN" (("LPAREN", v1) :: T "RPAREN" v2 :: r :: rest) _ = _
 rw [xR]
 rfl
theorem Zu (hm : (kd, nm) ∈ zT) (h : LL (C 0) w ts) (hh : ∃ r w', w = r :: w' ∧ (r.1 == ("RPAREN" : Str)) = false) : C 5 ((kd, v) :: T "LPAREN" v1 :: (w ++ [T "RPAREN" v2])) (.tuple (.str nm :: ts)) := by
 refine ⟨by simp only [length_cons]; lia, fun n r rest hn hr hl => ?_⟩
 simp only [length_append, length_cons, length_nil] at hn hl
 refine zd ((⟨n - 2, by lia⟩) : ∃ m, n = m + 2) fun m W0 => ?_
 obtain rfl := W0
 obtain e : ((kd, v) :: T "LPAREN" v1 :: (w ++ [T "RPAREN" v2])) ++ r :: rest = (kd, v) :: T "LPAREN" v1 :: (w ++ T "RPAREN" v2 :: r :: rest) := by simp
 rw [e]
 show rP (m + 2) "_factor" _ _ = _
 rw [o5 hm]
 exact Zn h hh (by lia) (by simp [length_cons]; lia)
theorem LL.inv (h : LL P w (t :: ts)) : (ts = [] ∧ P w t) ∨ ∃ a x b, w = a ++ T "COMMA" x :: b ∧ P a t ∧ LL P b ts := by
 cases h with
 | one h => exact .inl ⟨rfl, h⟩
 | cons x h1 h2 => exact .inr ⟨_, _, _, rfl, h1, h2⟩
theorem LL.none (h : LL P w []) : False := by cases h
theorem LL.last (h : LL P w [t]) : P w t :=
 h.inv.elim (·.2) fun ⟨_, _, _, _, _, q⟩ => q.none.elim
theorem LL.fst {u : PyData} (h : LL P w (t :: u :: ts)) : ∃ a x b, w = a ++ T "COMMA" x :: b ∧ P a t ∧ LL P b (u :: ts) := h.inv.resolve_left fun q => nomatch q.1
theorem tx {s : PyData} (h : C 0 a s) {k : Str} (hn : 8 * a.length + 7 ≤ m + 1) (hr : wz 0 r.1 = false) (hl : a.length + (rest.length + 1) ≤ 1000) :
  ex (m + 1) k ((k, v) :: (a ++ r :: rest)) (fun _ σ => onOk (rP (m + 1) "_expr" [.lexer] σ) K) = K (.dat s) (r :: rest) := by
 rw [xR, h.expr hn hr (by rw [length_append]; exact hl)]; rfl
theorem nu (g : ∀ m rest, 8 * w.length + 15 ≤ m → w.length + (rest.length + 3) ≤ 1000 → rP (m + 2) "_factor" [.lexer] ((kd, v) :: ("LPAREN", v1) :: (w ++ T "RPAREN" v2 :: rest)) = .ok (.dat t) rest) : C 5 ((kd, v) :: T "LPAREN" v1 :: (w ++ [T "RPAREN" v2])) t := by
 refine ⟨Nat.succ_le_succ (Nat.zero_le _), fun n r rest hn _ hl => ?_⟩
 simp only [length_append, length_cons, length_nil] at hn hl
 refine zd ((⟨n - 2, by lia⟩) : ∃ m, n = m + 2) fun m W0 => ?_
 obtain rfl := W0
 obtain e : ((kd, v) :: T "LPAREN" v1 :: (w ++ [T "RPAREN" v2])) ++ r :: rest = (kd, v) :: T "LPAREN" v1 :: (w ++ T "RPAREN" v2 :: r :: rest) := by simp
 rw [e]
 exact g m (r :: rest) (by lia) (by simp only [length_cons]; lia)
theorem Zv {x1 x2 s d0 : PyData} {b c : List Tk} (h1 : C 0 a s) (h2 : C 0 b d1) (h3 : C 0 c d0) : C 5 (("KW_ite", v) :: T "LPAREN" v1 :: ((a ++ T "COMMA" x1 :: (b ++ T "COMMA" x2 :: c)) ++ [T "RPAREN" v2])) (.tuple [.str "ite", s, d1, d0]) := nu fun m rest hn hl => by
 simp only [length_append, length_cons] at hn hl
 rw [ii, append_assoc, cons_append, append_assoc, cons_append]
 exact (tx h1 (by lia) rfl (by simp only [length_append, length_cons]; lia)).trans ((tx h2 (by lia) rfl (by simp only [length_append, length_cons]; lia)).trans ((tx h3 (by lia) rfl (by lia)).trans xR))
theorem Zw {x1 s : PyData} {b : List Tk} (h1 : C 0 a s) (h2 : C 0 b d1) : C 5 (("KW_implies", v) :: T "LPAREN" v1 :: ((a ++ T "COMMA" x1 :: b) ++ [T "RPAREN" v2])) (.tuple [.str "implies", s, d1]) := nu fun m rest hn hl => by
 simp only [length_append, length_cons] at hn hl
 rw [ij, append_assoc, cons_append]
 exact (tx h1 (by lia) rfl (by simp only [length_append, length_cons]; lia)).trans ((tx h2 (by lia) rfl (by lia)).trans xR)
theorem Zx {s : PyData} (h1 : C 0 a s) : C 5 (("KW_not", v) :: T "LPAREN" v1 :: (a ++ [T "RPAREN" v2])) (.tuple [.str "not", s]) := nu fun m rest hn hl => by
 rw [ik]
 exact (tx h1 (by lia) rfl (by lia)).trans xR
theorem s6 {α : Type} {l : List α} (h : l.length = n + 1) : ∃ a r, l = a :: r ∧ r.length = n := by
 cases l with
 | nil => injection h
 | cons a r => exact yj a r rfl (Nat.succ.inj h)
theorem Zy {c : Nat} (hm : (kd, nm, c) ∈ z8) (h : LL (C 0) w ts) (hc : ts.length = c) : C 5 ((kd, v) :: T "LPAREN" v1 :: (w ++ [T "RPAREN" v2])) (.tuple (.str nm :: ts)) := by
 refine o8 (P := fun kd nm c => ts.length = c → C 5 ((kd, v) :: T "LPAREN" v1 :: (w ++ [T "RPAREN" v2])) (.tuple (.str nm :: ts))) (fun e => ?_) (fun e => ?_) (fun e => ?_) hm hc
 ·refine zx (s6 e) fun s _ q1 e => ?_
  refine zx (s6 e) fun d1 _ q2 e => ?_
  refine zx (s6 e) fun d0 _ q3 e => ?_
  rw [q1, q2, q3, List.eq_nil_of_length_eq_zero e] at h ⊢
  refine xW (h.fst) fun a x1 w' e1 h1 h => ?_
  refine xW (h.fst) fun b x2 c e2 h2 h => ?_
  refine (e1 ..).symm ▸ (e2 ..).symm ▸ ?_
  exact Zv h1 h2 h.last
 ·refine zx (s6 e) fun s _ q1 e => ?_
  refine zx (s6 e) fun d1 _ q2 e => ?_
  rw [q1, q2, List.eq_nil_of_length_eq_zero e] at h ⊢
  refine xW (h.fst) fun a x1 w' e1 h1 h => ?_
  refine (e1 ..).symm ▸ ?_
  exact Zw h1 h.last
 ·refine zd (List.length_eq_one_iff.mp e) fun s e => ?_
  rw [e] at h ⊢
  exact Zx h.last
theorem Zz {ns : List PyData} (h : SL "NameToken" "DOT" w ns) : C 5 w (zS "var" (.tuple ns.reverse) (.tuple [])) := by
 refine ⟨h.pos.1, fun n r rest hn hr hl => ?_⟩
 obtain hp := h.pos.1
 refine zd ((⟨n - 2, by lia⟩) : ∃ m, n = m + 2) fun m W0 => ?_
 obtain rfl := W0
 show rP (m + 2) "_factor" _ _ = _
 rw [iw h hl, o4, iu h (by lia) (tw hr rfl) hl]
 show onOk (cond (r.1 == "LBRACK") _ (yD r rest _)) _ = _
 rw [tw hr rfl, cond_false, xr (by rw [length_append] at hl; exact Nat.le_trans (Nat.le_add_left ..) ‹_›)]
 rfl
theorem ZA {v' : PyData} {w' : List Tk} {ns is : List PyData} (h : SL "NameToken" "DOT" w ns) (h' : SL "IntegerToken" "COMMA" w' is) : C 5 (w ++ T "LBRACK" v :: (w' ++ [T "RBRACK" v'])) (zS "var" (.tuple ns.reverse) (.tuple is)) := by
 refine ⟨by obtain this := h.pos; simp [length_append]; lia, fun n r rest hn hr hl => ?_⟩
 simp only [length_append, length_cons, length_nil] at hn hl
 refine zd ((⟨n - 3, by lia⟩) : ∃ m, n = m + 3) fun m W0 => ?_
 obtain rfl := W0
 obtain e : (w ++ T "LBRACK" v :: (w' ++ [T "RBRACK" v'])) ++ r :: rest = w ++ T "LBRACK" v :: (w' ++ T "RBRACK" v' :: r :: rest) := by simp
 rw [e]
 show rP (m + 1 + 2) "_factor" _ _ = _
 rw [iw h (by simp only [length_append, length_cons]; lia), o4, iu h (by lia) rfl (by simp only [length_append, length_cons]; lia)]
 show onOk (onOk (rP (m + 1) "_indices" [.lexer] (w' ++ T "RBRACK" v' :: r :: rest)) fun ix σ => ex (m + 1) "RBRACK" σ fun _ σ => zv (.dat (.tuple ns.reverse)) fun nm => zv ix fun ix => .ok (.dat (zS "var" nm ix)) σ) .ok = _
 rw [Zl h' (by lia) rfl (by simp only [length_append, length_cons]; lia)]
 show onOk (ex (m + 1) "RBRACK" (("RBRACK", v') :: r :: rest) fun _ σ => .ok (.dat (zS "var" (.tuple ns.reverse) (.tuple is))) σ) .ok = _
 rw [xR]
 rfl
theorem ZB {i : Int} (h : i = 0 ∨ i = 1) : C 5 [T "IntegerToken" (.int i)] (.tuple [.str "const", .int i]) := by
 refine ⟨Nat.le_refl _, fun n r rest hn hr hl => ?_⟩
 simp only [length_cons, length_nil] at hn
 refine zd ((⟨n - 2, by lia⟩) : ∃ m, n = m + 2) fun m W0 => ?_
 obtain rfl := W0
 show rP (m + 2) "_factor" _ (("IntegerToken", .int i) :: r :: rest) = _
 rw [im]
 rcases h with rfl | rfl <;> rfl
theorem D.head {k : Nat} {w : List Tk} {t : PyData} (h : D k w t) : ∃ r w', w = r :: w' ∧ zu r.1 yQ = true := by
 obtain ap : ∀ {w w' : List Tk}, (∃ r u, w = r :: u ∧ zu r.1 yQ = true) → ∃ r u, w ++ w' = r :: u ∧ zu r.1 yQ = true := fun {w w'} ⟨r, u, e, q⟩ => (yj r (u ++ w') (by rw [e]; rfl) q)
 obtain sl : ∀ {w w' : List Tk} {sp : Str} {ns : List PyData}, SL "NameToken" sp w ns → ∃ r u, w = r :: u ∧ zu r.1 yQ = true := fun h => let ⟨x, w', e⟩ := h.head; ⟨_, w', e, by kernel_rfl⟩
 induction h with
 | up _ _ ih => exact ih
 | ite q v _ _ _ ih _ _ => exact ap ih
 | bin v _ _ _ ih _ => exact ap ih
 | not => exact yj _ _ rfl (by kernel_rfl)
 | paren => exact yj _ _ rfl (by kernel_rfl)
 | word0 v v1 v2 hm => exact yj _ _ rfl (s5 (fun k => zu k yQ) (by kernel_rfl) hm)
 | word v v1 v2 hm _ _ => exact yj _ _ rfl (s5 (fun k => zu k yQ) (by kernel_rfl) hm)
 | cnt v v1 v2 hm _ _ _ => exact yj _ _ rfl (qD (fun k _ => zu k yQ) rfl hm)
 | @var w ns h => exact sl (w' := w) h
 | @varI v v' w _ ns _ h _ => exact ap (sl (w' := w) h)
 | const => exact yj _ _ rfl (by kernel_rfl)
 | arg1 _ ih => exact ih
 | argS v _ _ ih _ => exact ap ih
theorem ZC (h : zu s yQ = true) (hx : zu x yQ = false) : (s == x) = false := by
 cases e : s == x with
 | false => rfl
 | true => rw [eq_of_beq e, hx] at h; exact ff h
theorem ZD {P : Nat → Prop} (h0 : P 0) (h1 : P 1) (h2 : P 2) (h3 : P 3) (h4 : P 4) (k : Nat) (hk : k ≤ 4) : P k := yz (yz (yz (yz (yz (fun _ h => absurd h (Nat.not_lt_zero _)) h0) h1) h2) h3) h4 k (Nat.lt_succ_of_le hk)
theorem ZE : ∀ k, k ≤ 4 → C (k + 1) w t → C k w t := ZD Zo Zp (nq ni rfl rfl rfl (by decide)) (nq nj rfl rfl rfl (by decide)) (nq np rfl rfl rfl (by decide))
theorem ZF (hm : (kd, k, nm) ∈ xe) {b : List Tk} (hq : ∃ ts, q = .tuple ts) (h1 : C (k + 1) a p) (h2 : C k b q) : C k (a ++ (kd, v) :: b) (zS nm p q) :=
 bins_ind (P := fun kd k nm => C (k + 1) a p → C k b q → C k (a ++ (kd, v) :: b) (zS nm p q)) (iy (.inl ⟨rfl, rfl⟩)) (iy (.inr ⟨rfl, rfl⟩)) (nr ni rfl rfl rfl (by decide) hq) (nr nj rfl rfl rfl (by decide) hq)
  (nr np rfl rfl rfl (by decide) hq) hm h1 h2
noncomputable def CL (k : Nat) (w : List Tk) (t : PyData) : Prop := (k ≤ 5 → C k w t) ∧ (k = 9 → ∀ ts, t = .tuple ts → LL (C 0) w ts)
theorem CL.of (hk : k ≤ 5) (h : C k w t) : CL k w t := ⟨fun _ => h, fun e => absurd hk (by rw [e]; decide)⟩
theorem CL.nine (h : LL (C 0) w ts) : CL 9 w (.tuple ts) := ⟨fun e => absurd e (by decide), fun _ us e => PyData.tuple.inj e ▸ h⟩
theorem CL.c (h : CL k w t) (hk : k ≤ 5) : C k w t := h.1 hk
theorem CL.l (h : CL 9 w (.tuple ts)) : LL (C 0) w ts := h.2 rfl _ rfl
theorem ZG (h : D k w t) : CL k w t := by
 induction h with
 | @up k w t hk h ih => exact .of (Nat.le_of_lt hk) (ZE k (Nat.le_of_lt_succ hk) (ih.c hk))
 | ite q v _ _ _ i1 i2 i3 => exact .of (by decide) (Zq (i1.c (by decide)) (i2.c (by decide)) (i3.c (by decide)))
 | bin v hm h1 h2 i1 i2 => exact .of (Nat.le_of_succ_le (qE hm)) (ZF hm h2.tuple (i1.c (qE hm)) (i2.c (Nat.le_of_succ_le (qE hm))))
 | not v _ ih => exact .of (by decide) (Zr (ih.c (by decide)))
 | paren v v' _ ih => exact .of (by decide) (Zs (ih.c (by decide)))
 | word0 v v1 v2 hm => exact .of (by decide) (Zt hm)
 | word v v1 v2 hm h ih =>
  refine zx (h.head) fun r w' e hr => ?_
  exact .of (by decide) (Zu hm ih.l ⟨r, w', e, ZC hr rfl⟩)
 | cnt v v1 v2 hm _ hc ih => exact .of (by decide) (Zy hm ih.l hc)
 | var h => exact .of (by decide) (Zz h)
 | varI v v' h h' => exact .of (by decide) (ZA h h')
 | const h => exact .of (by decide) (ZB h)
 | arg1 _ ih => exact .nine (.one (ih.c (by decide)))
 | argS v _ _ i1 i2 => exact .nine (.cons v (i1.c (by decide)) i2.l)
theorem ZH {k : Nat} {w : List Tk} {t : PyData} (h : D k w t) : (k ≤ 5 → C k w t) ∧ (k = 9 → ∀ ts, t = .tuple ts → LL (C 0) w ts) := ZG h
theorem ny (h : D 0 w t) (hn : 8 * w.length + 8 ≤ n) (hl : w.length ≤ 900) : tu n w = .ok (.dat t) [] := by
 refine zd ((⟨n - 1, by lia⟩) : ∃ m, n = m + 1) fun m W0 => ?_
 obtain rfl := W0
 rw [io, ((ZH h).1 (by decide)).expr (r := xG) (by lia) rfl (by simp only [length_append, length_cons, length_nil]; lia)]
 show ex (m + 1) ym ((ym, .str tm) :: []) (fun _ σ => .ok (.dat t) σ) = _
 rw [xR]
noncomputable def s7 (t : Tk) : Prop := t.1 ≠ ym ∧ (t.1 = "IntegerToken" → ∃ i, t.2 = .int i)
inductive Gd : St → Prop
 | nil : Gd [xG]
 | cons {t : Tk} {σ : St} : s7 t → Gd σ → Gd (t :: σ)
theorem Gd.tail {t : Tk} (h : Gd (t :: σ)) (hn : t.1 ≠ ym) : s7 t ∧ Gd σ := by
 cases h with
 | nil => exact absurd rfl hn
 | cons h1 h2 => exact ⟨h1, h2⟩
theorem Gd.out (h : Gd σ) : ∃ r rest, σ = r :: rest := by cases h <;> exact y4 _ _ rfl
theorem iz : ∀ {w : List Tk}, (∀ t ∈ w, s7 t) → Gd (w ++ [xG])
 | [], _ => .nil
 | t :: w, h => .cons (h t (mem_cons_self ..)) (iz fun t ht => h t (mem_cons_of_mem _ ht))
noncomputable def Rz (k : Nat) (σ : St) (o : Out) : Prop := o = .err ∨ ∃ w t τ, σ = w ++ τ ∧ Gd τ ∧ D k w t ∧ o = .ok (.dat t) τ
theorem nA {k : Str} (h : Gd σ) (hk : (k == ym) = false) (K : V → St → Out) : ex (n + 1) k σ K = .err ∨ ∃ v τ, σ = (k, v) :: τ ∧ Gd τ ∧ ((k = "IntegerToken") → ∃ i, v = .int i) ∧ ex (n + 1) k σ K = K (.tok k v) τ := by
 refine zM (h.out) fun W0 rest W1 => ?_
 obtain ⟨s, v⟩ := W0
 obtain rfl := W1
 cases e : zu s [k] with
 | false =>
  left
  unfold ex
  rw [qy]
  rw [e]; rfl
 | true =>
  right
  obtain e' : s = k := by
   dsimp only [zu] at e
   cases q : s == k with
   | true => exact eq_of_beq q
   | false => rw [q] at e; exact ff e
  subst e'
  refine ze (h.tail (fun q => by
   obtain q : s = ym := q
   rw [q, beq_self_eq_true] at hk; exact ff hk.symm)) fun h1 h2 => ?_
  exact wE v rest rfl h2 (h1.2) xR
theorem Zm.tot {fz kd sp : Str} (Z : Zm fz kd sp) (hk : (kd == ym) = false) (hs : (sp == ym) = false) : ∀ (n : Nat) (σ : St) (K : V → St → Out), Gd σ → σ.length ≤ n → σ.length ≤ 900 →
  ((ex n kd σ fun v σ => wO v fun d => onOk (rP n fz [.lexer] σ) fun z σ => xq [d] z K σ) = .err ∨
   ∃ w xs τ, σ = w ++ τ ∧ SL kd sp w xs ∧ Gd τ ∧ (ex n kd σ fun v σ => wO v fun d => onOk (rP n fz [.lexer] σ) fun z σ => xq [d] z K σ) = K (.dat (.tuple xs)) τ)
 | 0, σ, K, hg, hn, _ => by
  refine zM (hg.out) fun r rest W0 => ?_
  obtain rfl := W0
  simp only [length_cons] at hn; lia
 | n + 1, σ, K, hg, hn, hl => by
  refine pt (nA (n := n) hg hk (fun v σ => wO v fun d => onOk (rP (n + 1) fz [.lexer] σ) fun z σ => xq [d] z K σ)) (fun e => ?_) fun v τ W1 h2 _ e => ?_
  ·exact .inl e
  ·obtain rfl := W1; refine (e ..).symm ▸ ?_
   refine zM (h2.out) fun W2 rest W3 => ?_
   obtain ⟨s, u⟩ := W2
   obtain rfl := W3
   simp [length_cons] at hn hl
   obtain e2 : (wO (V.tok kd v) fun d => onOk (rP (n + 1) fz [.lexer] ((s, u) :: rest)) fun z σ => xq [d] z K σ) = onOk (rP (n + 1) fz [.lexer] ((s, u) :: rest)) (fun z σ => xq [v] z K σ) := rfl
   refine (e2 ..).symm ▸ (Z.sz ..).symm ▸ ?_
   cases q : s == sp with
   | false =>
    right
    refine vC ([(kd, v)]) ([v]) ((s, u) :: rest) rfl (.one v) h2 ?_
    rw [xr (by simp [length_cons]; exact Nat.le_trans ‹_› (by decide))]
    exact wP (by simp)
   | true =>
    obtain rfl := eq_of_beq q
    obtain ⟨_, h3⟩ := h2.tail (fun q => by
     obtain q : s = ym := q
     rw [q, beq_self_eq_true] at hs; exact ff hs.symm)
    refine (cond_true ..).symm ▸ ?_
    refine wf (Z.tot hk hs n rest .ok h3 (by lia) (by lia)) (fun e3 => ?_) fun w xs τ W4 h4 h5 e3 => ?_
    ·rw [e3]; exact .inl rfl
    ·obtain rfl := W4; right
     rw [e3]
     refine vC ((kd, v) :: (s, u) :: w) (v :: xs) τ rfl (.cons v u h4) h5 ?_
     obtain this := h4.pos
     simp only [length_append] at hl
     exact wP (by simp only [length_cons, length_nil]; lia)
theorem ZI (hg : Gd σ) (hn : σ.length + 2 ≤ n) (hl : σ.length ≤ 900) : Rz 5 σ (rP n "_variable" [.lexer] σ) := by
 refine zd ((⟨n - 2, by lia⟩) : ∃ m, n = m + 2) fun m W0 => ?_
 obtain rfl := W0
 rw [o4, ib]
 refine wf (ip.tot rfl rfl m σ qz hg (by lia) hl) (fun e => ?_) fun w xs τ W1 h1 h2 e => ?_
 ·rw [e]; exact .inl rfl
 ·obtain rfl := W1; obtain hp := h1.pos
  simp [length_append] at hn hl
  rw [e, ir (by lia)]
  refine zM (h2.out) fun W2 rest W3 => ?_
  obtain ⟨s, u⟩ := W2
  obtain rfl := W3
  simp only [length_cons] at hn hl
  show Rz 5 _ (cond (s == "LBRACK") _ (yD (s, u) rest _))
  cases q : s == ("LBRACK" : Str) with
  | false =>
   right
   refine vC w _ ((s, u) :: rest) rfl h2 (.var h1) ?_
   rw [cond_false, xr (by simp [length_cons]; lia)]; rfl
  | true =>
   obtain rfl := eq_of_beq q
   obtain ⟨_, h3⟩ := h2.tail (fun q => by cases q)
   rw [cond_true, ic]
   refine wf (iq.tot rfl rfl m rest .ok h3 (by lia) (by lia)) (fun e3 => ?_) fun w' is τ W4 h4 h5 e3 => ?_
   ·rw [e3]; exact .inl rfl
   ·obtain rfl := W4; rw [e3]
    show Rz 5 _ (ex (m + 1) "RBRACK" τ fun _ σ => .ok (.dat (zS "var" (.tuple xs.reverse) (.tuple is))) σ)
    refine pt (nA (n := m) (k := "RBRACK") h5 rfl (fun _ σ => .ok (.dat (zS "var" (.tuple xs.reverse) (.tuple is))) σ)) (fun e4 => ?_) fun v τ' W5 h6 _ e4 => ?_
    ·exact .inl e4
    ·obtain rfl := W5; exact .inr ⟨w ++ T "LBRACK" u :: (w' ++ [T "RBRACK" v]), _, τ', by simp, h6, .varI u v h1 h4, e4⟩
noncomputable def Tt (n : Nat) : Prop := ∀ k σ, Gd σ → σ.length ≤ 900 → (k ≤ 5 → 8 * σ.length + 6 ≤ n + k → Rz k σ (rP n (fn k) [.lexer] σ)) ∧ (k = 9 → 8 * σ.length + 8 ≤ n → Rz 9 σ (rP n "_args" [.lexer] σ))
theorem Tt.lv (h : Tt n) (hg : Gd σ) (hl : σ.length ≤ 900) (hk : k ≤ 5) (hn : 8 * σ.length + 6 ≤ n + k) : Rz k σ (rP n (fn k) [.lexer] σ) := (h k σ hg hl).1 hk hn
theorem Tt.expr (h : Tt n) (hg : Gd σ) (hl : σ.length ≤ 900) (hn : 8 * σ.length + 6 ≤ n) : Rz 0 σ (rP (n + 1) "_expr" [.lexer] σ) := by
 rw [j7]
 refine wf (h.lv (k := 0) hg hl (by lia) (by assumption)) (fun e => ?_) fun w t τ W0 h1 h2 e => ?_
 ·show Rz 0 σ (onOk (rP n (fn 0) _ _) _)
  rw [e]; exact .inl rfl
 ·obtain rfl := W0; show Rz 0 _ (onOk (rP n (fn 0) _ _) _)
  rw [e]; exact .inr ⟨w, t, τ, rfl, h1, h2, rfl⟩
theorem Rz.ok {σ' : St} {o : Out} (h : Rz k σ' o) (hF : ∀ w t τ, σ' = w ++ τ → Gd τ → D k w t → Rz j σ (F (.dat t) τ)) : Rz j σ (onOk o F) := by
 refine wf h (fun W0 => ?_) fun w t τ e h1 h2 W1 => ?_
 ·refine (W0) ▸ ?_; exact .inl rfl
 ·refine (W1) ▸ ?_; exact hF w t τ e h1 h2
theorem Rz.ex {n j : Nat} {k : Str} {σ τ : St} {F : V → St → Out} (hg : Gd τ) (hk : (k == ym) = false) (hF : ∀ v τ', τ = (k, v) :: τ' → Gd τ' → (k = "IntegerToken" → ∃ i, v = .int i) → Rz j σ (F (.tok k v) τ')) : Rz j σ (ex (n + 1) k τ F) := by
 refine pt (nA (n := n) hg hk F) (fun e => ?_) fun v τ' W0 h1 h2 e => ?_
 ·exact .inl e
 ·obtain rfl := W0; rw [e]; exact hF v τ' rfl h1 h2
theorem Rz.next {F : Tk → St → Out} (hg : Gd τ) (hF : ∀ r rest, τ = r :: rest → Rz j σ (F r rest)) : Rz j σ (s4 τ F) := by
 refine zM (hg.out) fun r rest W0 => ?_
 obtain rfl := W0
 exact hF r rest rfl
theorem s8 {k : Str} (e : (r.1 == k) = true) (hk : (k == ym) = false) : r.1 ≠ ym := fun q => by
 obtain this := eq_of_beq e
 rw [← this, q, beq_self_eq_true] at hk
 injection hk
theorem xS {k : Str} (e : (r.1 == k) = true) : r = T k r.2 := by exact (eq_of_beq e ..) ▸ rfl
theorem ZJ (I : Tt (m + 1)) (hg : Gd σ) (hl : σ.length ≤ 900) (hn : 8 * σ.length + 6 ≤ m + 2) : Rz 0 σ (rP (m + 2) "_ite" [.lexer] σ) := by
 rw [oZ]
 refine (I.lv (k := 1) hg hl (by lia) (by assumption)).ok fun w s τ hσ hτ hD => Rz.next hτ fun r rest hr => ?_
 subst hr
 subst hσ
 obtain hp := hD.pos
 simp [length_append, length_cons] at hl hn
 show Rz 0 _ (cond (r.1 == "OP_question") _ _)
 cases e : r.1 == ("OP_question" : Str) with
 | false =>
  rw [cond_false, xr (by simp [length_cons]; lia)]
  exact .inr ⟨w, s, _, rfl, hτ, .up (by lia) hD, rfl⟩
 | true =>
  rw [cond_true]
  refine ze (hτ.tail (s8 e rfl)) fun _ h2 => ?_
  obtain er := xS e
  generalize r.2 = q at er
  rw [er]
  refine wf (I.lv (k := 0) h2 (by lia) (by lia) (by lia)) (fun e2 => ?_) fun w2 d1 τ2 W0 h3 hD2 e2 => ?_
  ·show Rz 0 _ (onOk (rP (m + 1) (fn 0) _ _) _)
   rw [e2]; exact .inl rfl
  ·obtain rfl := W0; show Rz 0 _ (onOk (rP (m + 1) (fn 0) _ _) _)
   rw [e2]
   obtain hp2 := hD2.pos
   rw [length_append] at hl hn
   refine Rz.ex h3 rfl fun v τ3 e3 h4 _ => ?_
   subst e3
   simp only [length_cons] at hl hn
   refine wf (I.lv (k := 0) h4 (by lia) (by lia) (by lia)) (fun e4 => ?_) fun w3 d0 τ4 W1 h5 hD3 e4 => ?_
   ·show Rz 0 _ (onOk (rP (m + 1) (fn 0) _ _) _)
    rw [e4]; exact .inl rfl
   ·obtain rfl := W1; show Rz 0 _ (onOk (rP (m + 1) (fn 0) _ _) _)
    rw [e4]
    exact .inr ⟨w ++ (T "OP_question" q) :: (w2 ++ (T "OP_colon" v) :: w3), _, τ4, by simp, h5, .ite q v hD hD2 hD3, rfl⟩
theorem ZK (I : Tt (m + 1)) (hg : Gd σ) (hl : σ.length ≤ 900) (hn : 8 * σ.length + 6 ≤ m + 3) : Rz 1 σ (rP (m + 2) "_impl" [.lexer] σ) := by
 rw [o0]
 refine (I.lv (k := 2) hg hl (by lia) (by assumption)).ok fun w s τ hσ hτ hD => Rz.next hτ fun r rest hr => ?_
 subst hr
 subst hσ
 obtain hp := hD.pos
 simp only [length_append, length_cons] at hl hn
 have go : ∀ {kd nm : Str}, (kd, 1, nm) ∈ xe → (kd == ym) = false → (r.1 == kd) = true → Rz 1 (w ++ r :: rest) (onOk (rP (m + 1) "_impl" [.lexer] rest) fun q σ => zv q fun q => .ok (.dat (zS nm s q)) σ) := fun {kd nm} hm hk e => by
  refine ze (hτ.tail (s8 e hk)) fun _ h2 => ?_
  obtain er := xS e
  generalize r.2 = q at er
  rw [er]
  refine wf (I.lv (k := 1) h2 (by lia) (by lia) (by lia)) (fun e2 => ?_) fun w2 d1 τ2 W0 h3 hD2 e2 => ?_
  ·show Rz 1 _ (onOk (rP (m + 1) (fn 1) _ _) _)
   rw [e2]; exact .inl rfl
  ·obtain rfl := W0; show Rz 1 _ (onOk (rP (m + 1) (fn 1) _ _) _)
   rw [e2]
   exact .inr ⟨w ++ T kd q :: w2, _, τ2, by simp, h3, .bin q hm hD hD2, rfl⟩
 show Rz 1 _ (cond (r.1 == "OP_rarrow") _ (cond (r.1 == "OP_lrarrow") _ _))
 cases e : r.1 == ("OP_rarrow" : Str) with
 | true => exact go (by trivial) rfl e
 | false =>
  cases e' : r.1 == ("OP_lrarrow" : Str) with
  | true => exact go (by trivial) rfl e'
  | false =>
   rw [cond_false, cond_false, xr (by simp [length_cons]; lia)]
   exact .inr ⟨w, s, _, rfl, hτ, .up (by lia) hD, rfl⟩
theorem nB {g sub : Str} (L : Lv f g sub kd nm) (h1 : fn k = f) (h2 : fn (k + 1) = sub) (hm : (kd, k, nm) ∈ xe) (hk : k ≤ 4) (hkd : (kd == ym) = false) (I : Tt (m + 1)) (hg : Gd σ) (hl : σ.length ≤ 900) (hn : 8 * σ.length + 6 ≤ m + 2 + k) : Rz k σ (rP (m + 2) f [.lexer] σ) := by
 rw [L.sf, ← h2]
 refine (I.lv (k := k + 1) hg hl (by lia) (by lia)).ok fun w s τ hσ hτ hD => ?_
 refine zM (hτ.out) fun r rest W0 => ?_
 obtain rfl := W0
 subst hσ
 obtain hp := hD.pos
 simp only [length_append, length_cons] at hl hn
 refine (L.sg ..).symm ▸ ?_
 cases e : r.1 == kd with
 | false =>
  rw [cond_false, xr (by simp [length_cons]; lia)]
  exact .inr ⟨w, s, _, rfl, hτ, .up (by lia) hD, rfl⟩
 | true =>
  refine (cond_true ..).symm ▸ (h1 ..) ▸ ?_
  refine ze (hτ.tail (s8 e hkd)) fun _ h2 => ?_
  obtain er := xS e
  generalize r.2 = q at er
  rw [er]
  refine wf (I.lv (k := k) h2 (by lia) (by lia) (by lia)) (fun e2 => ?_) fun w2 d1 τ2 W1 h3 hD2 e2 => ?_
  ·refine (e2 ..).symm ▸ ?_; exact .inl rfl
  ·obtain rfl := W1; rw [e2]
   refine zd (hD2.tuple) fun l W2 => ?_
   obtain rfl := W2
   exact .inr ⟨w ++ T kd q :: w2, _, τ2, by simp, h3, .bin q hm hD hD2, rfl⟩
theorem ZL (I : Tt m) (I1 : Tt (m + 1)) (hg : Gd σ) (hl : σ.length ≤ 900) (hn : 8 * σ.length + 8 ≤ m + 2) : Rz 9 σ (rP (m + 2) "_args" [.lexer] σ) := by
 rw [qA]
 refine (I.expr hg hl (by lia)).ok fun w s τ hσ hτ hD => ?_
 refine zM (hτ.out) fun r rest W0 => ?_
 obtain rfl := W0
 subst hσ
 obtain hp := hD.pos
 simp only [length_append, length_cons] at hl hn
 show Rz 9 _ (onOk (rP (m + 1) "_zom_arg" [.lexer] (r :: rest)) fun z σ => xq [s] z .ok σ)
 refine (o3 ..).symm ▸ ?_
 cases e : r.1 == ("COMMA" : Str) with
 | false =>
  rw [cond_false, xr (by simp [length_cons]; lia)]
  refine .inr ⟨w, _, _, rfl, hτ, .arg1 hD, ?_⟩
  exact wP (K := .ok) (by simp)
 | true =>
  rw [cond_true]
  refine ze (hτ.tail (s8 e rfl)) fun _ h2 => ?_
  obtain er := xS e
  generalize r.2 = q at er
  rw [er]
  refine wf ((I1 9 rest h2 (by lia)).2 rfl (by lia)) (fun e2 => ?_) fun w2 t2 τ2 W1 h3 hD2 e2 => ?_
  ·refine (e2 ..).symm ▸ ?_; exact .inl rfl
  ·obtain rfl := W1; rw [e2]
   refine zb (hD2.args rfl) fun ts W2 hts => ?_
   obtain rfl := W2
   rw [length_append] at hl hn
   refine .inr ⟨w ++ T "COMMA" q :: w2, _, τ2, by simp, h3, .argS q hD hD2, ?_⟩
   exact wP (K := .ok) (by simp only [length_cons, length_nil]; lia)
theorem ZM (I1 : Tt (m + 1)) (hm : (kd, nm) ∈ zT) (hg : Gd σ) (hl : σ.length + 1 ≤ 900) (hn : 8 * (σ.length + 1) + 1 ≤ m + 2) : Rz 5 ((kd, v) :: σ) (qB m nm σ) := by
 refine Rz.ex hg rfl fun v1 τ e1 h1 _ => Rz.next h1 fun r rest e2 => ?_
 subst e1
 subst e2
 simp only [length_cons] at hl hn
 show Rz 5 _ (cond (r.1 == "RPAREN") _ _)
 cases e : r.1 == ("RPAREN" : Str) with
 | true =>
  rw [cond_true]
  refine ze (h1.tail (s8 e rfl)) fun _ h2 => ?_
  obtain er := xS e
  generalize r.2 = q at er
  refine (er) ▸ ?_
  exact .inr ⟨[(kd, v), T "LPAREN" v1, T "RPAREN" q], _, rest, rfl, h2, .word0 v v1 q hm, rfl⟩
 | false =>
  rw [cond_false, xr (by simp [length_cons]; lia)]
  refine wf ((I1 9 (r :: rest) h1 (by simp only [length_cons]; lia)).2 rfl (by simp only [length_cons]; lia)) (fun e2 => ?_) fun w2 t2 τ2 e3 h3 hD2 e2 => ?_
  ·rw [e2]; exact .inl rfl
  ·rw [e2]
   refine zb (hD2.args rfl) fun ts W0 hts => ?_
   obtain rfl := W0
   refine Rz.ex h3 rfl fun v2 τ3 e4 h4 _ => ?_
   subst e4
   obtain hl2 : (r :: rest).length = w2.length + (τ3.length + 1) := by refine (e3 ..).symm ▸ ?_; simp
   simp only [length_cons] at hl2
   refine .inr ⟨(kd, v) :: T "LPAREN" v1 :: (w2 ++ [T "RPAREN" v2]), _, τ3, by rw [e3]; simp, h4, .word v v1 v2 hm hD2, ?_⟩
   exact wP (K := .ok) (by simp only [length_cons, length_nil]; lia)
theorem iA {x : Str} : ∀ {l : List Str}, zu x l = true → x ∈ l
 | y :: l, h => by
  dsimp only [zu] at h
  cases e : x == y with
  | true => rw [eq_of_beq e]; exact mem_cons_self ..
  | false => obtain h := (e ..) ▸ h; exact mem_cons_of_mem _ (iA h)
theorem ZN (h : s ∈ xd) : ∃ nm, (s, nm) ∈ zT := by
 rw [show xd = zT.map (·.1) by kernel_rfl] at h
 refine zb (mem_map.mp h) fun W0 hq e => ?_
 obtain ⟨k, nm⟩ := W0
 exact ⟨nm, e ▸ hq⟩
theorem iB (h : zu s yQ = true) : s = "OP_not" ∨ s = "LPAREN" ∨ s = "KW_ite" ∨ s = "KW_implies" ∨ s = "KW_not" ∨ s = "NameToken" ∨ s = "IntegerToken" ∨ ∃ nm, (s, nm) ∈ zT := by
 refine (mem_append.mp (iA h)).elim (fun q => ?_) fun q => .inr (.inr (.inr (.inr (.inr (.inr (.inr (ZN q)))))))
 simp only [mem_cons, not_mem_nil, or_false] at q
 exact q.imp_right (Or.imp_right (Or.imp_right (Or.imp_right (Or.imp_right (Or.imp_right Or.inl)))))
theorem Rz.sub (I : Tt m) (hg : Gd τ) (hl : τ.length ≤ 900) (hn : 8 * τ.length + 6 ≤ m) (hF : ∀ w t τ', τ = w ++ τ' → Gd τ' → D 0 w t → Rz 5 σ (F (.dat t) τ')) : Rz 5 σ (onOk (rP (m + 1) "_expr" [.lexer] τ) F) :=
 (I.expr hg hl hn).ok hF
theorem ZO (I : Tt m) (I1 : Tt (m + 1)) (hg : Gd σ) (hl : σ.length ≤ 900) (hn : 8 * σ.length + 1 ≤ m + 2) : Rz 5 σ (rP (m + 2) "_factor" [.lexer] σ) := by
 refine zM (hg.out) fun W0 σ W1 => ?_
 obtain ⟨s, v⟩ := W0
 obtain rfl := W1
 cases e : zu s yQ with
 | false => exact .inl (Zk m (s, v) σ e)
 | true =>
 simp only [length_cons] at hl hn
 have hs : s ≠ ym := fun q => by rw [q] at e; exact ff e
 refine ze (hg.tail hs) fun hok h2 => ?_
 rcases iB e with rfl | rfl | rfl | rfl | rfl | rfl | rfl | ⟨nm, hm⟩
 ·rw [ie]
  refine (I1.lv (k := 5) h2 (by lia) (by lia) (by lia)).ok fun w t τ hσ hτ hD => ?_
  refine (hσ) ▸ ?_
  exact .inr ⟨T "OP_not" v :: w, _, τ, rfl, hτ, .not v hD, rfl⟩
 ·rw [ig]
  refine Rz.sub I h2 (by lia) (by lia) fun w t τ hσ hτ hD => Rz.ex hτ rfl fun v' τ' e2 h3 _ => ?_
  subst e2
  refine (hσ) ▸ ?_
  exact .inr ⟨T "LPAREN" v :: (w ++ [T "RPAREN" v']), _, τ', by simp, h3, .paren v v' hD, rfl⟩
 ·rw [ii]
  refine Rz.ex h2 rfl fun v1 τ1 e1 g1 _ => ?_
  subst e1
  simp only [length_cons] at hl hn
  refine Rz.sub I g1 (by lia) (by lia) fun w1 t1 τ2 e2 g2 D1 => Rz.ex g2 rfl fun v2 τ3 e3 g3 _ => ?_
  subst e3
  subst e2
  simp only [length_append, length_cons] at hl hn
  refine Rz.sub I g3 (by lia) (by lia) fun w2 t2 τ4 e4 g4 D2 => Rz.ex g4 rfl fun v3 τ5 e5 g5 _ => ?_
  subst e5
  subst e4
  simp [length_append, length_cons] at hl hn
  refine Rz.sub I g5 (by lia) (by lia) fun w3 t3 τ6 e6 g6 D3 => Rz.ex g6 rfl fun v4 τ7 e7 g7 _ => ?_
  subst e7
  refine (e6) ▸ ?_
  exact .inr ⟨("KW_ite", v) :: T "LPAREN" v1 :: ((w1 ++ T "COMMA" v2 :: (w2 ++ T "COMMA" v3 :: w3)) ++ [T "RPAREN" v4]), _, τ7, by simp, g7, .cnt v v1 v4 (by simp [z8]) (.argS v2 D1 (.argS v3 D2 (.arg1 D3))) rfl, rfl⟩
 ·rw [ij]
  refine Rz.ex h2 rfl fun v1 τ1 e1 g1 _ => ?_
  subst e1
  simp only [length_cons] at hl hn
  refine Rz.sub I g1 (by lia) (by lia) fun w1 t1 τ2 e2 g2 D1 => Rz.ex g2 rfl fun v2 τ3 e3 g3 _ => ?_
  subst e3
  subst e2
  simp only [length_append, length_cons] at hl hn
  refine Rz.sub I g3 (by lia) (by lia) fun w2 t2 τ4 e4 g4 D2 => Rz.ex g4 rfl fun v3 τ5 e5 g5 _ => ?_
  subst e5
  refine (e4) ▸ ?_
  exact .inr ⟨("KW_implies", v) :: T "LPAREN" v1 :: ((w1 ++ T "COMMA" v2 :: w2) ++ [T "RPAREN" v3]), _, τ5, by simp, g5, .cnt v v1 v3 (by simp [z8]) (.argS v2 D1 (.arg1 D2)) rfl, rfl⟩
 ·rw [ik]
  refine Rz.ex h2 rfl fun v1 τ1 e1 g1 _ => ?_
  subst e1
  simp only [length_cons] at hl hn
  refine Rz.sub I g1 (by lia) (by lia) fun w1 t1 τ2 e2 g2 D1 => Rz.ex g2 rfl fun v2 τ3 e3 g3 _ => ?_
  subst e3
  refine (e2) ▸ ?_
  exact .inr ⟨("KW_not", v) :: T "LPAREN" v1 :: (w1 ++ [T "RPAREN" v2]), _, τ3, by simp, g3, .cnt v v1 v2 (by simp [z8]) (.arg1 D1) rfl, rfl⟩
 ·rw [il, xr (by simp [length_cons]; lia)]
  obtain q := ZI (n := m + 1) hg (by simp only [length_cons]; lia) (by (first | lia | omega))
  exact q.ok fun w t τ hσ hτ hD => .inr ⟨w, t, τ, hσ, hτ, hD, rfl⟩
 ·refine zd ((hok.2 rfl) : ∃ i, v = .int i) fun i W2 => ?_
  obtain rfl := W2
  rw [im]
  cases q : xa i [0, 1] with
  | false => exact .inl rfl
  | true =>
   obtain hi : i = 0 ∨ i = 1 := by
    dsimp only [xa] at q
    by_cases h0 : i = 0
    ·exact .inl h0
    ·replace q := (decide_eq_false h0 ..) ▸ q
     unfold xa at q
     by_cases h1 : i = 1
     ·exact .inr h1
     ·rw [decide_eq_false h1] at q
      exact ff q
   exact .inr ⟨[T "IntegerToken" (.int i)], _, σ, rfl, h2, .const hi, rfl⟩
 ·rw [o5 hm]
  exact ZM I1 hm h2 (by assumption) (by assumption)
theorem ZP {P : Nat → Prop} (h0 : P 0) (h1 : P 1) (h2 : P 2) (h3 : P 3) (h4 : P 4) (h5 : P 5) (k : Nat) (hk : k ≤ 5) : P k := yz (yz (yz (yz (yz (yz (fun _ h => absurd h (Nat.not_lt_zero _)) h0) h1) h2) h3) h4) h5 k (Nat.lt_succ_of_le hk)
theorem iC (hn : n ≤ 1) : Tt n := fun k σ hg _ => by
 refine zM (hg.out) fun r rest e => ?_
 have q : σ.length = rest.length + 1 := by rw [e]; rfl
 exact ⟨fun _ h => by lia, fun _ h => by lia⟩
theorem ZQ (I : Tt m) (I1 : Tt (m + 1)) : Tt (m + 2) := fun k σ hg hl =>
 ⟨ZP (P := fun k => 8 * σ.length + 6 ≤ m + 2 + k → Rz k σ (rP (m + 2) (fn k) [.lexer] σ)) (ZJ I1 hg hl) (ZK I1 hg hl)
  (nB ni rfl rfl (by trivial) (by lia) rfl I1 hg hl) (nB nj rfl rfl (by trivial) (by lia) rfl I1 hg hl)
  (nB np rfl rfl (by trivial) (by lia) rfl I1 hg hl) (fun hn => ZO I I1 hg hl (by lia)) k, fun _ hn => ZL I I1 hg hl hn⟩
theorem ZR (n : Nat) : Tt n ∧ Tt (n + 1) := by
 induction n with
 | zero => exact ⟨iC (Nat.zero_le _), iC (Nat.le_refl _)⟩
 | succ n ih => exact ⟨ih.2, ZQ ih.1 ih.2⟩
theorem ZS (n : Nat) : Tt n := (ZR n).1
theorem ZT (hw : ∀ t ∈ w, s7 t) (hn : 8 * w.length + 16 ≤ n) (hl : w.length ≤ 800) : tu n w = .err ∨ ∃ t, D 0 w t ∧ tu n w = .ok (.dat t) [] := by
 refine zd ((⟨n - 1, by lia⟩) : ∃ m, n = m + 1) fun m W0 => ?_
 obtain rfl := W0
 obtain hle : (w ++ [xG]).length = w.length + 1 := by simp
 refine (io ..).symm ▸ ?_
 refine wf ((ZS m).expr (iz hw) (by lia) (by lia)) (fun e => ?_) fun w' t τ e1 h1 h2 e => ?_
 ·refine (e ..).symm ▸ ?_; exact .inl rfl
 ·refine (e ..).symm ▸ ?_
  refine zM (h1.out) fun r rest W1 => ?_
  obtain rfl := W1
  by_cases hr : r.1 = ym
  ·right
   have hrest : rest = [] := by
    cases h1 with
    | nil => rfl
    | cons h _ => exact absurd hr h.1
   subst hrest
   obtain e2 := append_inj' e1 rfl
   obtain ⟨rfl, e3⟩ := e2
   (injection e3 with e3; subst e3)
   refine zg t h2 ?_
   show ex (m + 1) ym ((ym, .str tm) :: []) (fun _ σ => .ok (.dat t) σ) = _
   exact xR.symm ▸ rfl
  ·left
   show ex (m + 1) ym (r :: rest) (fun _ σ => .ok (.dat t) σ) = _
   unfold ex
   rw [qy]
   obtain e4 : zu r.1 [ym] = false := by
    dsimp only [zu]
    cases q : r.1 == ym with
    | true => exact absurd (eq_of_beq q) hr
    | false => rfl
   rw [e4]
   rfl
end Mine
end
section
open PySem PySem.W PyProof.Rows
set_option maxRecDepth 20000
namespace Mine
variable {s t : Tk} {a r w : List Tk} {a' d o wk wk' : Int} {i k : Nat} {kd : Str}
noncomputable def z9 (s : Str) : Bool := zu s ["LPAREN", "LBRACK"]
noncomputable def ye (s : Str) : Bool := zu s ["RPAREN", "RBRACK"]
noncomputable def dp : Int → List Tk → Int
 | d, [] => d
 | d, t :: r => cond (z9 t.1) (dp (d + 1) r) (cond (ye t.1) (dp (d - 1) r) (dp d r))
noncomputable def tp : Int → List Tk → List Tk
 | _, [] => []
 | d, t :: r => cond (z9 t.1) (tp (d + 1) r) (cond (ye t.1) (tp (d - 1) r) (cond (decide (d = 0)) (t :: tp d r) (tp d r)))
theorem nE : ∀ (a b : List Tk) (d : Int), dp d (a ++ b) = dp (dp d a) b
 | [], _, _ => rfl
 | t :: a, b, d => by
  rw [cons_append, dp, dp]
  cases z9 t.1 <;> cases ye t.1 <;> skip <;> exact nE a b _
theorem wQ : ∀ (a b : List Tk) (d : Int), tp d (a ++ b) = tp d a ++ tp (dp d a) b
 | [], _, _ => rfl
 | t :: a, b, d => by
  rw [cons_append, tp, tp, dp]
  cases z9 t.1 <;> cases ye t.1 <;> simp only [cond_true, cond_false] <;> first
   | exact wQ a b _
   | (cases h : decide (d = 0) <;> first | exact wQ a b _ | (rw [wQ a b]; rfl))
structure Bal (w : List Tk) : Prop where
 dpe : ∀ d, dp d w = d
 tpe : ∀ d : Int, 1 ≤ d → tp d w = []
noncomputable def pl (s : Str) : Bool := !(z9 s) && !(ye s)
theorem qF {s : Str} (h : pl s = true) : z9 s = false ∧ ye s = false := by
 unfold pl at h
 simp only [Bool.and_eq_true, Bool.not_eq_true'] at h
 exact h
theorem Bal.nil : Bal [] := ⟨fun _ => rfl, fun _ _ => rfl⟩
theorem Bal.app {b : List Tk} (x : Bal a) (y : Bal b) : Bal (a ++ b) :=
 ⟨fun d => by exact (nE ..).symm ▸ (x.dpe ..).symm ▸ (y.dpe ..).symm ▸ rfl, fun d h => by refine (wQ ..).symm ▸ (x.dpe ..).symm ▸ (x.tpe d h ..).symm ▸ (y.tpe d h ..).symm ▸ ?_; rfl⟩
theorem qG (h : pl t.1 = true) : dp d (t :: r) = dp d r := by
 refine ze (qF h) fun h1 h2 => ?_
 rw [dp, h1, h2]; rfl
theorem nG (h : pl t.1 = true) : tp d (t :: r) = cond (decide (d = 0)) (t :: tp d r) (tp d r) := by
 refine ze (qF h) fun h1 h2 => ?_
 rw [tp, h1, h2]; rfl
theorem Bal.cons (h : pl t.1 = true) (x : Bal r) : Bal (t :: r) :=
 ⟨fun d => by exact (qG h ..).symm ▸ (x.dpe ..).symm ▸ rfl, fun d hd => by
  rw [nG h, decide_eq_false (by lia), x.tpe d hd]; rfl⟩
theorem x6 (h : pl t.1 = true) : tp 0 (t :: r) = t :: tp 0 r := by rw [nG h]; rfl
theorem Bal.grp {o c : Tk} (ho : z9 o.1 = true) (hc : ye c.1 = true) (hc' : z9 c.1 = false) (x : Bal w) : Bal (o :: (w ++ [c])) ∧ tp 0 (o :: (w ++ [c])) = [] := by
 obtain e : ∀ d, dp d (o :: (w ++ [c])) = d := fun d => by
  rw [dp, ho, cond_true, nE, x.dpe, dp, hc, hc']
  show d + 1 - 1 = d; lia
 have e2 : ∀ d : Int, 0 ≤ d → tp d (o :: (w ++ [c])) = [] := fun d hd => by
  rw [tp, ho, cond_true, wQ, x.dpe, x.tpe (d + 1) (by lia), tp, hc, hc']; rfl
 exact ⟨⟨e, fun d hd => e2 d (by lia)⟩, e2 0 (by lia)⟩
noncomputable def uH (k : Nat) (p : Tk) : Prop := (zC p.1 = 9 ∨ k ≤ zC p.1) ∧ p.1 ≠ "COMMA"
structure Sh (k : Nat) (w : List Tk) : Prop where
 bal : Bal w
 top : ∀ p ∈ tp 0 w, uH k p
theorem Sh.bin {b : List Tk} (x : Sh k a) (y : Sh k b) (h : pl s.1 = true) (hs : uH k s) : Sh k (a ++ s :: b) := by
 refine ⟨x.bal.app (y.bal.cons h), fun p hp => ?_⟩
 rw [wQ, x.bal.dpe, x6 h] at hp
 refine zh (mem_append.mp hp) (fun q => ?_) fun q => ?_
 ·exact x.top p q
 ·refine zh (mem_cons.mp q) (fun q => ?_) fun q => ?_
  ·rw [q]; exact hs
  ·exact y.top p q
theorem Sh.mono {j : Nat} (x : Sh k w) (h : j ≤ k) : Sh j w := ⟨x.bal, fun p hp => by
 refine ze (x.top p hp) fun q1 q2 => ?_
 exact ⟨q1.imp id (Nat.le_trans h), q2⟩⟩
theorem Sh.grp {k : Nat} {o c : Tk} {w : List Tk} (ho : z9 o.1 = true) (hc : ye c.1 = true) (hc' : z9 c.1 = false) (x : Bal w) : Sh k (o :: (w ++ [c])) := by
 refine ze (x.grp ho hc hc') fun h1 h2 => ?_
 exact ⟨h1, fun p hp => by replace hp := (h2 ..) ▸ hp; cases hp⟩
theorem Sh.cons {k : Nat} {t : Tk} {w : List Tk} (h : pl t.1 = true) (ht : uH k t) (x : Sh k w) : Sh k (t :: w) := by
 refine ⟨x.bal.cons h, fun p hp => ?_⟩
 rw [x6 h] at hp
 refine zh (mem_cons.mp hp) (fun q => ?_) fun q => ?_
 ·rw [q]; exact ht
 ·exact x.top p q
theorem SL.bal {sp : Str} (h1 : pl kd = true) (h2 : pl sp = true) {xs : List PyData} (h : SL kd sp w xs) : Bal w ∧ ∀ p ∈ tp 0 w, p.1 = kd ∨ p.1 = sp := by
 induction h with
 | one x =>
  refine ⟨Bal.nil.cons h1, fun p hp => ?_⟩
  rw [x6 h1] at hp
  exact .inl (by rw [mem_singleton.mp hp])
 | cons x v _ ih =>
  refine ⟨(ih.1.cons h2).cons h1, fun p hp => ?_⟩
  rw [x6 h1, x6 h2] at hp
  refine zh (mem_cons.mp hp) (fun q => ?_) fun q => ?_
  ·exact .inl (by rw [q])
  ·refine zh (mem_cons.mp q) (fun q => ?_) fun q => ?_
   ·exact .inr (by rw [q])
   ·exact ih.2 p q
theorem vX {P : Prop} (h : true = false) : P := nomatch h
theorem ZU {s : Str} (h2 : zC s = 9) (h3 : (s == ("COMMA" : Str)) = false) (k : Nat) (v : PyData) : uH k (s, v) := ⟨.inl h2, fun q => by obtain h3 := (show s = "COMMA" from q ..) ▸ h3; exact vX h3⟩
theorem nH (h : (∃ nm, (kd, nm) ∈ zT) ∨ ∃ nm c, (kd, nm, c) ∈ z8) : pl kd = true ∧ ∀ k v, uH k (kd, v) := by
 obtain f := na (fun k => pl k && (decide (zC k = 9) && !(k == "COMMA"))) rfl rfl h
 rw [Bool.and_eq_true, Bool.and_eq_true] at f
 exact ⟨f.1, ZU (of_decide_eq_true f.2.1) (nt f.2.2)⟩
theorem vt {nm : Str} (h : (kd, k, nm) ∈ xe) : pl kd = true ∧ zC kd = k ∧ 1 ≤ k ∧ k ≤ 4 ∧ ∀ j v, j ≤ k → uH j (kd, v) := by
 obtain f := o9 (fun s k => pl s && (decide (zC s = k) && (!(s == "COMMA") && (Nat.ble 1 k && Nat.ble k 4)))) rfl h
 rw [Bool.and_eq_true, Bool.and_eq_true, Bool.and_eq_true, Bool.and_eq_true] at f
 obtain e := of_decide_eq_true f.2.1
 exact ⟨f.1, e, Nat.le_of_ble_eq_true f.2.2.2.1, Nat.le_of_ble_eq_true f.2.2.2.2, fun j v hj => ⟨.inr (by refine (e ..).symm ▸ ?_; exact hj), fun q => by obtain f := (show kd = "COMMA" from q ..) ▸ f; exact vX (nt f.2.2.1)⟩⟩
theorem uI {s : Str} (h1 : pl s = true) (h2 : zC s = 9) (h3 : (s == ("COMMA" : Str)) = false) (k : Nat) (v : PyData) : uH k (s, v) := ⟨.inl h2, fun q => by
 obtain q : s = "COMMA" := q
 rw [q] at h3; injection h3⟩
theorem D.sh {t : PyData} (h : D k w t) : Bal w ∧ (k ≤ 5 → Sh k w) := by
 induction h with
 | up hk _ ih => exact ⟨ih.1, fun _ => (ih.2 (by lia)).mono (by lia)⟩
 | ite q v _ _ _ i1 i2 i3 =>
  have s : Sh 0 _ := ((i1.2 (by lia)).mono (Nat.zero_le _)).bin (s := T "OP_question" q) ((i2.2 (by lia)).bin (s := T "OP_colon" v) (i3.2 (by lia)) rfl (uI rfl rfl rfl 0 v)) rfl ⟨.inr (Nat.zero_le _), by intro e; cases e⟩
  exact ⟨s.bal, fun _ => s⟩
 | bin v hm _ _ i1 i2 =>
  refine lC (vt hm) fun h1 h2 h3 h4 h5 => ?_
  have s := ((i1.2 (by lia)).mono (Nat.le_succ _)).bin (s := T _ v) (i2.2 (by lia)) h1 (h5 _ v (Nat.le_refl _))
  exact ⟨s.bal, fun _ => s⟩
 | not v _ ih =>
  have s := (ih.2 (by lia)).cons (t := T "OP_not" v) rfl (uI rfl rfl rfl 5 v)
  exact ⟨s.bal, fun _ => s⟩
 | paren v v' _ ih =>
  have s : Sh 5 _ := Sh.grp (o := T "LPAREN" v) (c := T "RPAREN" v') rfl rfl rfl ih.1
  exact ⟨s.bal, fun _ => s⟩
 | word0 v v1 v2 hm =>
  obtain ⟨h1, h2⟩ := nH (.inl ⟨_, hm⟩)
  have s : Sh 5 _ := (Sh.grp (k := 5) (o := T "LPAREN" v1) (c := T "RPAREN" v2) rfl rfl rfl Bal.nil).cons (t := T _ v) h1 (h2 5 v)
  exact ⟨s.bal, fun _ => s⟩
 | word v v1 v2 hm _ ih =>
  refine ze (nH (.inl ⟨_, hm⟩)) fun h1 h2 => ?_
  have s : Sh 5 _ := (Sh.grp (k := 5) (o := T "LPAREN" v1) (c := T "RPAREN" v2) rfl rfl rfl ih.1).cons (t := T _ v) h1 (h2 5 v)
  exact ⟨s.bal, fun _ => s⟩
 | cnt v v1 v2 hm _ _ ih =>
  obtain ⟨h1, h2⟩ := nH (.inr ⟨_, _, hm⟩)
  have s : Sh 5 _ := (Sh.grp (k := 5) (o := T "LPAREN" v1) (c := T "RPAREN" v2) rfl rfl rfl ih.1).cons (t := T _ v) h1 (h2 5 v)
  exact ⟨s.bal, fun _ => s⟩
 | var h =>
  refine ze (h.bal (by kernel_rfl) (by kernel_rfl)) fun h1 h2 => ?_
  refine ⟨h1, fun _ => ⟨h1, fun p hp => ?_⟩⟩
  obtain ⟨s, u⟩ := p
  rcases h2 _ hp with q | q
  ·have q : s = "NameToken" := q
   rw [q]; exact uI (by kernel_rfl) (by kernel_rfl) (by kernel_rfl) 5 u
  ·have q : s = "DOT" := q
   rw [q]; exact uI (by kernel_rfl) (by kernel_rfl) (by kernel_rfl) 5 u
 | varI v v' h h' =>
  refine ze (h.bal (by kernel_rfl) (by kernel_rfl)) fun h1 h2 => ?_
  obtain ⟨h3, h4⟩ := h'.bal rfl rfl
  refine ze (h3.grp (o := T "LBRACK" v) (c := T "RBRACK" v') rfl rfl rfl) fun g1 g2 => ?_
  refine ⟨h1.app g1, fun _ => ⟨h1.app g1, fun p hp => ?_⟩⟩
  rw [wQ, h1.dpe, g2, append_nil] at hp
  obtain ⟨s, u⟩ := p
  rcases h2 _ hp with q | q
  ·have q : s = "NameToken" := q
   rw [q]; exact uI (by kernel_rfl) (by kernel_rfl) (by kernel_rfl) 5 u
  ·have q : s = "DOT" := q
   rw [q]; exact uI (by kernel_rfl) (by kernel_rfl) (by kernel_rfl) 5 u
 | @const i _ =>
  have s : Sh 5 [T "IntegerToken" (.int i)] := ⟨Bal.nil.cons rfl, fun p hp => by
   rw [x6 rfl] at hp
   rw [mem_singleton.mp hp]
   exact uI rfl rfl rfl 5 _⟩
  exact ⟨s.bal, fun _ => s⟩
 | arg1 _ ih => exact ⟨ih.1, fun e => by (first | lia | omega)⟩
 | argS v _ _ i1 i2 => exact ⟨i1.1.app (i2.1.cons (t := T "COMMA" v) rfl), fun e => by (first | lia | omega)⟩
noncomputable def sc : Nat → Int → Int → Int → List Tk → Int × Int
 | _, _, wk, a, [] => (wk, a)
 | i, d, wk, a, t :: r => cond (z9 t.1) (sc (i + 1) (d + 1) wk a r) (cond (ye t.1) (sc (i + 1) (d - 1) wk a r)
   (cond (decide (d = 0)) (cond (decide (((zC t.1 : Nat) : Int) < wk)) (sc (i + 1) d (zC t.1 : Nat) i r) (sc (i + 1) d wk a r)) (sc (i + 1) d wk a r)))
theorem ZV {a : Int} : sc i d wk a (t :: r) = cond (z9 t.1) (sc (i + 1) (d + 1) wk a r) (cond (ye t.1) (sc (i + 1) (d - 1) wk a r)
   (cond (decide (d = 0)) (cond (decide (((zC t.1 : Nat) : Int) < wk)) (sc (i + 1) d (zC t.1 : Nat) i r) (sc (i + 1) d wk a r)) (sc (i + 1) d wk a r))) := rfl
structure ScAt (i : Nat) (d wk : Int) (w : List Tk) (wk' a' : Int) (x : List Tk) (s : Tk) (y : List Tk) : Prop where
 e : w = x ++ s :: y
 at_ : a' = ((i + x.length : Nat) : Int)
 sg : ((zC s.1 : Nat) : Int) = wk'
 lt : wk' < wk
 dz : dp d x = 0
 up : ∀ p ∈ tp d x, wk' < ((zC p.1 : Nat) : Int)
 pl_ : pl s.1 = true
structure Sc (i : Nat) (d wk a : Int) (w : List Tk) (wk' a' : Int) : Prop where
 le : wk' ≤ wk
 top : ∀ p ∈ tp d w, wk' ≤ ((zC p.1 : Nat) : Int)
 or_ : (wk' = wk ∧ a' = a) ∨ ∃ x s y, ScAt i d wk w wk' a' x s y
theorem ScAt.cons {d' wk2 : Int} {x y : List Tk} (h : ScAt (i + 1) d' wk2 r wk' a' x s y) (hd : dp d (t :: x) = dp d' x) (hu : ∀ p ∈ tp d (t :: x), wk' < ((zC p.1 : Nat) : Int)) (hl : wk' < wk) : ScAt i d wk (t :: r) wk' a' (t :: x) s y :=
 ⟨congrArg (t :: ·) h.e, h.at_.trans (congrArg Nat.cast (by rw [length_cons, Nat.add_assoc, Nat.add_comm 1])), h.sg, hl, hd.trans h.dz, hu, h.pl_⟩
theorem Sc.skip {d' a : Int} (hd : ∀ x, dp d (t :: x) = dp d' x) (ht : ∀ x, tp d (t :: x) = tp d' x) (h : Sc (i + 1) d' wk a r wk' a') : Sc i d wk a (t :: r) wk' a' :=
 ⟨h.le, by rw [ht]; exact h.top, h.or_.imp_right fun ⟨x, s, y, q⟩ => (vB (t :: x) s y (q.cons (hd x) (by rw [ht]; exact q.up) q.lt))⟩
theorem Sc.new {a : Int} (hp : pl t.1 = true) (hs : ((zC t.1 : Nat) : Int) < wk) (h : Sc (i + 1) 0 (zC t.1 : Nat) i r wk' a') : Sc i 0 wk a (t :: r) wk' a' := by
 refine ⟨Int.le_trans h.le (Int.le_of_lt hs), ?_, .inr (h.or_.elim (fun q => ?_) fun ⟨x, s, y, q⟩ => ?_)⟩
 ·rw [x6 hp]; exact forall_mem_cons.mpr ⟨h.le, h.top⟩
 ·exact ⟨[], t, r, rfl, q.2, q.1.symm, q.1 ▸ hs, rfl, fun p hp => absurd hp not_mem_nil, hp⟩
 ·exact vB (t :: x) s y (q.cons (qG hp) (by rw [x6 hp]; exact forall_mem_cons.mpr ⟨q.lt, q.up⟩) (Int.lt_trans q.lt hs))
theorem Sc.old {a : Int} (hp : pl t.1 = true) (hs : ¬ ((zC t.1 : Nat) : Int) < wk) (h : Sc (i + 1) 0 wk a r wk' a') : Sc i 0 wk a (t :: r) wk' a' := by
 have hs := Int.not_lt.mp hs
 refine ⟨h.le, ?_, h.or_.imp_right fun ⟨x, s, y, q⟩ => ?_⟩
 ·rw [x6 hp]; exact forall_mem_cons.mpr ⟨Int.le_trans h.le hs, h.top⟩
 ·exact vB (t :: x) s y (q.cons (qG hp) (by rw [x6 hp]; exact forall_mem_cons.mpr ⟨Int.lt_of_lt_of_le q.lt hs, q.up⟩) q.lt)
theorem Sc.of (w : List Tk) : ∀ (i : Nat) (d wk a wk' a' : Int), sc i d wk a w = (wk', a') → Sc i d wk a w wk' a' := by
 induction w with
 | nil =>
  intro i d wk a wk' a' h
  have h := Prod.mk.inj h
  rw [h.1, h.2]
  exact ⟨Int.le_refl _, fun p hp => absurd hp not_mem_nil, .inl ⟨rfl, rfl⟩⟩
 | cons t r ih =>
  intro i d wk a wk' a' h
  rw [ZV] at h
  cases ho : z9 t.1 with
  | true => rw [ho] at h; exact .skip (fun x => by rw [dp, ho]; rfl) (fun x => by rw [tp, ho]; rfl) (ih _ _ _ _ _ _ h)
  | false =>
   rw [ho, cond_false] at h
   cases hc : ye t.1 with
   | true => rw [hc] at h; exact .skip (fun x => by rw [dp, ho, hc]; rfl) (fun x => by rw [tp, ho, hc]; rfl) (ih _ _ _ _ _ _ h)
   | false =>
    rw [hc, cond_false] at h
    have hp : pl t.1 = true := by unfold pl; rw [ho, hc]; rfl
    by_cases hd : d = 0
    ·rw [hd] at h ⊢
     rw [decide_eq_true rfl, cond_true] at h
     by_cases hs : ((zC t.1 : Nat) : Int) < wk
     ·rw [decide_eq_true hs, cond_true] at h; exact .new hp hs (ih _ _ _ _ _ _ h)
     ·rw [decide_eq_false hs, cond_false] at h; exact .old hp hs (ih _ _ _ _ _ _ h)
    ·rw [decide_eq_false hd] at h; exact .skip (fun x => qG hp) (fun x => by rw [nG hp, decide_eq_false hd]; rfl) (ih _ _ _ _ _ _ h)
theorem ZW (w : List Tk) (i : Nat) (d wk a wk' a' : Int) (h : sc i d wk a w = (wk', a')) : wk' ≤ wk ∧ (∀ p ∈ tp d w, wk' ≤ ((zC p.1 : Nat) : Int)) ∧
  ((wk' = wk ∧ a' = a) ∨ ∃ x s y, w = x ++ s :: y ∧ a' = ((i + x.length : Nat) : Int) ∧ ((zC s.1 : Nat) : Int) = wk' ∧ wk' < wk ∧ dp d x = 0 ∧ (∀ p ∈ tp d x, wk' < ((zC p.1 : Nat) : Int)) ∧ pl s.1 = true) :=
 have h := Sc.of w i d wk a wk' a' h
 ⟨h.le, h.top, h.or_.imp_right fun ⟨x, s, y, q⟩ => ⟨x, s, y, q.e, q.at_, q.sg, q.lt, q.dz, q.up, q.pl_⟩⟩
theorem c9 {c : Bool} {a b : Nat} (ha : a ≤ 9) (hb : b ≤ 9) : cond c a b ≤ 9 := by
 cases c with
 | true => exact ha
 | false => exact hb
theorem TB (s : Str) : zC s ≤ 9 := c9 (by decide) (c9 (by decide) (c9 (by decide) (c9 (by decide) (c9 (by decide) (c9 (by decide) (by decide))))))
theorem nI {b : List Tk} (h : dp 0 a = 0) (hp : pl s.1 = true) : s ∈ tp 0 (a ++ s :: b) := by
 rw [wQ, h, x6 hp]
 exact mem_append_right _ (mem_cons_self ..)
theorem D.lift0 {k' : Nat} {w' : List Tk} {t' : PyData} (h : D k' w' t') (e : k' = k) (hk : k < 5) (hw : ∀ p ∈ tp 0 w', zC p.1 ≠ k) : D (k + 1) w' t' := by
 cases h with
 | up _ h => rw [← e]; exact h
 | ite q v h1 _ _ => exact absurd (show zC "OP_question" = 0 by kernel_rfl) (e ▸ hw _ (nI (h1.sh.1.dpe 0) rfl))
 | bin v hm h1 _ => exact absurd (vt hm).2.1 (e ▸ hw _ (nI (h1.sh.1.dpe 0) (vt hm).1))
 | _ => exact absurd hk (by rw [← e]; decide)
theorem D.lift1 {t : PyData} (h : D k w t) (hk : k < 5) (hw : ∀ p ∈ tp 0 w, zC p.1 ≠ k) : D (k + 1) w t := h.lift0 rfl hk hw
theorem D.lift {w : List Tk} {t : PyData} : ∀ (j k : Nat), D k w t → k + j ≤ 5 → (∀ p ∈ tp 0 w, k + j ≤ zC p.1) → D (k + j) w t
 | 0, _, h, _, _ => h
 | j + 1, k, h, hk, hw => by
  obtain h1 := h.lift1 (by lia) (fun p hp e => by obtain this := hw p hp; lia)
  obtain h2 := D.lift j (k + 1) h1 (by lia) (fun p hp => by obtain this := hw p hp; lia)
  rw [show k + (j + 1) = k + 1 + j by lia]
  exact h2
theorem D.down {w : List Tk} {t : PyData} : ∀ (j k : Nat), D (k + j) w t → k + j ≤ 5 → D k w t
 | 0, _, h, _ => h
 | j + 1, k, h, hk => .up (by lia) (D.down j (k + 1) (by rw [show k + 1 + j = k + (j + 1) by lia]; exact h) (by lia))
theorem iD {b a2 b2 : List Tk} {s2 : Tk} (e : a ++ s :: b = a2 ++ s2 :: b2) (h1 : dp 0 a = 0) (h2 : dp 0 a2 = 0) (p1 : pl s.1 = true) (p2 : pl s2.1 = true) (e1 : zC s.1 = k) (e2 : zC s2.1 = k)
  (t1 : ∀ p ∈ tp 0 a, k < zC p.1) (t2 : ∀ p ∈ tp 0 a2, k < zC p.1) : a = a2 ∧ s = s2 ∧ b = b2 := by
 obtain mem : ∀ {x y : List Tk} {u : Tk}, dp 0 x = 0 → pl u.1 = true → u ∈ tp 0 (x ++ u :: y) := fun {x y u} hx hu => by
  rw [wQ, hx, x6 hu]
  exact mem_append_right _ (mem_cons_self ..)
 refine lz (List.append_eq_append_iff.mp e) (fun c e3 e4 => ?_) fun c e3 e4 => ?_
 ·cases c with
  | nil => simp at e3 e4; exact ⟨e3.symm, e4.1, e4.2⟩
  | cons x c =>
   simp only [cons_append, List.cons.injEq] at e4
   obtain ⟨rfl, rfl⟩ := e4
   subst e3
   obtain this := t2 s (mem h1 p1)
   lia
 ·cases c with
  | nil => simp at e3 e4; exact ⟨e3, e4.1.symm, e4.2.symm⟩
  | cons x c =>
   simp only [cons_append, List.cons.injEq] at e4
   obtain ⟨rfl, rfl⟩ := e4
   subst e3
   obtain this := t1 s2 (mem h2 p2)
   lia
theorem nJ {t : PyData} (h : D (k + 1) w t) (hk : k ≤ 4) : ∀ p ∈ tp 0 w, k < zC p.1 := fun p hp => (((h.sh.2 (Nat.succ_le_succ hk)).top p hp).1).elim (fun q => by rw [q]; exact Nat.lt_of_le_of_lt hk (by decide)) fun q => q
theorem D.cut0 {k' : Nat} {w' : List Tk} {t' : PyData} (h : D k' w' t') {b : List Tk} (e : k = k') (hw : a ++ s :: b = w') (hk : k ≤ 4) (h1 : dp 0 a = 0) (p1 : pl s.1 = true) (e1 : zC s.1 = k) (t1 : ∀ p ∈ tp 0 a, k < zC p.1) {R : Prop}
  (c1 : ∀ nm p q, (s.1, k, nm) ∈ xe → D (k + 1) a p → D k b q → t' = zS nm p q → R) (c2 : k = 0 → ∀ y v z s' d1 d0, s.1 = "OP_question" → b = y ++ T "OP_colon" v :: z → D 1 a s' → D 0 y d1 → D 0 z d0 → t' = .tuple [.str "ite", s', d1, d0] → R) : R := by
 cases h with
 | up _ h => exact absurd (nJ (e ▸ h) hk s (hw ▸ nI h1 p1)) (by rw [e1]; exact Nat.lt_irrefl _)
 | ite q v h2 h3 h4 =>
  have f := iD (k := 0) hw h1 (h2.sh.1.dpe 0) p1 rfl (e1.trans e) rfl (e ▸ t1) (nJ h2 (by decide))
  exact c2 e _ v _ _ _ _ (by rw [f.2.1]) f.2.2 (f.1 ▸ h2) h3 h4 rfl
 | bin v hm h2 h3 =>
  have g := vt hm
  have f := iD (k := k) hw h1 (h2.sh.1.dpe 0) p1 g.1 e1 (g.2.1.trans e.symm) t1 (nJ (e.symm ▸ h2) hk)
  exact c1 _ _ _ (by rw [f.2.1, e]; exact hm) (f.1 ▸ e ▸ h2) (f.2.2 ▸ e ▸ h3) rfl
 | _ => exact absurd hk (by rw [e]; decide)
theorem D.cutBin {b : List Tk} {t : PyData} (h : D k (a ++ s :: b) t) (hk : k ≤ 4) (h1 : dp 0 a = 0) (p1 : pl s.1 = true) (e1 : zC s.1 = k) (t1 : ∀ p ∈ tp 0 a, k < zC p.1) :
  (∃ nm p q, (s.1, k, nm) ∈ xe ∧ D (k + 1) a p ∧ D k b q ∧ t = zS nm p q) ∨ (k = 0 ∧ ∃ y v z s' d1 d0, s.1 = "OP_question" ∧ b = y ++ T "OP_colon" v :: z ∧ D 1 a s' ∧ D 0 y d1 ∧ D 0 z d0 ∧ t = .tuple [.str "ite", s', d1, d0]) :=
 h.cut0 rfl rfl hk h1 p1 e1 t1 (fun nm p q h1 h2 h3 h4 => .inl ⟨nm, p, q, h1, h2, h3, h4⟩) fun e y v z s' d1 d0 g1 g2 g3 g4 g5 g6 => .inr ⟨e, y, v, z, s', d1, d0, g1, g2, g3, g4, g5, g6⟩
noncomputable def cs : Nat → Int → Int → List Tk → Option Nat
 | _, _, _, [] => none
 | i, d, o, t :: r => cond (z9 t.1) (cs (i + 1) (d + 1) o r) (cond (ye t.1) (cs (i + 1) (d - 1) o r)
   (cond (decide (d = 0)) (cond (t.1 == "OP_question") (cs (i + 1) d (o + 1) r) (cond (t.1 == "OP_colon") (cond (decide (o = 0)) (some i) (cs (i + 1) d (o - 1) r)) (cs (i + 1) d o r))) (cs (i + 1) d o r)))
theorem iE : ∀ (w : List Tk) (i : Nat) (d o : Int) (j : Nat), cs i d o w = some j → ∃ y v z, w = y ++ T "OP_colon" v :: z ∧ j = i + y.length
 | [], _, _, _, _, h => by exact nn h
 | t :: r, i, d, o, j, h => by
  have go : ∀ {d' o' : Int}, cs (i + 1) d' o' r = some j → ∃ y v z, t :: r = y ++ T "OP_colon" v :: z ∧ j = i + y.length := fun h => by
   refine y5 (iE r _ _ _ _ h) fun y v z W0 e => ?_
   refine (W0) ▸ ?_
   exact w7 (t :: y) v z rfl (by rw [e, length_cons]; lia)
  dsimp only [cs] at h
  cases ho : z9 t.1 with
  | true => obtain h := (ho ..) ▸ h; exact go h
  | false =>
  cases hc : ye t.1 with
  | true => obtain h := (hc ..) ▸ (ho ..) ▸ h; exact go h
  | false =>
  replace h := (hc ..) ▸ (ho ..) ▸ h
  cases hd : decide (d = 0) with
  | false => obtain h := (hd ..) ▸ h; exact go h
  | true =>
  rw [hd] at h
  cases hq : t.1 == ("OP_question" : Str) with
  | true => obtain h := (hq ..) ▸ h; exact go h
  | false =>
  replace h := (hq ..) ▸ h
  cases hl : t.1 == ("OP_colon" : Str) with
  | false => obtain h := (hl ..) ▸ h; exact go h
  | true =>
  rw [hl] at h
  cases hz : decide (o = 0) with
  | false => obtain h := (hz ..) ▸ h; exact go h
  | true =>
  replace h := (hz ..) ▸ h
  refine Option.some.inj h ▸ ?_
  exact w7 ([]) (t.2) r (by rw [xS hl]; rfl) rfl
theorem s9 : cs i d o (t :: r) = cond (z9 t.1) (cs (i + 1) (d + 1) o r) (cond (ye t.1) (cs (i + 1) (d - 1) o r)
   (cond (decide (d = 0)) (cond (t.1 == "OP_question") (cs (i + 1) d (o + 1) r) (cond (t.1 == "OP_colon") (cond (decide (o = 0)) (some i) (cs (i + 1) d (o - 1) r)) (cs (i + 1) d o r))) (cs (i + 1) d o r))) := rfl
noncomputable def vY (s : Str) : Bool := pl s && !(s == "OP_question") && !(s == "OP_colon")
theorem wR (h : vY t.1 = true) : cs i d o (t :: r) = cs (i + 1) d o r := by
 unfold vY at h
 simp only [Bool.and_eq_true, Bool.not_eq_true'] at h
 refine ze (qF h.1.1) fun h1 h2 => ?_
 refine (s9 ..).symm ▸ (h1 ..).symm ▸ (h2 ..).symm ▸ (h.1.2 ..).symm ▸ (h.2 ..).symm ▸ ?_
 cases decide (d = 0) <;> rfl
theorem SL.cs {kd sp : Str} (h1 : vY kd = true) (h2 : vY sp = true) {w : List Tk} {xs : List PyData} (h : SL kd sp w xs) : ∀ (i : Nat) (d o : Int) (r : List Tk), Mine.cs i d o (w ++ r) = Mine.cs (i + w.length) d o r := by
 induction h with
 | one x => intro i d o r; exact wR h1
 | cons x v _ ih =>
  intro i d o r
  simp only [cons_append]
  rw [wR h1, wR h2, ih]
  simp only [length_cons]
  congr 1; lia
theorem nK (h : (∃ nm, (kd, nm) ∈ zT) ∨ ∃ nm c, (kd, nm, c) ∈ z8) : vY kd = true := na vY rfl rfl h
theorem ZX (h : z9 t.1 = true) : cs i d o (t :: r) = cs (i + 1) (d + 1) o r := by rw [s9, h]; rfl
theorem ZY (h : z9 t.1 = false) (h' : ye t.1 = true) : cs i d o (t :: r) = cs (i + 1) (d - 1) o r := by refine (s9 ..).symm ▸ (h ..).symm ▸ (h' ..).symm ▸ ?_; rfl
theorem D.cs {k : Nat} {w : List Tk} {t : PyData} (h : D k w t) : ∀ (i : Nat) (d o : Int) (r : List Tk), 0 ≤ d → 0 ≤ o → Mine.cs i d o (w ++ r) = Mine.cs (i + w.length) d o r := by
 obtain grp : ∀ {x y : Tk} {w : List Tk}, z9 x.1 = true → z9 y.1 = false → ye y.1 = true → (∀ (i : Nat) (d o : Int) (r : List Tk), 0 ≤ d → 0 ≤ o → Mine.cs i d o (w ++ r) = Mine.cs (i + w.length) d o r) →
   ∀ (i : Nat) (d o : Int) (r : List Tk), 0 ≤ d → 0 ≤ o → Mine.cs i d o (x :: (w ++ y :: r)) = Mine.cs (i + w.length + 2) d o r := fun {x y w} h1 h2 h3 ih i d o r hd ho => by
  rw [ZX h1, ih _ _ _ _ (by lia) ho, ZY h2 h3, show d + 1 - 1 = d by lia]
  congr 1; lia
 induction h with
 | up _ _ ih => exact ih
 | ite q v _ _ _ i1 i2 i3 =>
  intro i d o r hd ho
  simp only [append_assoc, cons_append]
  rw [i1 _ _ _ _ hd ho]
  by_cases hz : d = 0
  ·subst hz
   obtain e1 : ∀ (i : Nat) (o : Int) (r : List Tk), Mine.cs i 0 o (T "OP_question" q :: r) = Mine.cs (i + 1) 0 (o + 1) r := fun i o r => by kernel_rfl
   obtain e2 : ∀ (i : Nat) (o : Int) (r : List Tk), o ≠ 0 → Mine.cs i 0 o (T "OP_colon" v :: r) = Mine.cs (i + 1) 0 (o - 1) r := fun i o r h => by
    obtain e3 : Mine.cs i 0 o (T "OP_colon" v :: r) = cond (decide (o = 0)) (some i) (Mine.cs (i + 1) 0 (o - 1) r) := by kernel_rfl
    rw [e3, decide_eq_false h]; rfl
   rw [e1, i2 _ _ _ _ hd (by lia), e2 _ _ _ (by lia), i3 _ _ _ _ hd (by lia), show o + 1 - 1 = o by lia]
   simp only [length_append, length_cons]
   congr 1; lia
  ·have e1 : ∀ (i : Nat) (o : Int) (t : Tk) (r : List Tk), pl t.1 = true → Mine.cs i d o (t :: r) = Mine.cs (i + 1) d o r := fun i o t r h => by
    refine ze (qF h) fun h1 h2 => ?_
    rw [s9, h1, h2, decide_eq_false hz]; rfl
   rw [e1 _ _ _ _ rfl, i2 _ _ _ _ hd ho, e1 _ _ _ _ rfl, i3 _ _ _ _ hd ho]
   simp only [length_append, length_cons]
   congr 1; lia
 | @bin kd nm k v a b p q hm _ _ i1 i2 =>
  intro i d o r hd ho
  simp only [append_assoc, cons_append]
  obtain hc : vY (T kd v).1 = true := o9 (fun s _ => vY s) rfl hm
  rw [i1 _ _ _ _ hd ho, wR hc, i2 _ _ _ _ hd ho]
  simp only [length_append, length_cons]
  congr 1; lia
 | not v _ ih =>
  intro i d o r hd ho
  simp only [cons_append]
  rw [wR rfl, ih _ _ _ _ hd ho]
  simp only [length_cons]
  congr 1; lia
 | paren v v' _ ih =>
  intro i d o r hd ho
  simp only [append_assoc, cons_append, nil_append]
  rw [grp rfl rfl rfl ih _ _ _ _ hd ho]
  simp only [length_append, length_cons, length_nil]
  congr 1
 | word0 v v1 v2 hm =>
  intro i d o r hd ho
  simp only [append_assoc, cons_append, nil_append]
  rw [wR (nK (.inl ⟨_, hm⟩))]
  exact grp (w := []) (x := T "LPAREN" v1) (y := T "RPAREN" v2) rfl rfl rfl (fun i d o r _ _ => rfl) (i + 1) d o r hd ho
 | word v v1 v2 hm _ ih =>
  intro i d o r hd ho
  simp only [append_assoc, cons_append, nil_append]
  rw [wR (nK (.inl ⟨_, hm⟩)), grp rfl rfl rfl ih _ _ _ _ hd ho]
  simp only [length_append, length_cons, length_nil]
  congr 1; lia
 | cnt v v1 v2 hm _ _ ih =>
  intro i d o r hd ho
  simp only [append_assoc, cons_append, nil_append]
  rw [wR (nK (.inr ⟨_, _, hm⟩)), grp rfl rfl rfl ih _ _ _ _ hd ho]
  simp only [length_append, length_cons, length_nil]
  congr 1; lia
 | var h => intro i d o r _ _; exact h.cs (by kernel_rfl) (by kernel_rfl) i d o r
 | varI v v' h h' =>
  intro i d o r hd ho
  simp only [append_assoc, cons_append, nil_append]
  rw [h.cs (by kernel_rfl) (by kernel_rfl), grp rfl rfl rfl (fun i d o r _ _ => h'.cs rfl rfl i d o r) _ _ _ _ hd ho]
  simp only [length_append, length_cons, length_nil]
  congr 1; lia
 | const => intro i d o r _ _; exact wR rfl
 | arg1 _ ih => exact ih
 | argS v _ _ i1 i2 =>
  intro i d o r hd ho
  simp only [append_assoc, cons_append]
  rw [i1 _ _ _ _ hd ho, wR rfl, i2 _ _ _ _ hd ho]
  simp only [length_append, length_cons]
  congr 1; lia
end Mine
end
section
open PySem PySem.W PyProof.Rows PySem.Calls PySem.Spec
set_option maxRecDepth 100000
namespace Mine
variable {K : Frag} {h : Heap} {a fa : Addr} {x : Str} {cx : Cx} {v : Value}
noncomputable def ZZ : FuncData := fnOf "" "" { posonlyargs := [], args := [], vararg := none, kwonlyargs := [], kw_defaults := [], kwarg := none, defaults := [] } [] { kind := .function, names := [], isGenerator := false, isCoroutine := false } .none .none .none .none none .none .none
noncomputable def ty (K : Frag) (fa : Addr) : Bool := match K.lookup fa with
 | some ⟨_, _, .func _, _⟩ => true
 | _ => false
noncomputable def zF (K : Frag) (fa : Addr) : FuncData := match K.lookup fa with
 | some ⟨_, _, .func fd, _⟩ => fd
 | _ => ZZ
set_option tactic.hygienic true in
theorem iF (X : K.In h) (e : ty K fa = true) : ∃ o, h.get? fa = some o ∧ o.data = .func (zF K fa) := by
 unfold ty at e
 unfold zF
 split at e
 ·rename_i oc od fd sl q
  exact zg _ (X _ _ q) rfl
 ·exact ff e
theorem nN {x : Str} : ∀ (l : zm) (m : Nat) (acc : List (Str × Addr)), ((acc.lookup x).isSome = true ∨ zD x l = some .cell) → ((cellsFrom m l acc).lookup x).isSome = true
 | [], _, _, h => by
  rcases h with h | h
  ·exact h
  ·exact nn h
 | (y, k) :: r, m, acc, h => by
  dsimp only [cellsFrom]
  obtain up : ∀ n : Nat, (acc.lookup x).isSome = true → ((((y, n) :: acc).lookup x).isSome = true) := fun n h => by
   rw [lookup_cons]
   cases e : x == y with
   | true => rfl
   | false => exact h
  cases hk : k == NameKind.cell with
  | true =>
   rw [if_pos rfl]
   refine nN r _ _ ?_
   rcases h with h | h
   ·exact .inl (up _ h)
   ·unfold zD at h
    cases e : x == y with
    | true => left; rw [lookup_cons, e]; rfl
    | false => rw [e] at h; exact .inr h
  | false =>
   rw [if_neg (by decide)]
   refine nN r _ _ ?_
   rcases h with h | h
   ·exact .inl h
   ·unfold zD at h
    cases e : x == y with
    | true =>
     rw [e] at h
     injection h with h
     subst h
     exact ff hk.symm
    | false => rw [e] at h; exact .inr h
noncomputable def iG (sc : zm) (x : Str) : Bool := match zD x sc with | some .cell => true | _ => false
noncomputable def tA (sc : zm) : List Str → Bool
 | [] => true
 | p :: ps => (zN sc p || iG sc p) && tA sc ps
theorem iH {sc : zm} : ∀ {ps : List Str}, tA sc ps = true → ∀ p ∈ ps, zD p sc = some .local ∨ (zD p sc = some .cell ∧ ∀ m, ((cellsFrom m sc []).lookup p).isSome = true)
 | q :: ps, h, p, hp => by
  dsimp only [tA] at h
  rw [Bool.and_eq_true, Bool.or_eq_true] at h
  refine zh (mem_cons.mp hp) (fun W0 => ?_) fun hp => ?_
  ·obtain rfl := W0; rcases h.1 with e | e
   ·exact .inl (yl e)
   ·have e' : zD p sc = some .cell := by
     unfold iG at e
     split at e
     ·assumption
     ·exact ff e
    exact .inr ⟨e', fun m => nN sc m [] (.inr e')⟩
  ·exact iH h.2 p hp
noncomputable def uJ : List Str → Bool
 | [] => true
 | x :: r => !(zu x r) && uJ r
theorem iI {x : Str} : ∀ {l : List Str}, x ∈ l → zu x l = true
 | y :: l, h => by
  dsimp only [zu]
  rcases mem_cons.mp h with rfl | h
  ·rw [beq_self_eq_true]; rfl
  ·rw [iI h]; cases x == y <;> rfl
theorem nO {x : Str} : ∀ {l : List Str}, zu x l = true → x ∈ l
 | y :: l, h => by
  dsimp only [zu] at h
  cases e : x == y with
  | true => rw [eq_of_beq e]; exact mem_cons_self ..
  | false => rw [e] at h; exact mem_cons_of_mem _ (nO h)
theorem nP : ∀ {l : List Str}, uJ l = true → l.Nodup
 | [], _ => nodup_nil
 | x :: r, h => by
  dsimp only [uJ] at h
  rw [Bool.and_eq_true, Bool.not_eq_true'] at h
  exact nodup_cons.mpr ⟨fun q => (by replace h := (iI q ..) ▸ h; cases h.1), nP h.2⟩
noncomputable def iJ : ScopeKind → Bool
 | .function => true
 | _ => false
noncomputable def qH (fd : FuncData) : Bool := iJ fd.scope.kind && !fd.scope.isCoroutine && !fd.scope.isGenerator && Nat.beq fd.globals mainGlobals && Nat.beq fd.builtins builtinsNs && fd.closure.isEmpty
theorem iK {r : FnR} (X : K.In cx.base) (h : ty K fa = true) (hb : (zF K fa).body = .stmts r.body) (hs : (zF K fa).scope.names = r.sc) (ho : qH (zF K fa) = true) (hc : codeIn K (zF K fa).code (zF K fa).qualname = true)
  (hk : tA r.sc r.ps = true) (hn : uJ r.ps = true) (hbind : ∀ vals : List Value, vals.length = r.ps.length → bindArgs (zF K fa) ⟨vals, []⟩ = pure (r.ps.zip vals)) : FnAt cx fa r := by
 refine zb (iF X h) fun o h1 h2 => ?_
 unfold qH at ho
 simp only [Bool.and_eq_true, Bool.not_eq_true'] at ho
 refine ze (ho) fun W0 a6 => ?_
 refine ze (W0) fun W1 a5 => ?_
 obtain ⟨⟨⟨a1, a2⟩, a3⟩, a4⟩ := W1
 refine ⟨⟨o, _, h1, h2, hb, hs, ?_, a2, a3, Nat.eq_of_beq_eq_true a4, Nat.eq_of_beq_eq_true a5, List.isEmpty_iff.mp a6, codeRec_of X hc, hbind⟩, nP hn, iH hk⟩
 cases e : (zF K fa).scope.kind <;> first | rfl | (rw [e] at a1; exact ff a1)
theorem iL {l : List Value} (h : l.length = 0) : l = [] := List.length_eq_zero_iff.mp h
theorem rc {l : List Value} (h : l.length = 1) : ∃ a, l = [a] := by
 cases l with
 | nil => exact absurd h (by decide)
 | cons a r => exact ⟨a, by exact (iL (Nat.succ.inj h) ..).symm ▸ rfl⟩
theorem tB {l : List Value} (h : l.length = 2) : ∃ a b, l = [a, b] := by
 cases l with
 | nil => exact absurd h (by decide)
 | cons a r =>
  refine zd (rc (Nat.succ.inj h)) fun b e => ?_
  exact y4 a b (by exact e.symm ▸ rfl)
theorem qI {l : List Value} (h : l.length = 3) : ∃ a b c, l = [a, b, c] := by
 cases l with
 | nil => exact absurd h (by decide)
 | cons a r =>
  refine zM (tB (Nat.succ.inj h)) fun b c e => ?_
  exact vB a b c (by exact e.symm ▸ rfl)
theorem iM {l : List Value} (h : l.length = 4) : ∃ b c d e, l = [b, c, d, e] := by
 cases l with
 | nil => exact absurd h (by decide)
 | cons a r =>
  refine w8 (qI (Nat.succ.inj h)) fun b c d e => ?_
  exact vE a b c d (by exact e.symm ▸ rfl)
theorem Z0 {l : List Value} (h : l.length = 5) : ∃ a b c d e, l = [a, b, c, d, e] := by
 cases l with
 | nil => exact absurd h (by decide)
 | cons a r =>
  refine t7 (iM (Nat.succ.inj h)) fun b c d e q => ?_
  exact ⟨a, b, c, d, e, by exact q.symm ▸ rfl⟩
section
variable {cx : Cx} {K : Frag} {fa : Addr} {r : FnR}
noncomputable def vZ (K : Frag) (fa : Addr) (r : FnR) (n : Nat) : Bool := ty K fa && (qH (zF K fa) && (codeIn K (zF K fa).code (zF K fa).qualname && (tA r.sc r.ps && (uJ r.ps && Nat.beq r.ps.length n))))
theorem tD {n : Nat} (X : K.In cx.base) (h : vZ K fa r n = true) (h1 : (zF K fa).body = .stmts r.body) (h2 : (zF K fa).scope.names = r.sc) (h8 : ∀ vals : List Value, vals.length = n → bindArgs (zF K fa) ⟨vals, []⟩ = pure (r.ps.zip vals)) : FnAt cx fa r := by
 rw [vZ, Bool.and_eq_true, Bool.and_eq_true, Bool.and_eq_true, Bool.and_eq_true, Bool.and_eq_true] at h
 exact iK X h.1 h1 h2 h.2.1 h.2.2.1 h.2.2.2.1 h.2.2.2.2.1 fun vals e => h8 vals (e.trans (Nat.eq_of_beq_eq_true h.2.2.2.2.2))
theorem qJ (X : K.In cx.base) (h : vZ K fa r 0 = true) (h1 : (zF K fa).body = .stmts r.body) (h2 : (zF K fa).scope.names = r.sc) (h8 : bindArgs (zF K fa) ⟨[], []⟩ = pure (r.ps.zip [])) : FnAt cx fa r :=
 tD X h h1 h2 fun vals h => by rw [iL h]; exact h8
theorem yG (X : K.In cx.base) (h : vZ K fa r 1 = true) (h1 : (zF K fa).body = .stmts r.body) (h2 : (zF K fa).scope.names = r.sc) (h8 : ∀ a : Value, bindArgs (zF K fa) ⟨[a], []⟩ = pure (r.ps.zip [a])) : FnAt cx fa r :=
 tD X h h1 h2 fun vals h => by obtain ⟨a, q⟩ := rc h; rw [q]; exact h8 a
theorem qK (X : K.In cx.base) (h : vZ K fa r 2 = true) (h1 : (zF K fa).body = .stmts r.body) (h2 : (zF K fa).scope.names = r.sc) (h8 : ∀ a b : Value, bindArgs (zF K fa) ⟨[a, b], []⟩ = pure (r.ps.zip [a, b])) : FnAt cx fa r :=
 tD X h h1 h2 fun vals h => by obtain ⟨a, b, q⟩ := tB h; rw [q]; exact h8 a b
theorem iN (X : K.In cx.base) (h : vZ K fa r 3 = true) (h1 : (zF K fa).body = .stmts r.body) (h2 : (zF K fa).scope.names = r.sc) (h8 : ∀ a b c : Value, bindArgs (zF K fa) ⟨[a, b, c], []⟩ = pure (r.ps.zip [a, b, c])) : FnAt cx fa r :=
 tD X h h1 h2 fun vals h => by obtain ⟨a, b, c, q⟩ := qI h; rw [q]; exact h8 a b c
theorem TC (X : K.In cx.base) (h : vZ K fa r 4 = true) (h1 : (zF K fa).body = .stmts r.body) (h2 : (zF K fa).scope.names = r.sc) (h8 : ∀ a b c d : Value, bindArgs (zF K fa) ⟨[a, b, c, d], []⟩ = pure (r.ps.zip [a, b, c, d])) : FnAt cx fa r :=
 tD X h h1 h2 fun vals h => by obtain ⟨a, b, c, d, q⟩ := iM h; rw [q]; exact h8 a b c d
theorem iO (X : K.In cx.base) (h : vZ K fa r 5 = true) (h1 : (zF K fa).body = .stmts r.body) (h2 : (zF K fa).scope.names = r.sc) (h8 : ∀ a b c d e : Value, bindArgs (zF K fa) ⟨[a, b, c, d, e], []⟩ = pure (r.ps.zip [a, b, c, d, e])) : FnAt cx fa r :=
 tD X h h1 h2 fun vals h => by obtain ⟨a, b, c, d, e, q⟩ := Z0 h; rw [q]; exact h8 a b c d e
end
section
variable {cx : Cx} {p : Params}
theorem iP (X : (kk.heap_1 p).In cx.base) : FnAt cx 193 (zj "parse") := yG X rfl rfl rfl fun _ => by kernel_rfl
theorem Z1 (X : (kk.heap_1 p).In cx.base) : FnAt cx 200 (zj "_expect_token") := qK X rfl rfl rfl fun _ _ => by kernel_rfl
theorem Z2 (X : (kk.heap_1 p).In cx.base) : FnAt cx 207 (zj "_expr") := yG X rfl rfl rfl fun _ => by kernel_rfl
theorem Z3 (X : (kk.heap_1 p).In cx.base) : FnAt cx 214 (zj "_ite") := yG X rfl rfl rfl fun _ => by kernel_rfl
theorem Z4 (X : (kk.heap_1 p).In cx.base) : FnAt cx 221 (zj "_impl") := yG X rfl rfl rfl fun _ => by kernel_rfl
theorem Z5 (X : (kk.heap_1 p).In cx.base) : FnAt cx 228 (zj "_sumterm") := yG X rfl rfl rfl fun _ => by kernel_rfl
theorem Z6 (X : (kk.heap_1 p).In cx.base) : FnAt cx 235 (zj "_sumterm_prime") := yG X rfl rfl rfl fun _ => by kernel_rfl
theorem Z7 (X : (kk.heap_1 p).In cx.base) : FnAt cx 242 (zj "_xorterm") := yG X rfl rfl rfl fun _ => by kernel_rfl
theorem Z8 (X : (kk.heap_1 p).In cx.base) : FnAt cx 249 (zj "_xorterm_prime") := yG X rfl rfl rfl fun _ => by kernel_rfl
theorem Z9 (X : (kk.heap_1 p).In cx.base) : FnAt cx 256 (zj "_prodterm") := yG X rfl rfl rfl fun _ => by kernel_rfl
theorem Yb (X : (kk.heap_1 p).In cx.base) : FnAt cx 263 (zj "_prodterm_prime") := yG X rfl rfl rfl fun _ => by kernel_rfl
theorem Yc (X : (kk.heap_1 p).In cx.base) : FnAt cx 270 (zj "_factor") := yG X rfl rfl rfl fun _ => by kernel_rfl
theorem Yd (X : (kk.heap_1 p).In cx.base) : FnAt cx 277 (zj "_args") := yG X rfl rfl rfl fun _ => by kernel_rfl
theorem Ye (X : (kk.heap_1 p).In cx.base) : FnAt cx 284 (zj "_zom_arg") := yG X rfl rfl rfl fun _ => by kernel_rfl
theorem Yg (X : (kk.heap_1 p).In cx.base) : FnAt cx 291 (zj "_variable") := yG X rfl rfl rfl fun _ => by kernel_rfl
theorem Yh (X : (kk.heap_1 p).In cx.base) : FnAt cx 298 (zj "_names") := yG X rfl rfl rfl fun _ => by kernel_rfl
theorem Yi (X : (kk.heap_1 p).In cx.base) : FnAt cx 305 (zj "_zom_name") := yG X rfl rfl rfl fun _ => by kernel_rfl
theorem Yj (X : (kk.heap_1 p).In cx.base) : FnAt cx 312 (zj "_indices") := yG X rfl rfl rfl fun _ => by kernel_rfl
theorem Yk (X : (kk.heap_1 p).In cx.base) : FnAt cx 319 (zj "_zom_index") := yG X rfl rfl rfl fun _ => by kernel_rfl
theorem Yl (X : (kk.heap_1 p).In cx.base) : FnAt cx 326 (zj "_law_weak") := qJ X rfl rfl rfl (by kernel_rfl)
theorem Ym (X : (kk.heap_1 p).In cx.base) : FnAt cx 333 (zj "_law_words") := qJ X rfl rfl rfl (by kernel_rfl)
theorem Yn (X : (kk.heap_1 p).In cx.base) : FnAt cx 340 (zj "_law_order") := qJ X rfl rfl rfl (by kernel_rfl)
theorem Yo (X : (kk.heap_1 p).In cx.base) : FnAt cx 354 (zj "_law_more") := qJ X rfl rfl rfl (by kernel_rfl)
theorem Yp (X : (kk.heap_1 p).In cx.base) : FnAt cx 361 (zj "_law_leaf") := yG X rfl rfl rfl fun _ => by kernel_rfl
theorem Yq (X : (kk.heap_1 p).In cx.base) : FnAt cx 368 (zj "_law_inside") := qK X rfl rfl rfl fun _ _ => by kernel_rfl
theorem Yr (X : (kk.heap_1 p).In cx.base) : FnAt cx 373 (zj "_law_height") := qK X rfl rfl rfl fun _ _ => by kernel_rfl
theorem Ys (X : (kk.heap_1 p).In cx.base) : FnAt cx 380 (zj "_law_joined") := iO X rfl rfl rfl fun _ _ _ _ _ => by kernel_rfl
theorem Yt (X : (kk.heap_1 p).In cx.base) : FnAt cx 385 (zj "_law_called") := iN X rfl rfl rfl fun _ _ _ => by kernel_rfl
theorem Yu (X : (kk.heap_1 p).In cx.base) : FnAt cx 392 (zj "_law_part") := iO X rfl rfl rfl fun _ _ _ _ _ => by kernel_rfl
theorem Yv (X : (kk.heap_1 p).In cx.base) : FnAt cx 399 (zj "_law_cut") := qK X rfl rfl rfl fun _ _ => by kernel_rfl
theorem Yw (X : (kk.heap_1 p).In cx.base) : FnAt cx 404 (zj "_law_every_other") := iN X rfl rfl rfl fun _ _ _ => by kernel_rfl
theorem Yx (X : (kk.heap_1 p).In cx.base) : FnAt cx 409 (zj "_law_single") := yG X rfl rfl rfl fun _ => by kernel_rfl
theorem Yy (X : (kk.heap_1 p).In cx.base) : FnAt cx 416 (zj "_law_read") := yG X rfl rfl rfl fun _ => by kernel_rfl
theorem iQ (X : (kk.heap_1 p).In cx.base) : FnAt cx 423 (zj "_law_parsed") := yG X rfl rfl rfl fun _ => by kernel_rfl
end
noncomputable def iR : FuncBody → List Stmt
 | .stmts b => b
 | _ => []
noncomputable def rK (K : Frag) (fa : Addr) : FnR := ⟨(zF K fa).params.args.map (·.arg), (zF K fa).scope.names, iR (zF K fa).body⟩
noncomputable def nQ : FuncBody → Bool
 | .stmts _ => true
 | _ => false
noncomputable def qL : zm → Bool
 | [] => true
 | (_, k) :: r => (match k with | .cell => false | _ => true) && qL r
theorem iS : ∀ {l : zm}, qL l = true → ∀ x ∈ l, x.2 ≠ .cell
 | (y, k) :: r, h, x, hx => by
  dsimp only [qL] at h
  rw [Bool.and_eq_true] at h
  refine zh (mem_cons.mp hx) (fun W0 => ?_) fun hx => ?_
  ·refine (W0) ▸ ?_; intro q; simp only at q; replace h := (q ..) ▸ h; cases h.1
  ·exact iS h.2 x hx
noncomputable def locals (sc : zm) : List Str → Bool
 | [] => true
 | p :: ps => zN sc p && locals sc ps
theorem iT {sc : zm} : ∀ {ps : List Str}, locals sc ps = true → ∀ p ∈ ps, zD p sc = some .local
 | q :: ps, h, p, hp => by
  dsimp only [locals] at h
  simp only [Bool.and_eq_true] at h
  refine zh (mem_cons.mp hp) (fun W0 => ?_) fun hp => ?_
  ·refine (W0) ▸ ?_; exact yl h.1
  ·exact iT h.2 p hp
theorem iU {b : FuncBody} (h : nQ b = true) : b = .stmts (iR b) := by
 cases b <;> first | rfl | exact ff h
noncomputable def iW (fd : FuncData) : Bool := iJ fd.scope.kind && !fd.scope.isCoroutine && !fd.scope.isGenerator && Nat.beq fd.globals mainGlobals && Nat.beq fd.builtins builtinsNs && nQ fd.body
theorem iX (X : K.In cx.base) (h : ty K fa = true) (ho : iW (zF K fa) = true) (hc : codeIn K (zF K fa).code (zF K fa).qualname = true)
  (hl : locals (rK K fa).sc (rK K fa).ps = true) (hn : uJ (rK K fa).ps = true) (hcell : qL (rK K fa).sc = true)
  (hbind : ∀ (s : Shared) (vals : List Value), cx.base.StaysIn s.heap → vals.length = (rK K fa).ps.length → BindsTo s (zF K fa) ⟨vals, []⟩ ((rK K fa).ps.zip vals)) : GetFn cx fa (rK K fa) := by
 refine zo fun R_ k_ => ?_
 refine zb (iF X h) fun o h1 h2 => ?_
 unfold iW at ho
 simp only [Bool.and_eq_true, Bool.not_eq_true'] at ho
 refine ze (ho) fun W0 a6 => ?_
 refine ze (W0) fun W1 a5 => ?_
 refine ze (W1) fun W2 a4 => ?_
 obtain ⟨⟨a1, a2⟩, a3⟩ := W2
 refine k_ ?_
 refine ⟨⟨o, _, h1, h2, iU a6, rfl, ?_, a2, a3, Nat.eq_of_beq_eq_true a4, Nat.eq_of_beq_eq_true a5, codeRec_of X hc, hbind⟩, nP hn, iS hcell, iT hl⟩
 cases e : (zF K fa).scope.kind <;> first | rfl | (rw [e] at a1; exact ff a1)
theorem nR (X : K.In cx.base) (h : ty K fa = true) (hb : nQ (zF K fa).body = true) (ho : qH (zF K fa) = true) (hc : codeIn K (zF K fa).code (zF K fa).qualname = true)
  (hk : tA (rK K fa).sc (rK K fa).ps = true) (hn : uJ (rK K fa).ps = true) (hbind : ∀ vals : List Value, vals.length = (rK K fa).ps.length → bindArgs (zF K fa) ⟨vals, []⟩ = pure ((rK K fa).ps.zip vals)) : FnAt cx fa (rK K fa) :=
 iK X h (iU hb) rfl ho hc hk hn hbind
noncomputable def iY (K : Frag) (v : Value) : Bool := match v with
 | .ref T => (match K.lookup T with | some ⟨_, _, .seq _ _, _⟩ => true | _ => false)
 | _ => false
noncomputable def nT (K : Frag) (v : Value) : Array Value := match v with
 | .ref T => (match K.lookup T with | some ⟨_, _, .seq xs _, _⟩ => xs | _ => #[])
 | _ => #[]
set_option tactic.hygienic true in
theorem Yz (X : K.In h) (e : iY K v = true) : ∃ T o n, v = .ref T ∧ h.get? T = some o ∧ o.data = .seq (nT K v) n := by
 unfold iY at e
 unfold nT
 split at e
 ·split at e
  ·rename_i T c d xs n sl q
   exact uc _ _ n rfl (X _ _ q) rfl
  ·injection e
 ·injection e
noncomputable def nU (p : Arguments) (i : Nat) : Arg := p.args.getD i ⟨"", none, default⟩
noncomputable def YA (p1 p2 p3 : Pos) (d : List Expr) : Arguments := ⟨[], [⟨zY, none, p1⟩, ⟨vU, none, p2⟩, ⟨"objtype", none, p3⟩], none, [], [], none, d⟩
theorem YB {s : Shared} {fd : FuncData} {T : Addr} {o : Obj} {n : Nat} {x y z : Value} {p1 p2 p3 : Pos} {d : List Expr} (hp : fd.params = YA p1 p2 p3 d) (hd : fd.defaults = .ref T) (ho : s.heap.get? T = some o) (hs : o.data = .seq #[v] n) :
  BindsTo s fd ⟨[x, y, z], []⟩ ((fd.params.args.map (·.arg)).zip [x, y, z]) := by
 obtain ⟨n1, n2, n3, n4, n5, n6, n7, n8, n9, n10, n11, n12, n13, n14⟩ := fd
 simp only at hp hd
 subst hp hd
 exact BindsTo.of_defaults rfl ho hs rfl rfl
section
variable {cx : Cx} {p : Params}
noncomputable abbrev KH (p : Params) : Frag := kk.heap_1 p
theorem YC (X : (KH p).In cx.base) : GetFn cx 43 (rK (KH p) 43) :=
 iX X rfl rfl rfl rfl rfl rfl fun s vals st h => by
  obtain h : vals.length = 3 := h.trans rfl
  refine w8 (qI h) fun a b c W0 => ?_
  refine (W0) ▸ ?_
  refine xW (Yz (v := (zF (KH p) 43).defaults) X rfl) fun T o n e1 e2 e3 => ?_
  obtain e4 : nT (KH p) (zF (KH p) 43).defaults = #[.none] := by kernel_rfl
  rw [e4] at e3
  exact YB (p1 := (nU (zF (KH p) 43).params 0).pos) (p2 := (nU (zF (KH p) 43).params 1).pos) (p3 := (nU (zF (KH p) 43).params 2).pos) (d := (zF (KH p) 43).params.defaults) rfl e1 (st _ _ e2) e3
theorem YD (X : (KH p).In cx.base) : GetFn cx 82 (rK (KH p) 82) :=
 iX X rfl rfl rfl rfl rfl rfl fun s vals st h => by
  obtain h : vals.length = 3 := h.trans rfl
  refine w8 (qI h) fun a b c W0 => ?_
  refine (W0) ▸ ?_
  obtain e : bindArgs (zF (KH p) 82) ⟨[a, b, c], []⟩ = pure ((rK (KH p) 82).ps.zip [a, b, c]) := by kernel_rfl
  intro M A E Q hq
  rw [e]
  exact wpAny_pure hq
theorem YE (X : (KH p).In cx.base) : FnAt cx 162 (rK (KH p) 162) :=
 nR X rfl rfl rfl rfl rfl rfl fun vals h => by
  have h : vals.length = 2 := h.trans rfl
  refine zM (tB h) fun a b W0 => ?_
  refine (W0) ▸ ?_
  kernel_rfl
theorem YF (X : (KH p).In cx.base) : FnAt cx 169 (rK (KH p) 169) :=
 nR X rfl rfl rfl rfl rfl rfl fun vals h => by
  have h : vals.length = 1 := h.trans rfl
  refine zd (rc h) fun a W0 => ?_
  refine (W0) ▸ ?_
  kernel_rfl
theorem YG (X : (KH p).In cx.base) : FnAt cx 176 (rK (KH p) 176) :=
 nR X rfl rfl rfl rfl rfl rfl fun vals h => by
  have h : vals.length = 2 := h.trans rfl
  refine zM (tB h) fun a b W0 => ?_
  refine (W0) ▸ ?_
  kernel_rfl
end
structure Hd0 (w : World) (base : Heap) (mg mb : Str → Option Value) : Prop where
 X : (KH w.params).In base
 T : ∃ p l, TopRead p l mg mb base
noncomputable abbrev xt (prog : Program) (w : World) (base : Heap) (mg mb : Str → Option Value) : Cx := ⟨prog, w, base, mg, mb, 132, 179, 145, none⟩
section
variable {prog : Program} {w : World} {base : Heap} {mg mb : Str → Option Value}
theorem Hd0.g (H : Hd0 w base mg mb) : base.Ns mainGlobals mg := H.T.elim fun _ h => h.elim fun _ t => t.g
theorem Hd0.b (H : Hd0 w base mg mb) : base.Ns builtinsNs mb := H.T.elim fun _ h => h.elim fun _ t => t.b
theorem Hd0.nolimit (H : Hd0 w base mg mb) : base.NoLimit := H.T.elim fun _ h => h.elim fun _ t => t.nolimit
theorem Hd0.bi (H : Hd0 w base mg mb) : ∀ x : Str, x ≠ "__name__" → mb x = bootBuiltins x := H.T.elim fun _ h => h.elim fun _ t => t.builtins
theorem Hd0.blt (H : Hd0 w base mg mb) (h : bootBuiltins x = some v) (hn : (x == ("__name__" : Str)) = false) : mb x = some v := (H.bi x (fun q => by rw [q] at hn; exact ff hn.symm)).trans h
theorem Hd0.gl (H : Hd0 w base mg mb) (h : nsIn (KH w.params) mainGlobals x = some (some v)) : mg x = some v := mg_of H.X H.g h
theorem Hd0.no (H : Hd0 w base mg mb) (h : nsIn (KH w.params) mainGlobals x = some none) : mg x = none := mg_none_of H.X H.g h
noncomputable def iZ : Stmt → List Stmt × Option Expr
 | .If _ b _ _ => (b, none)
 | .Expr e _ => ([], some e)
 | _ => ([], none)
noncomputable def i0 (b : List Stmt) (i : Nat) : List Stmt := (b[i]?.elim ([], none) iZ).1
noncomputable def i4 (b : List Stmt) : Str := (((b[0]?.bind fun s => (iZ s).2).bind rU).bind pK).getD ""
noncomputable def i5 (K : Frag) (a : Addr) : Bool := match K.lookup a with
 | some ⟨_, _, .cls _, _⟩ => true
 | _ => false
set_option tactic.hygienic true in
theorem YH (X : K.In h) (e : i5 K a = true) : ∃ o c, h.get? a = some o ∧ o.data = .cls c := by
 unfold i5 at e
 split at e
 ·rename_i q; exact yj _ _ (X _ _ q) rfl
 ·exact ff e
noncomputable def i6 (K : Frag) (a : Addr) : Bool := match K.lookup a with
 | some ⟨_, _, .cls cd, _⟩ => !cd.hasDel && !cd.mro.isEmpty
 | _ => false
set_option tactic.hygienic true in
theorem YI (X : K.In h) (e : i6 K a = true) : ∃ oc od cd sl, h.get? a = some ⟨oc, od, .cls cd, sl⟩ ∧ cd.hasDel = false ∧ cd.mro.isEmpty = false := by
 unfold i6 at e
 split at e
 ·rename_i q
  simp only [Bool.and_eq_true, Bool.not_eq_true'] at e
  exact ud _ _ _ _ (X _ _ q) (e.1) (e.2)
 ·exact ff e
theorem YJ (H : Hd0 w base mg mb) : GetK (xt prog w base mg mb) (KH w.params) (rK (KH w.params) 43) where
 inb := H.X
 nolimit := H.nolimit
 g := H.g
 b := H.b
 gn := (yV (H.no rfl) (H.no rfl) (H.no rfl))
 bv := (yV (H.blt rfl rfl) (H.blt rfl rfl) (H.blt rfl rfl))
 tok := YH H.X rfl
 sub := by kernel_rfl
 ga := by kernel_rfl
 gk := by kernel_rfl
 isc := by kernel_rfl
 gi := by kernel_rfl
 ps := by kernel_rfl
 ls := by kernel_rfl
 lo := by kernel_rfl
 gl := (yV rfl (by kernel_rfl) (by kernel_rfl))
 body := (w7 (uB [⟨12,11,12,14⟩, ⟨12,18,12,22⟩, ⟨12,11,12,22⟩, ⟨12,8,13,23⟩, ⟨14,15,14,25⟩, ⟨14,26,14,30⟩, ⟨14,31,14,34⟩, ⟨14,26,14,35⟩, ⟨14,37,14,42⟩, ⟨14,15,14,43⟩, ⟨14,11,14,43⟩, ⟨14,8,15,20⟩, ⟨16,15,16,20⟩, ⟨16,15,16,32⟩, ⟨16,33,16,36⟩, ⟨16,38,16,42⟩, ⟨16,38,16,48⟩, ⟨16,15,16,49⟩, ⟨16,8,16,49⟩]) (i0 ((rK (KH w.params) 43).body) 0) (i0 ((rK (KH w.params) 43).body) 1) (by kernel_rfl) (by kernel_rfl))
noncomputable def i7 (K : Frag) (a : Addr) : Obj := (K.lookup a).getD { cls := .none }
theorem i8 (H : Hd0 w base mg mb) (name : Str) (i : Nat) (d dx : Addr) (tk : Tok) (h1 : findIn (KH w.params) (.ref 132) name = some (some (.ref d))) (h2 : specialIn (KH w.params) (.ref d) "__get__" = some (some (.ref 43))) (h3 : takesIn (KH w.params) (.ref d) = some true)
  (h4 : (KH w.params).lookup d = some { cls := .ref 60, dict := some dx }) (h5 : (KH w.params).lookup dx = some (i7 (KH w.params) dx)) (h6 : lookIn xY (i7 (KH w.params) dx) = some (some (.int (i : Nat) tk))) : FieldK (xt prog w base mg mb) (KH w.params) (rK (KH w.params) 43) name i :=
 ⟨d, _, _, 60, 43, tk, h1, h2, h3, YC H.X, ⟨H.X _ _ h4, rfl, rfl, H.X _ _ h5⟩, by kernel_rfl, by kernel_rfl, by kernel_rfl, h6⟩
theorem YK (H : Hd0 w base mg mb) : FieldK (xt prog w base mg mb) (KH w.params) (rK (KH w.params) 43) z6 0 :=
 i8 H z6 0 124 123 343 rfl rfl rfl rfl rfl rfl
theorem YL (H : Hd0 w base mg mb) : FieldK (xt prog w base mg mb) (KH w.params) (rK (KH w.params) 43) z7 1 :=
 i8 H z7 1 127 126 353 rfl rfl rfl rfl rfl rfl
theorem YM (H : Hd0 w base mg mb) : TokNew (xt prog w base mg mb) (KH w.params) where
 inb := H.X
 obj := YI H.X rfl
 made := Looks.of_peek H.X rfl
 base := Looks.of_peek H.X (by kernel_rfl)
 madeT := Looks.of_peek H.X (by kernel_rfl)
 self := Looks.of_peek H.X rfl
 top := Looks.of_peek H.X rfl
 tup := Looks.of_peek H.X rfl
 call := Looks.of_peek H.X rfl
 typ := Looks.of_peek H.X rfl
 init := Looks.of_peek H.X rfl
 reads := by kernel_rfl
theorem YN (H : Hd0 w base mg mb) : NewK (xt prog w base mg mb) (KH w.params) where
 cls := YM H
 nolimit := H.nolimit
 g := H.g
 b := H.b
 gn := H.no rfl
 bv := H.blt rfl rfl
 gi := by kernel_rfl
 ex := ⟨133, 82, .none, [], rK (KH w.params) 82, by kernel_rfl, by kernel_rfl, YD H.X, by kernel_rfl, by kernel_rfl, by kernel_rfl, by kernel_rfl, by kernel_rfl, i4 ((rK (KH w.params) 82).body), uB [⟨30,8,30,55⟩, ⟨30,8,30,55⟩, ⟨31,15,31,20⟩, ⟨31,15,31,28⟩, ⟨31,29,31,33⟩, ⟨31,36,31,40⟩, ⟨31,42,31,47⟩, ⟨31,35,31,48⟩, ⟨31,15,31,49⟩, ⟨31,8,31,49⟩], by kernel_rfl, by kernel_rfl⟩
theorem YO (H : Hd0 w base mg mb) : LexK (xt prog w base mg mb) (KH w.params) where
 inb := H.X
 nolimit := H.nolimit
 ga := by kernel_rfl
 gk := by kernel_rfl
 has := by kernel_rfl
 toks := by kernel_rfl
 next := ⟨169, rK (KH w.params) 169, by kernel_rfl, by kernel_rfl, YF H.X, by kernel_rfl, by kernel_rfl, uB [⟨77,15,77,19⟩, ⟨77,15,77,26⟩, ⟨77,15,77,30⟩, ⟨77,15,77,32⟩, ⟨77,8,77,32⟩], by kernel_rfl, by kernel_rfl⟩
 unpop := ⟨176, rK (KH w.params) 176, by kernel_rfl, by kernel_rfl, YG H.X, by kernel_rfl, by kernel_rfl, by kernel_rfl, uB [⟨80,8,80,12⟩, ⟨80,8,80,19⟩, ⟨80,8,80,26⟩, ⟨80,27,80,30⟩, ⟨80,8,80,31⟩, ⟨80,8,80,31⟩], by kernel_rfl, by kernel_rfl⟩
theorem YQ (H : Hd0 w base mg mb) : LexSet (xt prog w base mg mb) (KH w.params) where
 hs := by kernel_rfl
 hp := by kernel_rfl
 ht := by kernel_rfl
 hh := by kernel_rfl
theorem YR (H : Hd0 w base mg mb) : LexMake (xt prog w base mg mb) (KH w.params) where
 make := by kernel_rfl
 keep := by kernel_rfl
 token := H.gl rfl
 set := YQ H
 init := ⟨162, rK (KH w.params) 162, by kernel_rfl, by kernel_rfl, YE H.X, by kernel_rfl, by kernel_rfl, by kernel_rfl, by kernel_rfl, by kernel_rfl, by kernel_rfl, by kernel_rfl, uB [⟨72,8,72,12⟩, ⟨72,8,72,19⟩, ⟨72,23,72,28⟩, ⟨72,29,72,39⟩, ⟨72,41,72,43⟩, ⟨72,23,72,44⟩, ⟨72,22,72,45⟩, ⟨72,8,72,45⟩, ⟨73,12,73,16⟩, ⟨73,18,73,23⟩, ⟨73,12,73,23⟩, ⟨73,27,73,35⟩, ⟨73,36,73,42⟩, ⟨73,27,73,43⟩, ⟨74,12,74,16⟩, ⟨74,12,74,23⟩, ⟨74,12,74,30⟩, ⟨74,31,74,36⟩, ⟨74,37,74,41⟩, ⟨74,43,74,48⟩, ⟨74,31,74,49⟩, ⟨74,12,74,50⟩, ⟨74,12,74,50⟩, ⟨73,8,74,50⟩], by kernel_rfl, by kernel_rfl⟩
theorem YS (H : Hd0 w base mg mb) (fa : Addr) (h : mg yn = some (.ref fa)) : ParseAt (xt prog w base mg mb) (KH w.params) fa (zj "parse") sY := by
 obtain q : mg yn = some (.ref 193) := H.gl rfl
 replace q := (h ..) ▸ q
 cases q
 exact ⟨iP H.X, by kernel_rfl, by kernel_rfl, by kernel_rfl, by kernel_rfl, ⟨i4 (zj "parse").body, uB [⟨85,4,125,7⟩, ⟨85,4,125,7⟩, ⟨126,4,126,9⟩, ⟨126,12,126,25⟩, ⟨126,26,126,27⟩, ⟨126,12,126,28⟩, ⟨126,4,126,28⟩], by kernel_rfl⟩, H.gl rfl, by kernel_rfl⟩
theorem YT (H : Hd0 w base mg mb) : OwnCls wH 145 [.type "Exception", .type "BaseException", .type "object"] "Exception.__new__" mg base := by
 refine zM (H.T) fun p l T => ?_
 exact own_of_in H.X T rfl (by kernel_rfl)
end
noncomputable def nV (K : Frag) (a : Addr) : Option (List Value) := match K.lookup a with
 | some ⟨.type "tuple", _, .seq xs _, _⟩ => some xs.toList
 | _ => none
set_option tactic.hygienic true in
theorem YU {vs : List Value} (X : K.In h) (e : nV K a = some vs) : ∃ o n xs, h.get? a = some o ∧ o.cls = .type "tuple" ∧ o.data = .seq xs n ∧ xs.toList = vs := by
 unfold nV at e
 split at e
 ·rename_i q; refine Option.some.inj e ▸ ?_; exact vC _ _ _ (X _ _ q) rfl rfl rfl
 ·exact nn e
mutual
noncomputable def tE (K : Frag) : Value → PyData → Bool
 | .int i _, .int j => decide (i = j)
 | .str x _, .str y => x == y
 | .ref a, .tuple ds => (match nV K a with | some vs => qM K vs ds | none => false)
 | _, _ => false
noncomputable def qM (K : Frag) : List Value → List PyData → Bool
 | [], [] => true
 | v :: vs, d :: ds => tE K v d && qM K vs ds
 | _, _ => false
end
set_option tactic.hygienic true in
theorem i9 {K : Frag} {h : Heap} (X : K.In h) : ∀ n : Nat, (∀ (v : Value) (d : PyData), sizeOf d < n → tE K v d = true → ∃ as, Reads h v d as) ∧ (∀ (ds : List PyData) (vs : List Value), sizeOf ds < n → qM K vs ds = true → ∃ as, ReadsAll h vs ds as)
 | 0 => ⟨fun _ _ h => absurd h (Nat.not_lt_zero _), fun _ _ h => absurd h (Nat.not_lt_zero _)⟩
 | n + 1 => by
  refine ze (i9 X n) fun i1 i2 => ?_
  refine ⟨fun v d hs e => ?_, fun ds vs hs e => ?_⟩
  ·unfold tE at e
   split at e
   ·rw [decide_eq_true_eq] at e
    refine (e) ▸ ?_
    exact ⟨_, .int _ _⟩
   ·rw [eq_of_beq e]
    exact ⟨_, .str _ _⟩
   ·split at e
    ·rename_i vs q
     refine zo fun R_ k_ => ?_
     refine zW (YU X q) fun o n xs h1 h2 h3 h4 => ?_
     refine zd (i2 _ vs (by simp at hs; lia) e) fun as r => ?_
     refine k_ ?_
     exact ⟨as, .tuple h1 h2 h3 (h4 ▸ r)⟩
    ·injection e
   ·injection e
  ·unfold qM at e
   split at e
   ·exact ⟨_, .nil⟩
   ·simp only [Bool.and_eq_true] at e
    refine zd (i1 _ _ (by simp at hs; lia) e.1) fun a1 r1 => ?_
    refine zd (i2 _ _ (by simp at hs; lia) e.2) fun a2 r2 => ?_
    exact ⟨_, .cons r1 r2⟩
   ·injection e
theorem tF (X : K.In h) (v : Value) (d : PyData) (e : tE K v d = true) : ∃ as, Reads h v d as := (i9 X (sizeOf d + 1)).1 v d (Nat.lt_succ_self _) e
noncomputable def YV : Option Obj → List DictEntry
 | some ⟨_, _, .dict es _, _⟩ => es.toList
 | _ => []
noncomputable def qN (K : Frag) (a : Addr) : List DictEntry := YV (K.lookup a)
noncomputable def nW (K : Frag) (a : Addr) : Bool := match K.lookup a with
 | some ⟨.type "dict", none, .dict _ _, sl⟩ => sl.isEmpty
 | _ => false
set_option tactic.hygienic true in
theorem YW (X : K.In h) (e : nW K a = true) : ∃ o ep es, h.get? a = some o ∧ o.ExactDict ∧ o.data = .dict es ep ∧ es.toList = qN K a := by
 unfold nW at e
 unfold qN
 split at e
 ·rename_i es ep sl q
  refine vC _ _ _ (X _ _ q) ((yV rfl rfl ?_)) rfl (by rw [q]; rfl)
  exact Array.isEmpty_iff.mp e
 ·injection e
noncomputable def hJ : Value → Option Str
 | .str x _ => some x
 | _ => none
theorem YX (h : hJ v = some x) : ∃ t, v = .str x t := by
 cases v with
 | str y t => exact ⟨t, by exact (Option.some.inj h ..).symm ▸ rfl⟩
 | _ => exact nn h
noncomputable def re (K : Frag) : List DictEntry → List (Str × PyData) → Bool
 | [], l => l.isEmpty
 | e :: es, l => (ul l).elim false (fun q => (hJ e.key).elim false (fun x => x == q.1.1) && tE K e.val q.1.2 && re K es q.2)
theorem YY {e : DictEntry} {es : List DictEntry} {kd : Str × PyData} {l : List (Str × PyData)} (h : re K (e :: es) (kd :: l) = true) : ∃ x t, e.key = .str x t ∧ x = kd.1 ∧ tE K e.val kd.2 = true ∧ re K es l = true := by
 refine zo fun R_ k_ => ?_
 refine ze (zO h) fun h1 h3 => ?_
 refine ze (zO h1) fun h1 h2 => ?_
 refine zb (vP h1) fun x h4 h5 => ?_
 refine zd (YX h4) fun t e => ?_
 refine k_ ?_
 exact wE x t e (eq_of_beq h5) h2 h3
theorem YZ (X : K.In h) {prog : Program} {w : World} (es : List DictEntry) : ∀ (l : List (Str × PyData)), re K es l = true → (es.map (·.hash) = l.map fun q => hashStr w q.1) →
  (∀ e ∈ es, ∃ k, (strKind prog w).is k e.key = true ∧ e.hash = (strKind prog w).hash k) ∧
  ∀ k, (zG k l = none → es.find? (fun e => (strKind prog w).is k e.key) = none) ∧ (∀ d, zG k l = some d → ∃ e as, es.find? (fun e => (strKind prog w).is k e.key) = some e ∧ Reads h e.val d as) := by
 induction es with
 | nil =>
  intro l e _
  cases l with
  | nil => exact ⟨fun e he => (nomatch he), fun k => ⟨fun _ => rfl, fun d hd => nn hd⟩⟩
  | cons => exact ff e
 | cons en es ih =>
  intro l e eh
  cases l with
  | nil => exact ff e
  | cons kd l =>
   refine zo fun R_ k_ => ?_
   refine wg (YY e) fun x t hkey e1 e2 e3 => ?_
   refine ze (List.cons.inj eh) fun eh1 eh2 => ?_
   refine ze (ih l e3 eh2) fun h1 h2 => ?_
   refine zd (tF X en.val kd.2 e2) fun as r => ?_
   refine k_ ?_
   have self : (strKind prog w).is x en.key = true := by refine (hkey ..).symm ▸ ?_; exact strKind_is prog w x t
   refine ⟨fun e' he => ?_, fun k => ?_⟩
   ·refine zh (mem_cons.mp he) (fun W0 => ?_) fun he => ?_
    ·refine (W0) ▸ ?_; exact zg x self (by rw [e1]; exact eh1)
    ·exact h1 e' he
   ·show (cond (kd.1 == k) (some kd.2) (zG k l) = none → _) ∧ ∀ d, cond (kd.1 == k) (some kd.2) (zG k l) = some d → _
    refine (List.find?_cons ..).symm ▸ (e1 ..) ▸ ?_
    cases q : x == k with
    | true =>
     refine (eq_of_beq q ..) ▸ (self ..).symm ▸ ?_
     exact ⟨fun q => nn q.symm, fun d' hd => (yj _ as rfl (by refine (Option.some.inj hd ..) ▸ ?_; exact r))⟩
    | false =>
     obtain hk : (strKind prog w).is k en.key = false := by
      cases z : (strKind prog w).is k en.key with
      | false => rfl
      | true =>
       rw [(strKind prog w).inj _ _ _ self z, beq_self_eq_true] at q
       exact ff q.symm
     refine (hk ..).symm ▸ ?_
     exact h2 k
theorem hO {l : List (Str × PyData)} (X : K.In h) (e1 : nW K a = true) (e2 : re K (qN K a) l = true) (e3 : (qN K a).map (·.hash) = l.map fun q => hashStr cx.w q.1) : pY cx h a l := by
 refine zW (YW X e1) fun o ep es h1 h2 h3 h4 => ?_
 refine ze (YZ (prog := cx.prog) X _ l e2 e3) fun h5 h6 => ?_
 refine (zg (findBy (strKind cx.prog cx.w).is es) ((rE o es ep h1 h2 h3 (fun e he => h5 e (by refine (h4 ..) ▸ ?_; exact Array.mem_toList_iff.mpr he)) (fun k => rfl))) (fun k => ?_))
 refine ze (h6 k) fun h7 h8 => ?_
 unfold findBy
 refine (Array.find?_toList ..) ▸ (h4 ..).symm ▸ ?_
 refine ⟨fun q => by rw [h7 q]; rfl, fun d hd => ?_⟩
 refine zx (h8 d hd) fun e as h9 h10 => ?_
 exact yj (e.val) as (by rw [h9]; rfl) h10
section
variable {prog : Program} {w : World} {base : Heap} {mg mb : Str → Option Value}
theorem yR {α : Type} {a : Str} {u v : α} {o : Option α} (h : cond (x == a) (some u) o = some v) : (x = a ∧ u = v) ∨ o = some v := by
 cases e : x == a with
 | true => rw [e] at h; exact .inl ⟨eq_of_beq e, Option.some.inj h⟩
 | false => rw [e] at h; exact .inr h
theorem Y0 (x : Str) : Gb x ≠ some .lexer := fun h => by
 refine ue (yR h) (fun _ q => ?_) fun h => ?_
 ·injection q
 refine ue (yR h) (fun _ q => ?_) fun h => ?_
 ·injection q
 refine ue (yR h) (fun _ q => ?_) fun h => ?_
 ·injection q
 refine ue (yR h) (fun _ q => ?_) fun h => ?_
 ·injection q
 refine ue (yR h) (fun _ q => ?_) fun h => ?_
 ·injection q
 refine ue (yR h) (fun _ q => ?_) fun h => ?_
 ·injection q
 refine ue (yR h) (fun _ q => ?_) fun h => ?_
 ·injection q
 have q := (yW h).2
 cases q
theorem hV (H : Hd0 w base mg mb) (f : Str) (hf : f ∈ tr) : ∃ fa, mg f = some (.ref fa) ∧ FnAt (xt prog w base mg mb) fa (zj f) := by
 obtain X := H.X
 revert f
 refine forall_mem_cons.mpr ⟨⟨200, H.gl rfl, Z1 X⟩, ?_⟩
 refine forall_mem_cons.mpr ⟨⟨207, H.gl rfl, Z2 X⟩, ?_⟩
 refine forall_mem_cons.mpr ⟨⟨214, H.gl rfl, Z3 X⟩, ?_⟩
 refine forall_mem_cons.mpr ⟨⟨221, H.gl rfl, Z4 X⟩, ?_⟩
 refine forall_mem_cons.mpr ⟨⟨228, H.gl rfl, Z5 X⟩, ?_⟩
 refine forall_mem_cons.mpr ⟨⟨235, H.gl rfl, Z6 X⟩, ?_⟩
 refine forall_mem_cons.mpr ⟨⟨242, H.gl rfl, Z7 X⟩, ?_⟩
 refine forall_mem_cons.mpr ⟨⟨249, H.gl rfl, Z8 X⟩, ?_⟩
 refine forall_mem_cons.mpr ⟨⟨256, H.gl rfl, Z9 X⟩, ?_⟩
 refine forall_mem_cons.mpr ⟨⟨263, H.gl rfl, Yb X⟩, ?_⟩
 refine forall_mem_cons.mpr ⟨⟨270, H.gl rfl, Yc X⟩, ?_⟩
 refine forall_mem_cons.mpr ⟨⟨277, H.gl rfl, Yd X⟩, ?_⟩
 refine forall_mem_cons.mpr ⟨⟨284, H.gl rfl, Ye X⟩, ?_⟩
 refine forall_mem_cons.mpr ⟨⟨291, H.gl rfl, Yg X⟩, ?_⟩
 refine forall_mem_cons.mpr ⟨⟨298, H.gl rfl, Yh X⟩, ?_⟩
 refine forall_mem_cons.mpr ⟨⟨305, H.gl rfl, Yi X⟩, ?_⟩
 refine forall_mem_cons.mpr ⟨⟨312, H.gl rfl, Yj X⟩, ?_⟩
 refine forall_mem_cons.mpr ⟨⟨319, H.gl rfl, Yk X⟩, ?_⟩
 refine forall_mem_cons.mpr ⟨⟨326, H.gl rfl, Yl X⟩, ?_⟩
 refine forall_mem_cons.mpr ⟨⟨333, H.gl rfl, Ym X⟩, ?_⟩
 refine forall_mem_cons.mpr ⟨⟨340, H.gl rfl, Yn X⟩, ?_⟩
 refine forall_mem_cons.mpr ⟨⟨354, H.gl rfl, Yo X⟩, ?_⟩
 refine forall_mem_cons.mpr ⟨⟨361, H.gl rfl, Yp X⟩, ?_⟩
 refine forall_mem_cons.mpr ⟨⟨368, H.gl rfl, Yq X⟩, ?_⟩
 refine forall_mem_cons.mpr ⟨⟨373, H.gl rfl, Yr X⟩, ?_⟩
 refine forall_mem_cons.mpr ⟨⟨380, H.gl rfl, Ys X⟩, ?_⟩
 refine forall_mem_cons.mpr ⟨⟨385, H.gl rfl, Yt X⟩, ?_⟩
 refine forall_mem_cons.mpr ⟨⟨392, H.gl rfl, Yu X⟩, ?_⟩
 refine forall_mem_cons.mpr ⟨⟨399, H.gl rfl, Yv X⟩, ?_⟩
 refine forall_mem_cons.mpr ⟨⟨404, H.gl rfl, Yw X⟩, ?_⟩
 refine forall_mem_cons.mpr ⟨⟨409, H.gl rfl, Yx X⟩, ?_⟩
 refine forall_mem_cons.mpr ⟨⟨416, H.gl rfl, Yy X⟩, ?_⟩
 refine forall_mem_cons.mpr ⟨⟨423, H.gl rfl, iQ X⟩, ?_⟩
 refine forall_mem_cons.mpr ⟨⟨193, H.gl rfl, iP X⟩, ?_⟩
 exact fun f h => nomatch h
theorem Y1 {r : FnR} (F : FnAt cx fa r) : ut cx fa := by
 refine yq (F.ex) fun o fd h1 h2 _ => ?_
 exact yj o fd h1 h2
theorem Y2 (H : Hd0 w base mg mb) : Wd (xt prog w base mg mb) Gb where
 g := H.g
 b := H.b
 nolimit := H.nolimit
 glob := fun x v h => by
  rcases yR h with ⟨rfl, rfl⟩ | h
  ·exact zg (.ref 185) (H.gl rfl) (tF H.X _ _ rfl)
  rcases yR h with ⟨rfl, rfl⟩ | h
  ·exact zg (.ref 186) (H.gl rfl) (tF H.X _ _ rfl)
  rcases yR h with ⟨rfl, rfl⟩ | h
  ·exact ⟨.ref 184, H.gl rfl, 184, rfl, hO H.X rfl rfl rfl, by decide⟩
  rcases yR h with ⟨rfl, rfl⟩ | h
  ·exact ⟨.ref 341, H.gl rfl, 341, rfl, hO H.X rfl rfl rfl, by decide⟩
  rcases yR h with ⟨rfl, rfl⟩ | h
  ·exact zg (.ref 345) (H.gl rfl) (tF H.X _ _ rfl)
  rcases yR h with ⟨rfl, rfl⟩ | h
  ·exact zg (.ref 346) (H.gl rfl) (tF H.X _ _ rfl)
  rcases yR h with ⟨rfl, rfl⟩ | h
  ·exact zg (.ref 347) (H.gl rfl) (tF H.X _ _ rfl)
  refine ze (yW h) fun hf q => ?_
  refine (Option.some.inj q) ▸ ?_
  refine zb (hV (prog := prog) H x (nO hf)) fun fa e F => ?_
  exact ⟨.ref fa, e, fa, rfl, Y1 F⟩
 bi := fun x f h => by
  rcases yR h with ⟨rfl, _⟩ | h
  ·exact H.no rfl
  rcases yR h with ⟨rfl, _⟩ | h
  ·exact H.no rfl
  rcases yR h with ⟨rfl, _⟩ | h
  ·exact H.no rfl
  rcases yR h with ⟨rfl, _⟩ | h
  ·exact H.no rfl
  rcases yR h with ⟨rfl, _⟩ | h
  ·exact H.no rfl
  rcases yR h with ⟨rfl, _⟩ | h
  ·exact H.no rfl
  rcases yR h with ⟨rfl, _⟩ | h
  ·exact H.no rfl
  exact nn h
 bv := ⟨H.blt rfl rfl, H.blt rfl rfl, H.blt rfl rfl, H.blt rfl rfl, H.blt rfl rfl, H.blt rfl rfl, H.blt rfl rfl⟩
theorem qO (H : Hd0 w base mg mb) : Lib (xt prog w base mg mb) (KH w.params) Gb Tb (zj "parse") sY "Exception" "Exception.__new__" "Exception.__init__" [.type "Exception", .type "BaseException", .type "object"] where
 get := (wb _ (YJ H) (YK H) (YL H))
 nw := YN H
 make := YR H
 lexk := YO H
 wd := Y2 H
 nolex := Y0
 err := YT H
 fb := PySem.F.excBase_Exception
 hbase := by rfl
 fns := fun f r fa h1 h2 => by
  unfold Tb at h1
  cases e : zu f tr with
  | false => rw [e] at h1; exact nn h1
  | true =>
   rw [e] at h1
   refine Option.some.inj h1 ▸ ?_
   refine zb (hV (prog := prog) H f (nO e)) fun fa' e' F => ?_
   obtain e' : mg f = some (.ref fa') := e'
   obtain h2 : mg f = some (.ref fa) := h2
   replace e' := (h2 ..) ▸ e'
   cases e'
   exact F
 parse := fun fa h => YS H fa h
end
noncomputable def rf : Str := "_law_parsed"
noncomputable def rh (n : Nat) (args : List V) (σ : St) : Out := match args with
 | [v] => sX σ (vo sY (zj "parse").sc (yC Tb P0 Gb n) Gb yn [v] σ)
 | _ => .bad
noncomputable def P1 (n : Nat) (f : Str) (args : List V) (σ : St) : Option Out := cond (f == rf) (some (match n with
 | n + 7 => rh n args σ
 | _ => .bad)) none
section
variable {prog : Program} {w : World} {base : Heap} {mg mb : Str → Option Value}
set_option tactic.hygienic true in
theorem Y3 (H : Hd0 w base mg mb) (n : Nat) : x5 (xt prog w base mg mb) n (yC Tb P1 Gb n) := by
 refine (qO H).run (fun n _ f args σ out fa h hb hm => ?_) n
 unfold P1 at h
 cases e : f == rf with
 | false => replace h := (e ..) ▸ h; exact nn h
 | true =>
  replace h := (e ..) ▸ h
  obtain rfl := eq_of_beq e
  injection h with h
  obtain q : mg rf = some (.ref 423) := H.gl rfl
  obtain hm : mg rf = some (.ref fa) := hm
  replace q := (hm ..) ▸ q
  cases q
  match n, h with
  | n + 7, h3 =>
   clear h
   have h : rh n args σ = out := h3
   clear h3
   unfold rh at h
   split at h
   ·rename_i v
    refine a7 (qO H) rfl (iQ H.X) rfl rfl rfl rfl (pp := uB [⟨473,15,473,20⟩, ⟨473,21,473,24⟩, ⟨473,15,473,25⟩, ⟨473,8,473,25⟩, ⟨474,11,474,16⟩, ⟨475,15,475,19⟩, ⟨475,8,475,19⟩, ⟨474,4,475,19⟩, ⟨472,4,475,19⟩]) rfl rfl (fun q => ?_) h hb
    subst q
    exact hb h.symm
   ·exact absurd h.symm hb
  | 0, h => exact absurd h.symm hb
  | 1, h => exact absurd h.symm hb
  | 2, h => exact absurd h.symm hb
  | 3, h => exact absurd h.symm hb
  | 4, h => exact absurd h.symm hb
  | 5, h => exact absurd h.symm hb
  | 6, h => exact absurd h.symm hb
noncomputable def rj : Str := "script"
noncomputable def hW (l : List Int) : Prop := xs (yC Tb P1 Gb 600) Gb 100 true (zj "law").sc [(rj, .v (.dat (.list (l.map .int))))] (zj "law").body (fun _ σ => .ok (.dat .none) σ) [] = .ok (.dat (.bool true)) []
theorem Y4 (H : Hd0 w base mg mb) {name : Str} {scope : Scope} {c : Addr} {oc : Obj} {vs : Array Value} {bd : List Stmt} {l : List Int} {as : List Addr} {m : Str → Option Value} {h₁ : Heap} {s : Shared} {Q : Flow → Shared → Prop} {E : Value → Shared → Prop}
  (hbd : bd = (zj "law").body) (hsc : scope.names = (zj "law").sc) (hk : scope.kind = .function) (F : Fr base base.objs.size h₁ m) (hm : m rj = some (.ref a)) (hr : Reads base (.ref a) (.list (l.map .int)) as)
  (hc : base.get? c = some oc) (hcd : oc.data = .fields vs) (hs : s.heap = h₁) (hp : hW l)
  (hQ : ∀ s', s' = { s with heap := s'.heap, toks := s'.toks } → (∀ b o, base.get? b = some o → s'.heap.get? b = some o) → Q (.ret (.bool true)) s') :
  wpAny (model prog w) (callerA.deeper (envOf name scope base.objs.size fa (.ref c))) (execs bd (envOf name scope base.objs.size fa (.ref c))) Q E s := by
 subst hbd hs
 generalize hL : base.objs.size = L at F ⊢
 have baseL : base.get? L = none := by refine (hL ..) ▸ ?_; exact Heap.get?_none_of_le (Nat.le_refl _)
 have hlook : ∀ x, (envOf name scope L fa (.ref c)).kindOf x = zD x (zj "law").sc := fun x => by
  show scope.names.lookup x = _
  rw [hsc, wK]
 have st : base.StaysIn (zc ([L] ++ []) s.heap) := fun b o e => vis_get (F.keep b o e) fun q => by
  replace e := (baseL ..) ▸ (mem_singleton.mp q ..) ▸ e; injection e
 obtain hk2 : (envOf name scope L fa (.ref c)).scope.kind ≠ .module := by show scope.kind ≠ .module; rw [hk]; decide
 obtain liveL : ∃ o, s.heap.get? L = some o := by refine y5 (F.ns) fun o _ _ e _ => ?_; exact ⟨o, e⟩
 obtain hfs : Fs (callerA.deeper (envOf name scope L fa (.ref c))) = [L] := rfl
 obtain S : Sa (xt prog w base mg mb) (callerA.deeper (envOf name scope L fa (.ref c))) (envOf name scope L fa (.ref c)) [L] [] [(rj, .v (.dat (.list (l.map .int))))] [] s.heap := by
  refine ⟨⟨st, fun b hb => ?_, ⟨_, rfl, Heap.FunFrames.cons hk2 rfl F.ns baseL trivial⟩, fun b hb => ?_, fun b hb q => (nomatch q), fun b hb => (nomatch hb), trivial⟩, ⟨hk, rfl, rfl⟩, ⟨_, F.ns⟩, mem_singleton.mpr rfl, fun b hb => (nomatch hb), fun b hb q => (nomatch q), fun x t e => ?_, .inl rfl⟩
  ·refine (mem_singleton.mp hb ..).symm ▸ ?_; exact liveL
  ·rw [hfs] at hb; exact hb
  ·obtain ⟨rfl, rfl⟩ : x = rj ∧ t = .v (.dat (.list (l.map .int))) := by
    dsimp only [zt] at e
    cases q : rj == x with
    | true => replace e := (q ..) ▸ e; refine Option.some.inj e ▸ ?_; exact ⟨(eq_of_beq q).symm, rfl⟩
    | false => replace e := (q ..) ▸ e; exact nn e
   exact ⟨.ref a, .inl ⟨by rw [hlook]; kernel_rfl, _, F.ns, hm⟩, as, Reads.keeps st hr⟩
 refine oM (cx := xt prog w base mg mb) (qO H).wd (qO H).prim (Y3 H 600) ⟨rfl, show 301 + 1 + 600 ≤ 990 by decide, show 4 + 3 + 4 * 600 + 300 ≤ 9900 by decide⟩ 100 true (zj "law").sc (zj "law").body ⟨fun x e => by rw [hlook]; exact e, fun x e => by rw [hlook]; exact e, fun x e => by rw [hlook]; exact e⟩ (fun _ => (uc c oc vs rfl hc hcd))
  _ [L] [] _ [] _ s _ _ hp (by intro q; injection q) S (fun ρ' σ' Mi' s' hK N g S' => by cases hK) (fun x σ' v s' ho N Rv L' => ?_) fun e s' x => by cases x.out
 (injection ho with ho; subst ho)
 obtain ⟨as', Rv⟩ := Rv
 cases Rv
 refine hQ s' N.eq fun b o e => ?_
 have nb : b ≠ L := fun q => by replace e := (baseL ..) ▸ (q ..) ▸ e; injection e
 exact N.kp.at (fun q => by
  refine zh (mem_append.mp q) (fun q => ?_) fun q => ?_
  ·exact nb (mem_singleton.mp q)
  ·exact nomatch q) (F.keep b o e) fun q => by rw [hfs] at q; exact nb (mem_singleton.mp q)
end
end Mine
end
section
open PySem PySem.W PyProof.Rows
set_option maxRecDepth 100000
namespace Mine
noncomputable abbrev rQ := yC Tb P1 Gb
noncomputable def nY (f : Str) (i : Nat) : List Stmt := (sB (bS (zj f).body i)).1
noncomputable def n0 (f : Str) (i : Nat) : Expr := sN 0 (bS (zj f).body i)
noncomputable def za (t : Tk) : PyData := .tuple [.str t.1, t.2]
noncomputable abbrev zw (w : List Tk) : V := .dat (.list (w.map za))
noncomputable def K0 : KR := fun _ σ => .ok (.dat .none) σ
noncomputable def vI (i : Int) : Sl := .v (.dat (.int i))
noncomputable def vD (d : PyData) : Sl := .v (.dat d)
noncomputable def tG : List (Str × PyData) := [("OP_question", .int 0), ("OP_rarrow", .int 1), ("OP_lrarrow", .int 1), ("OP_or", .int 2), ("OP_xor", .int 3), ("OP_and", .int 4)]
noncomputable def wA : List (Str × PyData) := xd.zip (uE.map .str)
noncomputable def rk : List Str := ["LPAREN", "LBRACK"]
noncomputable def rl : List Str := ["RPAREN", "RBRACK"]
noncomputable def Y5 (d : PyData) (k : Int → Out) : Out := opt (uf d) k .bad
noncomputable def Y6 (o : Option PyData) (k : PyData → Out) : Out := opt o k .bad
theorem TD (n : Nat) (σ : St) : rQ (n + 1) "_law_weak" [] σ = .ok (.dct tG) σ := by kernel_rfl
theorem TE (n : Nat) (σ : St) : rQ (n + 1) "_law_words" [] σ = .ok (.dct wA) σ := by kernel_rfl
noncomputable def v0 : zm := (zj "_law_read").sc
noncomputable def wS : PyData → zf → Option zf := zP v0 (n0 "_law_read" 1)
noncomputable def wT (n : Nat) : zf → KR → St → Out := fun ρ KN σ => xs (rQ n) Gb 98 false v0 ρ (nY "_law_read" 1) KN σ
theorem Y7 (n : Nat) (σ : St) : rQ (n + 1) "_law_read" [zw []] σ = onOk (rQ n "_law_single" [zw []] σ) .ok := by kernel_rfl
theorem Y8 (n : Nat) (w : List Tk) (σ : St) : rQ (n + 1) "_law_read" [zw w] σ = chk (zi (w.map za).length) (forK wS (wT n) (yT 0 (w.map za)) [("row", .v (zw w)), ("depth", vI 0), ("weakest", vI 9), ("at", vI (-1))]
  (fun ρ σ => xs (rQ n) Gb 98 true v0 ρ ((zj "_law_read").body.drop 2) K0 σ) σ) := by kernel_rfl
theorem Y9 (n : Nat) (w : List Tk) (i : Nat) (t : Tk) (r : List PyData) (KN : KR) (σ : St) : forK wS (wT (n + 1)) (.tuple [.int i, za t] :: r) [("row", .v (zw w)), ("depth", vI 0), ("weakest", vI 9), ("at", vI (-1))] KN σ =
  forK wS (wT (n + 1)) (.tuple [.int i, za t] :: r) [("row", .v (zw w)), ("depth", vI 0), ("weakest", vI 9), ("at", vI (-1)), ("place", vI 0), ("token", vI 0)] KN σ := by kernel_rfl
noncomputable abbrev v5 (w : List Tk) (d wk a : Int) (p tk : PyData) : zf := [("row", .v (zw w)), ("depth", vI d), ("weakest", vI wk), ("at", vI a), ("place", vD p), ("token", vD tk)]
theorem Xa (n : Nat) (w : List Tk) (i : Nat) (t : Tk) (r : List PyData) (d wk a : Int) (p tk : PyData) (KN : KR) (σ : St) : forK wS (wT (n + 1)) (.tuple [.int i, za t] :: r) (v5 w d wk a p tk) KN σ =
  cond (zu t.1 rk) (forK wS (wT (n + 1)) r (v5 w (d + 1) wk a (.int i) (za t)) KN σ)
  (cond (zu t.1 rl) (forK wS (wT (n + 1)) r (v5 w (d - 1) wk a (.int i) (za t)) KN σ)
  (cond (decide (d = 0)) (Y5 ((zG t.1 tG).getD (.int 9)) fun x => cond (decide (x < wk)) (Y6 (zG t.1 tG) fun y => forK wS (wT (n + 1)) r [("row", .v (zw w)), ("depth", vI d), ("weakest", vD y), ("at", vI i), ("place", vI i), ("token", vD (za t))] KN σ)
    (forK wS (wT (n + 1)) r (v5 w d wk a (.int i) (za t)) KN σ))
   (forK wS (wT (n + 1)) r (v5 w d wk a (.int i) (za t)) KN σ))) := by kernel_rfl
noncomputable def ma : List (Str × PyData) := [("OP_rarrow", .str "implies"), ("OP_lrarrow", .str "equal"), ("OP_or", .str "or"), ("OP_xor", .str "xor"), ("OP_and", .str "and")]
noncomputable abbrev hY (n : Nat) (ρ : zf) (σ : St) : Out := xs (rQ n) Gb 98 true v0 ρ ((zj "_law_read").body.drop 2) K0 σ
noncomputable def zy (σ : St) : Out := .ok (.dat .none) σ
noncomputable def xT : PyData → zf → Option zf := zP v0 (n0 "_law_read" 6)
noncomputable def xU (n : Nat) : zf → KR → St → Out := fun ρ KN σ => xs (rQ n) Gb 93 false v0 ρ (nY "_law_read" 6) KN σ
noncomputable abbrev x7 (w rest : List PyData) (d wk a o : Int) (p tk f : PyData) : zf := [("row", .v (.dat (.list w))), ("depth", vI d), ("weakest", vI wk), ("at", vI a), ("place", vD p), ("token", vD tk), ("first", vD f), ("rest", .v (.dat (.list rest))), ("open_ones", vI o)]
noncomputable def mi (n : Nat) (w : List PyData) (a : Int) (f : PyData) (rest : List PyData) (σ : St) : Out := onOk (rQ n "_law_read" [.dat (.list rest)] σ) fun s σ => cond (isNone (.dat f)) (zy σ) (cond (isNone s) (zy σ)
 (indexK (.dat (.list w)) (.dat (.int a)) (fun x σ => indexK x (.dat (.int 0)) (fun y σ => indexK (.dct ma) y (fun nm σ => zv nm fun nm => zv s fun s => .ok (.dat (.tuple [nm, f, s])) σ) σ) σ) σ))
theorem Xb (n : Nat) (w : List PyData) (d wk a : Int) (p tk : PyData) (σ : St) : hY n [("row", .v (.dat (.list w))), ("depth", vI d), ("weakest", vI wk), ("at", vI a), ("place", vD p), ("token", vD tk)] σ = cond (decide (a < 0)) (onOk (rQ n "_law_single" [.dat (.list w)] σ) .ok)
  (chk (z0 a) (chk (zi w.length) (onOk (rQ n "_law_read" [.dat (.list (zk w none (some a)))] σ) fun f σ => zv f fun f => chk (z0 (a + 1)) (chk (zi w.length) (
   cond (decide (0 < wk)) (mi n w a f (zk w (some (a + 1)) none) σ)
    (chk (zi (zk w (some (a + 1)) none).length) (forK xT (xU n) (yT 0 (zk w (some (a + 1)) none)) (x7 w (zk w (some (a + 1)) none) 0 wk a 0 p tk f) (fun _ σ => zy σ) σ))))))) := by kernel_rfl
noncomputable def onB (o : Out) (k : V → St → Out) : Out := match o with
 | .ok v σ => k v σ
 | .err => .bad
 | .bad => .bad
noncomputable def rm (n : Nat) (f : PyData) (rest : List PyData) (i : Int) (σ : St) : Out := chk (z0 i) (chk (zi rest.length) (onB (rQ n "_law_read" [.dat (.list (zk rest none (some i)))] σ) fun s σ => zv s fun s => chk (z0 (i + 1)) (chk (zi rest.length) (
 onB (rQ n "_law_read" [.dat (.list (zk rest (some (i + 1)) none))] σ) fun t σ => zv t fun t =>
  cond (isNone (.dat f)) (zy σ) (cond (isNone (.dat s)) (zy σ) (cond (isNone (.dat t)) (zy σ) (.ok (.dat (.tuple [.str "ite", f, s, t])) σ)))))))
theorem Xc (n : Nat) (w rest : List PyData) (i : Int) (t : Tk) (r : List PyData) (d wk a o : Int) (p tk f : PyData) (KN : KR) (σ : St) : forK xT (xU n) (.tuple [.int i, za t] :: r) (x7 w rest d wk a o p tk f) KN σ =
  cond (zu t.1 rk) (forK xT (xU n) r (x7 w rest (d + 1) wk a o (.int i) (za t) f) KN σ)
  (cond (zu t.1 rl) (forK xT (xU n) r (x7 w rest (d - 1) wk a o (.int i) (za t) f) KN σ)
  (cond (decide (d = 0)) (cond (t.1 == "OP_question") (forK xT (xU n) r (x7 w rest d wk a (o + 1) (.int i) (za t) f) KN σ)
    (cond (decide (d = 0)) (cond (t.1 == "OP_colon") (cond (decide (o = 0)) (rm n f rest i σ) (forK xT (xU n) r (x7 w rest d wk a (o - 1) (.int i) (za t) f) KN σ))
     (forK xT (xU n) r (x7 w rest d wk a o (.int i) (za t) f) KN σ)) (forK xT (xU n) r (x7 w rest d wk a o (.int i) (za t) f) KN σ)))
   (cond (decide (d = 0)) (cond (t.1 == "OP_colon") (cond (decide (o = 0)) (rm n f rest i σ) (forK xT (xU n) r (x7 w rest d wk a (o - 1) (.int i) (za t) f) KN σ))
     (forK xT (xU n) r (x7 w rest d wk a o (.int i) (za t) f) KN σ)) (forK xT (xU n) r (x7 w rest d wk a o (.int i) (za t) f) KN σ)))) := by kernel_rfl
end Mine
end
section
open PySem PySem.W PyProof.Rows
set_option maxRecDepth 20000
namespace Mine
variable {md p t u v x : PyData} {r row w : List Tk} {K : KV} {σ : St} {kd nm s sp : Str} {d k lev m n : Nat} {ss : List (List Tk)} {L P ps ts us : List PyData} {a e h i num op : Int} {hi lo : Option Int} {tk : Tk} {ls : List Int}
noncomputable def ya : zm := (zj "_law_single").sc
noncomputable def qP (f : Str) (i : Nat) : List Stmt := (sB (bS (zj f).body i)).1
noncomputable def wU : List (Str × PyData) := [("KW_ite", .tuple [dS "ite", .int 3]), ("KW_implies", .tuple [dS "implies", .int 2]), ("KW_not", .tuple [dS "not", .int 1])]
noncomputable abbrev sg (n k i : Nat) (t : Tk) (r : List Tk) (σ : St) : Out := xs (rQ n) Gb k true ya [("row", .v (zw (t :: r))), ("kind", vD (.str t.1)), ("value", vD t.2)] (qP "_law_single" i) (fun ρ σ => xs (rQ n) Gb k true ya ρ ((zj "_law_single").body.drop (i + 1)) K0 σ) σ
noncomputable def sh (w : List Tk) : Bool := SeqAt.shaped (.list (w.map za)) && SeqAt.shaped (.list [])
theorem gb (n : Nat) (σ : St) : rQ (n + 1) "_law_single" [zw []] σ = zy σ := by kernel_rfl
theorem tH (n : Nat) (t : Tk) (r : List Tk) (σ : St) : rQ (n + 2) "_law_single" [zw (t :: r)] σ = chk (sh (t :: r)) (
  cond (t.1 == "OP_not") (sg (n + 1) 97 2 t r σ) (cond (t.1 == "LPAREN") (sg (n + 1) 96 3 t r σ) (cond (zG t.1 wA).isSome (sg (n + 1) 95 4 t r σ) (cond (zG t.1 wU).isSome (sg (n + 1) 95 4 t r σ)
   (cond (t.1 == "NameToken") (sg (n + 1) 94 5 t r σ) (cond (t.1 == "IntegerToken") (zK (zw (t :: r)) (fun v σ => zX .Eq v (.dat (.int 1)) (fun c σ => cond c (vH (.dat t.2) (.dat (.tuple [.int 0, .int 1])) (fun c σ => cond c (.ok (.dat (.tuple [.str "const", t.2])) σ) (zy σ)) σ) (zy σ)) σ) σ) (zy σ))))))) := by kernel_rfl
theorem Xd (n : Nat) (t : Tk) (r : List Tk) (σ : St) : sg n 97 2 t r σ = chk (zi ((t :: r).map za).length) (onOk (rQ n "_law_single" [.dat (.list (zk ((t :: r).map za) (some 1) none))] σ) fun x σ => cond (isNone x) (zy σ) (zv x fun x => .ok (.dat (.tuple [.str "not", x])) σ)) := by kernel_rfl
noncomputable def qQ (v : V) (k : List PyData → Out) : Out := xN v k
noncomputable def iV (i : Int) : V := .dat (.int i)
noncomputable def sV (s : Str) : V := .dat (.str s)
theorem Xe (n : Nat) (t : Tk) (r : List Tk) (σ : St) : sg n 96 3 t r σ = zK (zw (t :: r)) (fun v σ => zX .Gt v (iV 1) (fun c σ => cond c
  (indexK (zw (t :: r)) (iV (-1)) (fun x σ => indexK x (iV 0) (fun y σ => zX .Eq y (sV "RPAREN") (fun c σ => cond c (chk (zi ((t :: r).map za).length) (onOk (rQ n "_law_read" [.dat (.list (zk ((t :: r).map za) (some 1) (some (-1))))] σ) .ok)) (zy σ)) σ) σ) σ) (zy σ)) σ) σ := by kernel_rfl
noncomputable def tJ : List Stmt := qP "_law_single" 4
noncomputable def xu : Expr := eN 0 (sN 0 (bS tJ 1))
noncomputable def xw : Expr := eN 0 (sN 0 (bS tJ 2))
theorem TF : tJ.length = 6 := by kernel_rfl
noncomputable abbrev xx (t : Tk) (r : List Tk) : zf := [("row", .v (zw (t :: r))), ("kind", vD (.str t.1)), ("value", vD t.2)]
noncomputable abbrev wl (n : Nat) (t : Tk) (r : List Tk) (ps : List PyData) (σ : St) : Out := xs (rQ n) Gb 93 true ya [("row", .v (zw (t :: r))), ("kind", vD (.str t.1)), ("value", vD t.2), ("parts", .v (.dat (.list ps)))] (tJ.drop 2) (fun ρ σ => xs (rQ n) Gb 95 true ya ρ ((zj "_law_single").body.drop 5) K0 σ) σ
noncomputable abbrev mj (n : Nat) (t : Tk) (r : List Tk) (σ : St) : Out := xs (rQ n) Gb 94 true ya (xx t r) (tJ.drop 1) (fun ρ σ => xs (rQ n) Gb 95 true ya ρ ((zj "_law_single").body.drop 5) K0 σ) σ
noncomputable def uK (n : Nat) (ρ : zf) (K : Bool → St → Out) (σ : St) : Out := ev (rQ n) Gb 91 true ya ρ xw (fun v => xD .any [v] (fun v σ => vc v K σ)) σ
noncomputable def vv (nm : Str) (ps : List PyData) (σ : St) : Out := chk (zi (1 + ps.length)) (chk (zi ([PyData.str nm] ++ ps).length) (.ok (.dat (.tuple ([PyData.str nm] ++ ps))) σ))
noncomputable abbrev wB (t : Tk) (r : List Tk) (ps : List PyData) : zf := [("row", .v (zw (t :: r))), ("kind", vD (.str t.1)), ("value", vD t.2), ("parts", .v (.dat (.list ps)))]
noncomputable def ml : Expr := sN 0 (bS tJ 0)
theorem Xf (n : Nat) (t : Tk) (r : List Tk) (σ : St) : sg n 95 4 t r σ = tv (ev (rQ n) Gb 94 true ya (xx t r)) 94 ml (fun c σ => cond c (zy σ) (mj n t r σ)) σ := by kernel_rfl
theorem Xg (n : Nat) (t : Tk) (r : List Tk) (K : Bool → St → Out) (σ : St) : tv (ev (rQ n) Gb 94 true ya (xx t r)) 94 ml K σ = zK (zw (t :: r)) (fun v σ => zX .Lt v (iV 3) (fun c σ => cond c (K true σ)
  (indexK (zw (t :: r)) (iV 1) (fun x σ => indexK x (iV 0) (fun y σ => zX .NotEq y (sV "LPAREN") (fun c σ => cond c (K true σ)
   (indexK (zw (t :: r)) (iV (-1)) (fun x σ => indexK x (iV 0) (fun y σ => zX .NotEq y (sV "RPAREN") (fun c σ => cond c (K true σ) (K false σ)) σ) σ) σ)) σ) σ) σ)) σ) σ := by kernel_rfl
theorem Xh (n : Nat) (t : Tk) (r : List Tk) (σ : St) : mj n t r σ = zK (zw (t :: r)) (fun v σ => zX .Gt v (iV 3) (fun c σ => cond c
  (ev (rQ n) Gb 92 true ya (xx t r) xu (fun v σ => qQ v fun ds => wl n t r ds σ) σ)
  (wl n t r [] σ)) σ) σ := by kernel_rfl
theorem Xi (n : Nat) (v : PyData) (r : List Tk) (ps : List PyData) (σ : St) : wl (n + 1) ("KW_ite", v) r ps σ = uK (n + 1) (wB ("KW_ite", v) r ps) (fun b σ => cond b (zy σ) (zK (.dat (.list ps)) (fun c σ => zX .Eq c (iV 3) (fun b σ => cond b (vv "ite" ps σ) (zy σ)) σ) σ)) σ := by kernel_rfl
theorem Xj (n : Nat) (v : PyData) (r : List Tk) (ps : List PyData) (σ : St) : wl (n + 1) ("KW_implies", v) r ps σ = uK (n + 1) (wB ("KW_implies", v) r ps) (fun b σ => cond b (zy σ) (zK (.dat (.list ps)) (fun c σ => zX .Eq c (iV 2) (fun b σ => cond b (vv "implies" ps σ) (zy σ)) σ) σ)) σ := by kernel_rfl
theorem Xk (n : Nat) (v : PyData) (r : List Tk) (ps : List PyData) (σ : St) : wl (n + 1) ("KW_not", v) r ps σ = uK (n + 1) (wB ("KW_not", v) r ps) (fun b σ => cond b (zy σ) (zK (.dat (.list ps)) (fun c σ => zX .Eq c (iV 1) (fun b σ => cond b (vv "not" ps σ) (zy σ)) σ) σ)) σ := by kernel_rfl
theorem TG (C : Str → List V → St → Out) (k : Nat) (er : Bool) (sc : zm) (ρ : zf) (scA : Scope) (tgt elt : Expr) (f : Str) (args : List Expr) (K : KV) (σ : St) (p p1 p2 : Pos) (hf : xZ f = none) :
  ev C Gb (k + 1) er sc ρ (.ListComp elt [⟨tgt, .Call (.Name f p) args [] p1, [], 0⟩] scA p2) K σ = chk (xC scA.kind && yF sc ρ scA.names scA.names) (ev C Gb k er sc ρ (.Call (.Name f p) args [] p1) (fun v σ => qQ v fun l => chk (zi l.length)
   (compK (fun x => zP scA.names tgt x (y6 scA.names ρ)) (fun _ K σ => K true σ) (fun ρ' => ev C Gb k false scA.names ρ' elt) l (fun ds => K (cond (xP elt tgt) (.kin ds) (.dat (.list ds)))) σ)) σ) := by
 show chk (xC scA.kind && yF sc ρ scA.names scA.names) (opt ((xZ f).map (fun b => ((f, args), b))) _ (u4 _ _ _ _)) = _
 rw [hf]
 rfl
theorem TH (C : Str → List V → St → Out) (k : Nat) (er : Bool) (sc : zm) (ρ : zf) (scA : Scope) (tgt elt : Expr) (x : Str) (K : KV) (σ : St) (p p2 : Pos) :
  ev C Gb (k + 1) er sc ρ (.ListComp elt [⟨tgt, .Name x p, [], 0⟩] scA p2) K σ = chk (xC scA.kind && yF sc ρ scA.names scA.names) (ev C Gb k er sc ρ (.Name x p) (fun v σ => qQ v fun l => chk (zi l.length)
   (compK (fun x => zP scA.names tgt x (y6 scA.names ρ)) (fun _ K σ => K true σ) (fun ρ' => ev C Gb k false scA.names ρ' elt) l (fun ds => K (cond (xP elt tgt) (.kin ds) (.dat (.list ds)))) σ)) σ) := rfl
noncomputable def cB (e : Expr) (ρ : zf) (x : PyData) : Option zf := zP (y7 e) (xp e) x (y6 (y7 e) ρ)
noncomputable def cT (n k : Nat) (e : Expr) (ρ' : zf) : (Bool → St → Out) → St → Out := uj (tv (ev (rQ n) Gb k false (y7 e) ρ') k) (a8 e)
noncomputable def cE (n k : Nat) (e : Expr) (ρ' : zf) : KV → St → Out := ev (rQ n) Gb k false (y7 e) ρ' (vp e)
theorem tK (n k : Nat) (er : Bool) (sc : zm) (ρ : zf) (e : Expr) (K : KV) (σ : St) (h : vW e = true) (h2 : (xC (uG e) && yF sc ρ (y7 e) (y7 e)) = true) : ev (rQ n) Gb (k + 1) er sc ρ e K σ =
  src (ev (rQ n) Gb k er sc ρ) (yB sc ρ) (yK (xp e)) (uF e) (fun items => compK (cB e ρ) (cT n k e) (cE n k e) items (fun ds => K (cond (xP (vp e) (xp e)) (.kin ds) (.dat (.list ds))))) σ := by
 refine yJ (a9 h) fun elt g s p e1 e2 => ?_
 rw [e1] at h2 ⊢
 show chk (true && decide (g.is_async = 0) && (xC s.kind && yF sc ρ s.names s.names)) _ = _
 rw [e2, show (xC s.kind && yF sc ρ s.names s.names) = true from h2]
 rfl
theorem tL {B : PyData → Option zf} {T : zf → (Bool → St → Out) → St → Out} {E : zf → KV → St → Out} {r : List PyData} {K : List PyData → St → Out} {ρ : zf} (h : B x = some ρ) :
  compK B T E (x :: r) K σ = T ρ (fun b σ => cond b (E ρ (fun v σ => yw v fun d => compK B T E r (fun ds => K (d :: ds)) σ) σ) (compK B T E r K σ)) σ := by
 show opt (B x) _ _ = _
 rw [h]
 rfl
theorem Xl : vW xu = true := by kernel_rfl
theorem Xm (t : Tk) (r : List Tk) : (xC (uG xu) && yF ya (xx t r) (y7 xu) (y7 xu)) = true := by kernel_rfl
theorem Xn (n : Nat) (t : Tk) (r : List Tk) (K : List PyData → St → Out) (σ : St) : src (ev (rQ n) Gb 91 true ya (xx t r)) (yB ya (xx t r)) (yK (xp xu)) (uF xu) K σ =
  chk (zi ((t :: r).map za).length) (onOk (rQ n "_law_cut" [.dat (.list (zk ((t :: r).map za) (some 2) (some (-1)))), sV "COMMA"] σ) fun v σ => qQ v fun l => chk (zi l.length) (K l σ)) := by kernel_rfl
theorem Xo : xP (vp xu) (xp xu) = false := by kernel_rfl
theorem Xp (t : Tk) (r : List Tk) (x : PyData) : cB xu (xx t r) x = some ([("part", vD x)] : zf) := by kernel_rfl
theorem Xq (n : Nat) (ρ : zf) (K : Bool → St → Out) (σ : St) : cT n 91 xu ρ K σ = K true σ := by kernel_rfl
theorem Xr (n : Nat) (x : PyData) (K : KV) (σ : St) : cE n 91 xu [("part", vD x)] K σ = onB (rQ n "_law_read" [.dat x] σ) K := by kernel_rfl
theorem Xs : vW xw = true := by kernel_rfl
theorem Xu (t : Tk) (r : List Tk) (ps : List PyData) : (xC (uG xw) && yF ya (wB t r ps) (y7 xw) (y7 xw)) = true := by kernel_rfl
theorem Xv (n : Nat) (t : Tk) (r : List Tk) (ps : List PyData) (K : List PyData → St → Out) (σ : St) : src (ev (rQ n) Gb 90 true ya (wB t r ps)) (yB ya (wB t r ps)) (yK (xp xw)) (uF xw) K σ = chk (zi ps.length) (K ps σ) := by kernel_rfl
theorem Xw : xP (vp xw) (xp xw) = false := by kernel_rfl
theorem Xx (t : Tk) (r : List Tk) (ps : List PyData) (x : PyData) : cB xw (wB t r ps) x = some ([("part", vD x)] : zf) := by kernel_rfl
theorem Xy (n : Nat) (ρ : zf) (K : Bool → St → Out) (σ : St) : cT n 90 xw ρ K σ = K true σ := by kernel_rfl
theorem Xz (n : Nat) (x : PyData) (K : KV) (σ : St) : cE n 90 xw [("part", vD x)] K σ = K (.dat (.bool (isNone (.dat x)))) σ := by kernel_rfl
noncomputable def uL : List Stmt := qP "_law_single" 5
theorem TI : uL.length = 5 := by kernel_rfl
noncomputable def xz : Expr := sN 0 (bS uL 0)
noncomputable abbrev qR (n : Nat) : KR := fun ρ σ => xs (rQ n) Gb 94 true ya ρ ((zj "_law_single").body.drop 6) K0 σ
noncomputable abbrev mn (t : Tk) (r : List Tk) (ks : List PyData) : zf := [("row", .v (zw (t :: r))), ("kind", vD (.str t.1)), ("value", vD t.2), ("kinds", .v (.kin ks))]
noncomputable abbrev gd (n : Nat) (t : Tk) (r : List Tk) (ks : List PyData) (σ : St) : Out := xs (rQ n) Gb 93 true ya (mn t r ks) (uL.drop 1) (qR n) σ
noncomputable def TJ (v : V) (k : List PyData → Out) : Out := match v with
 | .kin l => k l
 | _ => .bad
theorem XA (n : Nat) (t : Tk) (r : List Tk) (σ : St) : sg n 94 5 t r σ = ev (rQ n) Gb 93 true ya (xx t r) xz (fun v σ => xs (rQ n) Gb 93 true ya [("row", .v (zw (t :: r))), ("kind", vD (.str t.1)), ("value", vD t.2), ("kinds", .v v)] (uL.drop 1) (qR n) σ) σ := by kernel_rfl
theorem XB : vW xz = true := by kernel_rfl
theorem XC (t : Tk) (r : List Tk) : (xC (uG xz) && yF ya (xx t r) (y7 xz) (y7 xz)) = true := by kernel_rfl
theorem XD (n : Nat) (t : Tk) (r : List Tk) (K : List PyData → St → Out) (σ : St) : src (ev (rQ n) Gb 92 true ya (xx t r)) (yB ya (xx t r)) (yK (xp xz)) (uF xz) K σ = chk (zi ((t :: r).map za).length) (K ((t :: r).map za) σ) := by kernel_rfl
theorem XE : xP (vp xz) (xp xz) = true := by kernel_rfl
theorem XF (t : Tk) (r : List Tk) (x : PyData) : cB xz (xx t r) x = some ([("token", vD x)] : zf) := by kernel_rfl
theorem XG (n : Nat) (ρ : zf) (K : Bool → St → Out) (σ : St) : cT n 92 xz ρ K σ = K true σ := by kernel_rfl
theorem XH (n : Nat) (x : Tk) (K : KV) (σ : St) : cE n 92 xz [("token", vD (za x))] K σ = K (.dat (.str x.1)) σ := by kernel_rfl
noncomputable abbrev gf (n : Nat) (t : Tk) (r : List Tk) (ks : List PyData) (a : V) (σ : St) : Out := xs (rQ n) Gb 92 true ya [("row", .v (zw (t :: r))), ("kind", vD (.str t.1)), ("value", vD t.2), ("kinds", .v (.kin ks)), ("at", .v a)] (uL.drop 2) (qR n) σ
noncomputable def gh : Expr := sN 0 (bS uL 1)
theorem XI (n : Nat) (t : Tk) (r : List Tk) (ks : List PyData) (σ : St) : gd n t r ks σ = ev (rQ n) Gb 92 true ya (mn t r ks) gh (fun v σ => gf n t r ks v σ) σ := by kernel_rfl
theorem XJ (n : Nat) (t : Tk) (r : List Tk) (ks : List PyData) (K : KV) (σ : St) : ev (rQ n) Gb 92 true ya (mn t r ks) gh K σ = vH (sV "LBRACK") (.kin ks) (fun c σ => cond c (uk (.kin ks) xY [sV "LBRACK"] K σ) (zK (zw (t :: r)) K σ)) σ := by kernel_rfl
noncomputable abbrev qS (n : Nat) (t : Tk) (r : List Tk) (ks : List PyData) (a : Int) (nm : PyData) (σ : St) : Out := xs (rQ n) Gb 91 true ya [("row", .v (zw (t :: r))), ("kind", vD (.str t.1)), ("value", vD t.2), ("kinds", .v (.kin ks)), ("at", vI a), ("names", vD nm), ("indices", vD (.tuple []))] (uL.drop 3) (qR n) σ
theorem gj (n : Nat) (t : Tk) (r : List Tk) (ks : List PyData) (a : Int) (σ : St) : gf n t r ks (iV a) σ = chk (z0 a) (chk (zi ((t :: r).map za).length) (onOk (rQ n "_law_every_other" [.dat (.list (zk ((t :: r).map za) none (some a))), sV "NameToken", sV "DOT"] σ) fun nm σ => zv nm fun nm => qS n t r ks a nm σ)) := by kernel_rfl
noncomputable def XM (d : PyData) (K : PyData → Out) : Out := opt (vG d) (fun l => chk (zi l.length) (K (.tuple l.reverse))) .bad
noncomputable def uM (nm : PyData) (ix : V) (σ : St) : Out := cond (isNone (.dat nm)) (zy σ) (cond (isNone ix) (zy σ) (XM nm fun rv => zv ix fun ix => .ok (.dat (.tuple [.str "var", rv, ix])) σ))
theorem gm (n : Nat) (t : Tk) (r : List Tk) (ks : List PyData) (a : Int) (nm : PyData) (σ : St) : qS n t r ks a nm σ = zK (zw (t :: r)) (fun v σ => zX .Lt (iV a) v (fun c σ => cond c
  (indexK (.kin ks) (iV (-1)) (fun x σ => zX .Eq x (sV "RBRACK") (fun c σ => cond c
   (chk (z0 (a + 1)) (chk (zi ((t :: r).map za).length) (onOk (rQ n "_law_every_other" [.dat (.list (zk ((t :: r).map za) (some (a + 1)) (some (-1)))), sV "IntegerToken", sV "COMMA"] σ) fun ix σ => uM nm ix σ)))
   (uM nm (.dat .none) σ)) σ) σ) (uM nm (.dat (.tuple [])) σ)) σ) σ := by kernel_rfl
noncomputable def uN : zm := (zj "_law_cut").sc
noncomputable def wV : PyData → zf → Option zf := zP uN (n0 "_law_cut" 1)
noncomputable def wW (n : Nat) : zf → KR → St → Out := fun ρ KN σ => xs (rQ n) Gb 98 false uN ρ (nY "_law_cut" 1) KN σ
noncomputable abbrev wm (l : List PyData) (kd : Str) (P : List (List PyData)) (d : Int) (tk : PyData) : zf := [("row", .v (.dat (.list l))), ("kind", vD (.str kd)), ("parts", .own2 P), ("depth", vI d), ("token", vD tk)]
theorem XN (n : Nat) (l : List PyData) (kd : Str) (σ : St) : rQ (n + 1) "_law_cut" [.dat (.list l), sV kd] σ = chk (zi l.length) (forK wV (wW n) l [("row", .v (.dat (.list l))), ("kind", vD (.str kd)), ("parts", .own2 [[]]), ("depth", vI 0)]
  (fun ρ σ => xs (rQ n) Gb 98 true uN ρ ((zj "_law_cut").body.drop 2) K0 σ) σ) := by kernel_rfl
theorem XO (n : Nat) (l : List PyData) (kd : Str) (t : Tk) (r : List PyData) (KN : KR) (σ : St) : forK wV (wW n) (za t :: r) [("row", .v (.dat (.list l))), ("kind", vD (.str kd)), ("parts", .own2 [[]]), ("depth", vI 0)] KN σ = forK wV (wW n) (za t :: r) (wm l kd [[]] 0 .none) KN σ := by kernel_rfl
theorem XQ (n : Nat) (l : List PyData) (kd : Str) (P : List (List PyData)) (d : Int) (tk : PyData) (σ : St) : xs (rQ n) Gb 98 true uN (wm l kd P d tk) ((zj "_law_cut").body.drop 2) K0 σ = .ok (.dat (.list (P.map .list))) σ := by kernel_rfl
theorem XR (n : Nat) (l : List PyData) (kd : Str) (σ : St) : xs (rQ n) Gb 98 true uN [("row", .v (.dat (.list l))), ("kind", vD (.str kd)), ("parts", .own2 [[]]), ("depth", vI 0)] ((zj "_law_cut").body.drop 2) K0 σ = .ok (.dat (.list [.list []])) σ := by kernel_rfl
noncomputable def rn (n : Nat) (l : List PyData) (kd : Str) (P : List (List PyData)) (d : Int) (t : Tk) (r : List PyData) (KN : KR) (σ : St) : Out := chk (!P.isEmpty) (opt (vN (za t) P) (fun P' => chk (zi (P'.getLastD []).length && zi P.length && true) (forK wV (wW n) r (wm l kd P' d (za t)) KN σ)) .bad)
noncomputable def ro (n : Nat) (l : List PyData) (kd : Str) (P : List (List PyData)) (d : Int) (t : Tk) (r : List PyData) (KN : KR) (σ : St) : Out := cond (decide (d = 0)) (cond (t.1 == kd) (chk (zi P.length && true) (forK wV (wW n) r (wm l kd (P ++ [[]]) d (za t)) KN σ))
 (rn n l kd P d t r KN σ)) (rn n l kd P d t r KN σ)
theorem XS (n : Nat) (l : List PyData) (kd : Str) (P : List (List PyData)) (d : Int) (tk : PyData) (t : Tk) (r : List PyData) (KN : KR) (σ : St) : forK wV (wW n) (za t :: r) (wm l kd P d tk) KN σ =
  cond (zu t.1 rk) (ro n l kd P (d + 1) t r KN σ) (cond (zu t.1 rl) (ro n l kd P (d - 1) t r KN σ) (ro n l kd P d t r KN σ)) := by kernel_rfl
noncomputable def yo : zm := (zj "_law_every_other").sc
noncomputable abbrev yu (l : List PyData) (kd sp : Str) : zf := [("row", .v (.dat (.list l))), ("kind", vD (.str kd)), ("between", vD (.str sp))]
noncomputable def xf : Expr := eN 0 (eN 1 (sN 0 (bS (zj "_law_every_other").body 0)))
noncomputable def xA : Expr := eN 0 (sN 0 (bS (zj "_law_every_other").body 1))
noncomputable def qT (n : Nat) (l : List PyData) (kd sp : Str) (σ : St) : Out := ev (rQ n) Gb 97 true yo (yu l kd sp) xA (fun v => xD .tuple [v] .ok) σ
noncomputable def qU : Expr := eN 0 (sN 0 (bS (zj "_law_every_other").body 0))
noncomputable def gp : Expr := eN 1 (sN 0 (bS (zj "_law_every_other").body 0))
noncomputable def gq : Expr := sN 0 (bS (zj "_law_every_other").body 0)
theorem XT (n : Nat) (l : List PyData) (kd sp : Str) (K : KV) (σ : St) : ev (rQ n) Gb 99 true yo (yu l kd sp) qU K σ = zK (.dat (.list l)) (fun v σ => zl .Mod v (iV 2) (fun m σ => zX .Eq m (iV 0) (fun c σ => K (.dat (.bool c)) σ) σ) σ) σ := by kernel_rfl
theorem TK (n : Nat) (l : List PyData) (kd sp : Str) (K : Bool → St → Out) (σ : St) : tv (ev (rQ n) Gb 99 true yo (yu l kd sp)) 98 gp K σ = ev (rQ n) Gb 98 true yo (yu l kd sp) xf (fun v => xD .any [v] (fun v σ => vc v K σ)) σ := by kernel_rfl
theorem XU (n : Nat) (l : List PyData) (kd sp : Str) (K : Bool → St → Out) (σ : St) : tv (ev (rQ n) Gb 99 true yo (yu l kd sp)) 99 gq K σ = tv (ev (rQ n) Gb 99 true yo (yu l kd sp)) 98 qU (fun b σ => cond b (K true σ) (tv (ev (rQ n) Gb 99 true yo (yu l kd sp)) 98 gp (fun b σ => cond b (K true σ) (K false σ)) σ)) σ := rfl
theorem XV (n : Nat) (l : List PyData) (kd sp : Str) (K : Bool → St → Out) (σ : St) : tv (ev (rQ n) Gb 99 true yo (yu l kd sp)) 98 qU K σ = ev (rQ n) Gb 99 true yo (yu l kd sp) qU (fun v σ => match v with | .dat (.bool b) => K b σ | _ => .bad) σ := rfl
theorem XW (n : Nat) (l : List PyData) (kd sp : Str) (σ : St) : rQ (n + 1) "_law_every_other" [.dat (.list l), sV kd, sV sp] σ = xs (rQ n) Gb 100 true yo (yu l kd sp) (zj "_law_every_other").body K0 σ := by kernel_rfl
noncomputable def rq : List Stmt := (zj "_law_every_other").body.drop 1
noncomputable def mo : List Stmt := qP "_law_every_other" 0
noncomputable def XX : Pos := (bS (zj "_law_every_other").body 0).pos
theorem XY : (zj "_law_every_other").body = .If gq mo [] XX :: rq := by kernel_rfl
theorem tO (C : Str → List V → St → Out) (k : Nat) (er : Bool) (sc : zm) (ρ : zf) (t : Expr) (b o : List Stmt) (p : Pos) (rest : List Stmt) (KN : KR) (σ : St) : xs C Gb (k + 1) er sc ρ (.If t b o p :: rest) KN σ =
  tv (ev C Gb k er sc ρ) k t (fun c σ => cond c (xs C Gb k er sc ρ b (fun ρ' => xs C Gb k er sc ρ' rest KN) σ) (xs C Gb k er sc ρ o (fun ρ' => xs C Gb k er sc ρ' rest KN) σ)) σ := rfl
theorem XZ (n : Nat) (l : List PyData) (kd sp : Str) (KN : KR) (σ : St) : xs (rQ n) Gb 99 true yo (yu l kd sp) mo KN σ = zy σ := by kernel_rfl
theorem X0 (n : Nat) (l : List PyData) (kd sp : Str) (KN : KR) (σ : St) : xs (rQ n) Gb 99 true yo (yu l kd sp) rq KN σ = qT n l kd sp σ := by kernel_rfl
theorem X1 (n : Nat) (l : List PyData) (kd sp : Str) (σ : St) : rQ (n + 1) "_law_every_other" [.dat (.list l), sV kd, sV sp] σ = zK (.dat (.list l)) (fun v σ => zl .Mod v (iV 2) (fun m σ => zX .Eq m (iV 0) (fun c σ => cond c (zy σ)
  (ev (rQ n) Gb 98 true yo (yu l kd sp) xf (fun v => xD .any [v] (fun v σ => vc v (fun b σ => cond b (zy σ) (qT n l kd sp σ)) σ)) σ)) σ) σ) σ := by
 obtain hK : (fun (c : Bool) (σ : St) => cond c (xs (rQ n) Gb 99 true yo (yu l kd sp) mo (fun ρ' => xs (rQ n) Gb 99 true yo ρ' rq K0) σ) (xs (rQ n) Gb 99 true yo (yu l kd sp) [] (fun ρ' => xs (rQ n) Gb 99 true yo ρ' rq K0) σ)) = fun c σ => cond c (zy σ) (qT n l kd sp σ) := by
  funext c σ
  cases c with
  | true => exact XZ n l kd sp (fun ρ' => xs (rQ n) Gb 99 true yo ρ' rq K0) σ
  | false => exact X0 n l kd sp K0 σ
 rw [XW, XY, tO, hK, XU, XV, XT]
 rfl
theorem X2 : vW xf = true := by kernel_rfl
theorem X3 (l : List PyData) (kd sp : Str) : (xC (uG xf) && yF yo (yu l kd sp) (y7 xf) (y7 xf)) = true := by kernel_rfl
theorem X4 (n : Nat) (l : List PyData) (kd sp : Str) (K : List PyData → St → Out) (σ : St) : src (ev (rQ n) Gb 97 true yo (yu l kd sp)) (yB yo (yu l kd sp)) (yK (xp xf)) (uF xf) K σ = chk (zi l.length) (K (yT 0 l) σ) := by kernel_rfl
theorem X5 : xP (vp xf) (xp xf) = false := by kernel_rfl
theorem X6 (l : List PyData) (kd sp : Str) (i : Int) (x : PyData) : cB xf (yu l kd sp) (.tuple [.int i, x]) = some ([("kind", vD (.str kd)), ("between", vD (.str sp)), ("at", vI i), ("token", vD x)] : zf) := by kernel_rfl
theorem X7 (n : Nat) (ρ : zf) (K : Bool → St → Out) (σ : St) : cT n 97 xf ρ K σ = K true σ := by kernel_rfl
theorem X8 (n : Nat) (kd sp : Str) (i : Int) (t : Tk) (K : KV) (σ : St) : cE n 97 xf [("kind", vD (.str kd)), ("between", vD (.str sp)), ("at", vI i), ("token", vD (za t))] K σ = cond (decide (i.fmod 2 = 0)) (K (.dat (.bool (!(t.1 == kd)))) σ) (K (.dat (.bool (!(t.1 == sp)))) σ) := by kernel_rfl
theorem X9 : vW xA = true := by kernel_rfl
theorem Wc (l : List PyData) (kd sp : Str) : (xC (uG xA) && yF yo (yu l kd sp) (y7 xA) (y7 xA)) = true := by kernel_rfl
theorem We (n : Nat) (l : List PyData) (kd sp : Str) (K : List PyData → St → Out) (σ : St) : src (ev (rQ n) Gb 96 true yo (yu l kd sp)) (yB yo (yu l kd sp)) (yK (xp xA)) (uF xA) K σ = chk (zi l.length) (K (yT 0 l) σ) := by kernel_rfl
theorem Wf : xP (vp xA) (xp xA) = false := by kernel_rfl
theorem Wg (l : List PyData) (kd sp : Str) (i : Int) (x : PyData) : cB xA (yu l kd sp) (.tuple [.int i, x]) = some ([("at", vI i), ("token", vD x)] : zf) := by kernel_rfl
theorem Wh (n : Nat) (i : Int) (x : PyData) (K : Bool → St → Out) (σ : St) : cT n 96 xA [("at", vI i), ("token", vD x)] K σ = K (decide (i.fmod 2 = 0)) σ := by kernel_rfl
theorem Wi (n : Nat) (i : Int) (t : Tk) (K : KV) (σ : St) : cE n 96 xA [("at", vI i), ("token", vD (za t))] K σ = K (.dat t.2) σ := by kernel_rfl
noncomputable def ct (kd : Str) : Int → List Tk → List Tk → List (List Tk)
 | _, cur, [] => [cur]
 | d, cur, t :: r => cond (z9 t.1) (cond (decide (d + 1 = 0) && (t.1 == kd)) (cur :: ct kd (d + 1) [] r) (ct kd (d + 1) (cur ++ [t]) r))
   (cond (ye t.1) (cond (decide (d - 1 = 0) && (t.1 == kd)) (cur :: ct kd (d - 1) [] r) (ct kd (d - 1) (cur ++ [t]) r))
    (cond (decide (d = 0) && (t.1 == kd)) (cur :: ct kd d [] r) (ct kd d (cur ++ [t]) r)))
theorem qV {d : Int} {cur : List Tk} {t : Tk} : ct kd d cur (t :: r) = cond (z9 t.1) (cond (decide (d + 1 = 0) && (t.1 == kd)) (cur :: ct kd (d + 1) [] r) (ct kd (d + 1) (cur ++ [t]) r))
   (cond (ye t.1) (cond (decide (d - 1 = 0) && (t.1 == kd)) (cur :: ct kd (d - 1) [] r) (ct kd (d - 1) (cur ++ [t]) r))
    (cond (decide (d = 0) && (t.1 == kd)) (cur :: ct kd d [] r) (ct kd d (cur ++ [t]) r))) := rfl
inductive JO : List (List Tk) → List Tk → Prop
 | one (s : List Tk) : JO [s] s
 | cons (s : List Tk) (v : PyData) {ss : List (List Tk)} {w : List Tk} : JO ss w → JO (s :: ss) (s ++ (T "COMMA" v) :: w)
theorem mq : ∀ (w : List Tk) (d : Int) (cur : List Tk), JO (ct "COMMA" d cur w) (cur ++ w)
 | [], _, cur => by rw [append_nil]; exact .one cur
 | t :: r, d, cur => by
  obtain go : ∀ {d' : Int}, JO (ct "COMMA" d' (cur ++ [t]) r) (cur ++ t :: r) := fun {d'} => by
   obtain this := mq r d' (cur ++ [t])
   rwa [append_assoc] at this
  have go2 : ∀ {d' : Int} {b : Bool}, JO (cond (b && (t.1 == ("COMMA" : Str))) (cur :: ct "COMMA" d' [] r) (ct "COMMA" d' (cur ++ [t]) r)) (cur ++ t :: r) := fun {d' b} => by
   cases hc : t.1 == ("COMMA" : Str) with
   | false => refine (Bool.and_false ..).symm ▸ ?_; exact go
   | true =>
    cases b with
    | false => exact go
    | true =>
     refine (xS hc ..).symm ▸ ?_
     exact .cons cur t.2 (mq r d' [])
  rw [qV]
  cases z9 t.1 with
  | true => exact go2
  | false => cases ye t.1 with
   | true => exact go2
   | false => exact go2
theorem tP : ∀ (w : List Tk) (d : Int) (cur r : List Tk), (∀ p ∈ tp d w, p.1 ≠ "COMMA") → ct "COMMA" d cur (w ++ r) = ct "COMMA" (dp d w) (cur ++ w) r
 | [], _, cur, r, _ => by rw [append_nil]; rfl
 | t :: w, d, cur, r, h => by
  obtain e : cur ++ t :: w = (cur ++ [t]) ++ w := by simp
  rw [cons_append, qV, dp, e]
  cases ho : z9 t.1 with
  | true =>
   obtain hn : (t.1 == ("COMMA" : Str)) = false := by
    cases q : t.1 == ("COMMA" : Str) with
    | false => rfl
    | true => rw [eq_of_beq q] at ho; exact ff ho
   simp only [hn, Bool.and_false, cond_true, cond_false]
   exact tP w _ _ r (fun p hp => h p (by rw [tp, ho]; exact hp))
  | false =>
   cases hc : ye t.1 with
   | true =>
    have hn : (t.1 == ("COMMA" : Str)) = false := by
     cases q : t.1 == ("COMMA" : Str) with
     | false => rfl
     | true => rw [eq_of_beq q] at hc; exact ff hc
    simp only [hn, Bool.and_false, cond_true, cond_false]
    exact tP w _ _ r (fun p hp => h p (by rw [tp, ho, hc]; exact hp))
   | false =>
    simp only [cond_false]
    by_cases hd : d = 0
    ·subst hd
     obtain hn : (t.1 == ("COMMA" : Str)) = false := by
      cases q : t.1 == ("COMMA" : Str) with
      | false => rfl
      | true => exact absurd (eq_of_beq q) (h t (by rw [tp, ho, hc]; exact mem_cons_self ..))
     simp only [hn, Bool.and_false, cond_false]
     exact tP w _ _ r (fun p hp => h p (by rw [tp, ho, hc]; exact mem_cons_of_mem _ hp))
    ·simp only [decide_eq_false hd, Bool.false_and, cond_false]
     exact tP w _ _ r (fun p hp => h p (by rw [tp, ho, hc, decide_eq_false hd]; exact hp))
inductive DS : List (List Tk) → List PyData → Prop
 | nil : DS [] []
 | cons {s : List Tk} {t : PyData} {ss : List (List Tk)} {ts : List PyData} : D 0 s t → DS ss ts → DS (s :: ss) (t :: ts)
theorem gr (h : D k w t) : k = 9 → ∃ ts, t = .tuple ts ∧ DS (ct "COMMA" 0 [] w) ts := by
 induction h with
 | up hk _ _ => intro e; lia
 | arg1 h _ =>
  intro _
  refine zg _ rfl ?_
  obtain this := tP _ 0 [] [] (fun p hp => ((h.sh.2 (by lia)).top p hp).2)
  rw [append_nil] at this
  rw [this]
  exact .cons h .nil
 | argS v h _ _ ih =>
  intro _
  refine zb (ih rfl) fun ts e hs => ?_
  refine (PyData.tuple.inj e) ▸ ?_
  refine zg _ rfl ?_
  refine (tP _ 0 [] _ (fun p hp => ((h.sh.2 (by lia)).top p hp).2) ..).symm ▸ (h.sh.1.dpe ..).symm ▸ ?_
  exact .cons h hs
 | bin v hm _ _ _ _ =>
  intro e
  obtain this := (vt hm).2.2.2.1
  lia
 | _ => intro e; exact nomatch e
theorem DS.inv {s : List Tk} (h : DS (s :: ss) us) : ∃ t ts, us = t :: ts ∧ D 0 s t ∧ DS ss ts := by
 cases h with
 | cons a b => exact wc _ _ rfl a b
theorem DS.inv0 (h : DS [] us) : us = [] := by cases h; rfl
theorem Wj (j : JO ss w) : DS ss ts → D 9 w (.tuple ts) := by
 induction j generalizing ts with
 | one s =>
  intro h
  refine yq (h.inv) fun t r e h1 h2 => ?_
  refine (e ..).symm ▸ (h2.inv0 ..).symm ▸ ?_; exact .arg1 h1
 | cons s v j ih =>
  intro h
  refine yq (h.inv) fun t r e h1 h2 => ?_
  refine (e ..).symm ▸ ?_; exact .argS v h1 (ih h2)
noncomputable def zV (kd sp : Str) : List Tk → Option (List PyData)
 | [] => none
 | [t] => cond (t.1 == kd) (some [t.2]) none
 | t :: u :: r => cond (t.1 == kd) (cond (u.1 == sp) ((zV kd sp r).map (t.2 :: ·)) none) none
theorem rt {kd sp : Str} : ∀ {n : Nat} {w : List Tk} {xs : List PyData}, w.length ≤ n → zV kd sp w = some xs → SL kd sp w xs
 | _, [], _, _, h => by exact nn h
 | _, [t], xs, _, h => by
  dsimp only [zV] at h
  cases e : t.1 == kd with
  | false => obtain h := (e ..) ▸ h; exact nn h
  | true => replace h := (e ..) ▸ h; refine Option.some.inj h ▸ ?_; refine (xS e ..).symm ▸ ?_; exact .one _
 | 0, t :: u :: r, _, hn, _ => by simp at hn
 | n + 1, t :: u :: r, xs, hn, h => by
  dsimp only [zV] at h
  cases e : t.1 == kd with
  | false => replace h := (e ..) ▸ h; exact nn h
  | true =>
   rw [e] at h
   cases e2 : u.1 == sp with
   | false => replace h := (e2 ..) ▸ h; exact nn h
   | true =>
    replace h := (e2 ..) ▸ h
    simp only [cond_true] at h
    cases e3 : zV kd sp r with
    | none => rw [e3] at h; exact nn h
    | some ys =>
     rw [e3] at h; refine Option.some.inj h ▸ ?_
     refine (xS e ..).symm ▸ (xS e2 ..).symm ▸ ?_
     exact .cons _ _ (rt (n := n) (by simp [length_cons] at hn; exact Nat.le_of_lt ‹_›) e3)
theorem mr {xs : List PyData} (h : SL kd sp w xs) : zV kd sp w = some xs := by
 induction h with
 | one x => dsimp only [zV]; rw [beq_self_eq_true]; rfl
 | cons x v _ ih => dsimp only [zV]; rw [beq_self_eq_true, beq_self_eq_true, ih]; rfl
theorem y8 {l : List PyData} (h : l.length ≤ 1000) : zK (.dat (.list l)) K σ = K (iV l.length) σ := by
 show chk (zi l.length) _ = _
 rw [zJ h]; rfl
theorem xg (h1 : -1000 ≤ i) (h2 : i ≤ 1000) : z0 i = true := by
 exact eS (by lia) (by lia)
theorem ms {l : List PyData} {i : Nat} (h : l[i]? = some x) : yr l (i : Int) = some x := by
 unfold yr
 rw [decide_eq_true (by lia), cond_true, Int.toNat_natCast, h]
theorem qW {l : List PyData} (h : l.getLast? = some x) : yr l (-1) = some x := by
 obtain hne : l ≠ [] := by intro e; rw [e] at h; exact nn h
 obtain hl : 0 < l.length := List.length_pos_iff.mpr hne
 unfold yr
 rw [decide_eq_false (by lia), cond_false, decide_eq_true (by lia), cond_true]
 rw [List.getLast?_eq_getElem?] at h
 rw [show (-1 + (l.length : Int)).toNat = l.length - 1 by lia, h]
theorem tQ {l : List PyData} {i : Nat} (h : i ≤ l.length) : zk l none (some (i : Int)) = l.take i := by
 unfold zk kms_lo kms_hi
 simp only
 rw [if_neg (by lia), Int.toNat_natCast, Nat.min_eq_left h]
 rfl
theorem mt {l : List PyData} {i : Nat} (h : i ≤ l.length) : zk l (some (i : Int)) none = l.drop i := by
 unfold zk kms_lo kms_hi
 simp only
 rw [if_neg (by lia), Int.toNat_natCast, Nat.min_eq_left h]
 rw [List.take_of_length_le (by simp)]
theorem Wl {i : Nat} (h : i ≤ n) : kms_lo (some (i : Int)) n = i := by
 unfold kms_lo
 simp only
 rw [if_neg (by lia), Int.toNat_natCast, Nat.min_eq_left h]
theorem Wm : kms_hi (some (-1)) n = n - 1 := by
 unfold kms_hi
 simp only
 rw [if_pos (by decide)]
 rfl
theorem mu {l : List PyData} {i : Nat} (h : i ≤ l.length) : zk l (some (i : Int)) (some (-1)) = (l.drop i).dropLast := by
 unfold zk
 refine (Wl h ..).symm ▸ (Wm ..).symm ▸ (List.dropLast_eq_take ..).symm ▸ (List.length_drop ..).symm ▸ ?_
 congr 1
 lia
theorem Wn (s : Str) : (zC s = 9 ∧ zG s tG = none) ∨ (zC s < 9 ∧ zG s tG = some (.int (zC s : Nat))) := by
 by_cases h1 : s = "OP_question"
 ·subst h1; exact .inr ⟨by decide, by kernel_rfl⟩
 by_cases h2 : s = "OP_rarrow"
 ·refine (h2) ▸ ?_; exact .inr ⟨by decide, by kernel_rfl⟩
 by_cases h3 : s = "OP_lrarrow"
 ·refine (h3) ▸ ?_; exact .inr ⟨by decide, by kernel_rfl⟩
 by_cases h4 : s = "OP_or"
 ·refine (h4) ▸ ?_; exact .inr ⟨by decide, by kernel_rfl⟩
 by_cases h5 : s = "OP_xor"
 ·refine (h5) ▸ ?_; exact .inr ⟨by decide, by kernel_rfl⟩
 by_cases h6 : s = "OP_and"
 ·refine (h6) ▸ ?_; exact .inr ⟨by decide, by kernel_rfl⟩
 obtain ne : ∀ {x : Str}, s ≠ x → (s == x) = false ∧ (x == s) = false := fun {x} h => ⟨beq_eq_false_iff_ne.mpr h, beq_eq_false_iff_ne.mpr (Ne.symm h)⟩
 left
 unfold zC tG
 simp only [zG, (ne h1).1, (ne h1).2, (ne h2).1, (ne h2).2, (ne h3).1, (ne h3).2, (ne h4).1, (ne h4).2, (ne h5).1, (ne h5).2, (ne h6).1, (ne h6).2, cond_false, and_self]
theorem gu {i : Nat} {r : List PyData} : yT i (x :: r) = .tuple [.int i, x] :: yT (i + 1) r := rfl
theorem uO (n : Nat) (w : List Tk) (KN : KR) (σ : St) : ∀ (r : List Tk) (i : Nat) (d wk a : Int) (p tk : PyData), wk ≤ 9 →
  ∃ d' p' tk', forK wS (wT (n + 1)) (yT i (r.map za)) (v5 w d wk a p tk) KN σ = KN (v5 w d' (sc i d wk a r).1 (sc i d wk a r).2 p' tk') σ
 | [], i, d, wk, a, p, tk, _ => (vB d p tk rfl)
 | t :: r, i, d, wk, a, p, tk, hw => by
  rw [map_cons, gu, Xa, sc]
  obtain eo : zu t.1 rk = z9 t.1 := rfl
  obtain ec : zu t.1 rl = ye t.1 := rfl
  refine (eo ..).symm ▸ (ec ..).symm ▸ ?_
  cases z9 t.1 with
  | true => exact uO n w KN σ r _ _ _ _ _ _ hw
  | false =>
  cases ye t.1 with
  | true => exact uO n w KN σ r _ _ _ _ _ _ hw
  | false =>
  cases decide (d = 0) with
  | false => exact uO n w KN σ r _ _ _ _ _ _ hw
  | true =>
  simp only [cond_true, cond_false]
  refine ly (Wn t.1) (fun e1 e2 => ?_) fun e1 e2 => ?_
  ·refine (e1 ..).symm ▸ (e2 ..).symm ▸ ?_
   show ∃ d' p' tk', cond (decide ((9 : Int) < wk)) _ _ = _
   obtain e3 : decide ((9 : Int) < wk) = false := decide_eq_false (by lia)
   obtain e4 : decide (((9 : Nat) : Int) < wk) = false := decide_eq_false (by lia)
   rw [e3, e4]
   exact uO n w KN σ r _ _ _ _ _ _ hw
  ·refine (e2 ..).symm ▸ ?_
   show ∃ d' p' tk', cond (decide (((zC t.1 : Nat) : Int) < wk)) _ _ = _
   cases e5 : decide (((zC t.1 : Nat) : Int) < wk) with
   | false => exact uO n w KN σ r _ _ _ _ _ _ hw
   | true => exact uO n w KN σ r _ _ _ _ _ _ (by lia)
noncomputable def wX : Int → List PyData → List PyData
 | _, [] => []
 | i, x :: r => .tuple [.int i, x] :: wX (i + 1) r
theorem qX : ∀ (l : List PyData) (i : Nat), yT i l = wX (i : Int) l
 | [], _ => rfl
 | x :: r, i => by
  rw [gu, qX r (i + 1)]
  rfl
noncomputable def xI : Int → Int → Int → List Tk → Option Int
 | _, _, _, [] => none
 | i, d, o, t :: r => cond (z9 t.1) (xI (i + 1) (d + 1) o r) (cond (ye t.1) (xI (i + 1) (d - 1) o r)
   (cond (decide (d = 0)) (cond (t.1 == "OP_question") (xI (i + 1) d (o + 1) r) (cond (t.1 == "OP_colon") (cond (decide (o = 0)) (some i) (xI (i + 1) d (o - 1) r)) (xI (i + 1) d o r))) (xI (i + 1) d o r)))
theorem gv {d o : Int} {t : Tk} : xI i d o (t :: r) = cond (z9 t.1) (xI (i + 1) (d + 1) o r) (cond (ye t.1) (xI (i + 1) (d - 1) o r)
   (cond (decide (d = 0)) (cond (t.1 == "OP_question") (xI (i + 1) d (o + 1) r) (cond (t.1 == "OP_colon") (cond (decide (o = 0)) (some i) (xI (i + 1) d (o - 1) r)) (xI (i + 1) d o r))) (xI (i + 1) d o r))) := rfl
theorem cc {α β : Type} {b : Bool} {f : α → β} {x y : β} {x' y' : α} (h1 : x = f x') (h2 : y = f y') : cond b x y = f (cond b x' y') := by
 cases b with
 | true => exact h1
 | false => exact h2
theorem Wo (r : List Tk) : ∀ (i : Nat) (d o : Int), xI (i : Int) d o r = (cs i d o r).map fun j => ((j : Nat) : Int) := by
 induction r with
 | nil => exact fun _ _ _ => rfl
 | cons t r ih =>
  intro i d o
  have ih := fun d o => ih (i + 1) d o
  rw [gv, s9]
  exact cc (ih ..) (cc (ih ..) (cc (cc (ih ..) (cc (cc rfl (ih ..)) (ih ..))) (ih ..)))
noncomputable def v6 (n : Nat) (f : PyData) (rest : List PyData) (σ : St) (o : Option Int) : Out := match o with
 | some j => rm n f rest j σ
 | none => zy σ
theorem Wp (n : Nat) (f : PyData) (rest : List PyData) (σ : St) (j : Int) : v6 n f rest σ (some j) = rm n f rest j σ := rfl
theorem TL (n : Nat) (f : PyData) (rest : List PyData) (σ : St) : v6 n f rest σ none = zy σ := rfl
theorem Wq (n : Nat) (w rest : List PyData) (wk a : Int) (f : PyData) (σ : St) : ∀ (r : List Tk) (i d o : Int) (p tk : PyData),
  forK xT (xU n) (wX i (r.map za)) (x7 w rest d wk a o p tk f) (fun _ σ => zy σ) σ = v6 n f rest σ (xI i d o r) := by
 intro r
 induction r with
 | nil => intro i d o p tk; rfl
 | cons t r ih =>
  intro i d o p tk
  show forK xT (xU n) (.tuple [.int i, za t] :: wX (i + 1) (r.map za)) _ _ _ = _
  rw [Xc, gv]
  refine cc (f := v6 n f rest σ) (ih ..) (cc (f := v6 n f rest σ) (ih ..) ?_)
  cases decide (d = 0) with
  | true => exact cc (f := v6 n f rest σ) (b := t.1 == ("OP_question" : Str)) (ih ..) (cc (f := v6 n f rest σ) (b := t.1 == ("OP_colon" : Str)) (cc (f := v6 n f rest σ) rfl (ih ..)) (ih ..))
  | false => exact ih ..
theorem gw (x : PyData) : ∀ (P : List (List PyData)) (c : List PyData), vN x (P ++ [c]) = some (P ++ [c ++ [x]])
 | [], c => rfl
 | p :: [], c => rfl
 | p :: q :: P, c => by
  obtain ih := gw x (q :: P) c
  show Option.map (p :: ·) (vN x ((q :: P) ++ [c])) = _
  rw [ih]; rfl
theorem zB (o : Out) : chk true o = o := rfl
noncomputable def yh (P : List (List Tk)) : List (List PyData) := P.map (·.map za)
theorem mv (P : List (List Tk)) (c : List Tk) : yh (P ++ [c]) = yh P ++ [c.map za] := by simp [yh]
theorem mw (n : Nat) (l : List PyData) (kd : Str) (KN : KR) (σ : St) : ∀ (r : List Tk) (P : List (List Tk)) (cur : List Tk) (d : Int) (tk : PyData), P.length + cur.length + r.length ≤ 900 →
  ∃ d' tk', forK wV (wW n) (r.map za) (wm l kd (yh (P ++ [cur])) d tk) KN σ = KN (wm l kd (yh (P ++ ct kd d cur r)) d' tk') σ
 | [], P, cur, d, tk, _ => (y4 d tk rfl)
 | t :: r, P, cur, d, tk, hl => by
  simp only [length_cons] at hl
  rw [map_cons, XS, ct]
  obtain eo : zu t.1 rk = z9 t.1 := rfl
  obtain ec : zu t.1 rl = ye t.1 := rfl
  rw [eo, ec]
  have push : ∀ d' : Int, ∃ d2 tk', rn n l kd (yh (P ++ [cur])) d' t (r.map za) KN σ = KN (wm l kd (yh (P ++ ct kd d' (cur ++ [t]) r)) d2 tk') σ := fun d' => by
   obtain e1 : rn n l kd (yh (P ++ [cur])) d' t (r.map za) KN σ = forK wV (wW n) (r.map za) (wm l kd (yh (P ++ [cur ++ [t]])) d' (za t)) KN σ := by
    unfold rn
    refine (mv ..).symm ▸ (gw ..).symm ▸ ?_
    obtain e2 : (!(yh P ++ [cur.map za]).isEmpty) = true := by
     cases yh P <;> rfl
    refine (e2 ..).symm ▸ ?_
    obtain e3 : (zi ((yh P ++ [cur.map za ++ [za t]]).getLastD []).length && zi (yh P ++ [cur.map za]).length && true) = true := by
     obtain g : (yh P ++ [cur.map za ++ [za t]]).getLastD [] = cur.map za ++ [za t] := by simp
     rw [g, zJ (by simp; lia), zJ (by simp [yh]; lia)]; rfl
    show chk true (chk (zi ((yh P ++ [cur.map za ++ [za t]]).getLastD []).length && zi (yh P ++ [cur.map za]).length && true) (forK wV (wW n) (r.map za) (wm l kd (yh P ++ [cur.map za ++ [za t]]) d' (za t)) KN σ)) = _
    refine (e3 ..).symm ▸ (mv ..).symm ▸ (zB ..).symm ▸ (zB ..).symm ▸ (map_append ..).symm ▸ ?_
    rfl
   rw [e1]
   exact mw n l kd KN σ r P (cur ++ [t]) d' (za t) (by simp only [length_append, length_cons, length_nil]; lia)
  have A : ∀ d' : Int, ∃ d2 tk', ro n l kd (yh (P ++ [cur])) d' t (r.map za) KN σ = KN (wm l kd (yh (P ++ cond (decide (d' = 0) && (t.1 == kd)) (cur :: ct kd d' [] r) (ct kd d' (cur ++ [t]) r))) d2 tk') σ := fun d' => by
   unfold ro
   cases decide (d' = 0) with
   | false => exact push d'
   | true =>
    cases t.1 == kd with
    | false => exact push d'
    | true =>
     rw [zJ (by simp [yh]; lia)]
     refine zM (mw n l kd KN σ r (P ++ [cur]) [] d' (za t) (by simp [length_append, length_cons, length_nil]; lia)) fun d2 tk' e => ?_
     refine y4 d2 tk' ?_
     obtain e := (append_assoc ..) ▸ (mv ..) ▸ e
     exact e
  cases z9 t.1 with
  | true => exact A (d + 1)
  | false =>
  cases ye t.1 with
  | true => exact A (d - 1)
  | false => exact A d
theorem Wr (n : Nat) (w : List Tk) (σ : St) (hl : w.length ≤ 500) : rQ (n + 1) "_law_cut" [zw w, sV "COMMA"] σ = .ok (.dat (.list ((yh (ct "COMMA" 0 [] w)).map .list))) σ := by
 rw [XN, zJ (by simp; exact Nat.le_trans ‹_› (by decide)), zB]
 cases w with
 | nil => exact XR n [] "COMMA" σ
 | cons t r =>
  rw [map_cons, XO]
  refine zM (mw n ((t :: r).map za) "COMMA" (fun ρ σ => xs (rQ n) Gb 98 true uN ρ ((zj "_law_cut").body.drop 2) K0 σ) σ (t :: r) [] [] 0 .none (by simp only [length_nil]; lia)) fun d' tk' e => ?_
  obtain e : forK wV (wW n) (za t :: r.map za) (wm ((t :: r).map za) "COMMA" [[]] 0 .none) (fun ρ σ => xs (rQ n) Gb 98 true uN ρ ((zj "_law_cut").body.drop 2) K0 σ) σ = _ := e
  obtain e2 : (List.map za (t :: r)) = za t :: List.map za r := rfl
  rw [← e2] at e ⊢
  rw [e, nil_append]
  exact XQ n _ _ _ _ _ σ
noncomputable def zL (t : Tk) : Prop := s7 t ∧ (za t).canLay0 = true ∧ (za t).depth ≤ 2
theorem gx : ∀ {w : List Tk}, (∀ t ∈ w, zL t) → PyData.canLayAll0 (w.map za) = true ∧ PyData.depthAll (w.map za) ≤ 2
 | [], _ => ⟨rfl, Nat.zero_le _⟩
 | t :: r, h => by
  refine ze (gx (w := r) fun t ht => h t (mem_cons_of_mem _ ht)) fun h1 h2 => ?_
  refine yE (h t (mem_cons_self ..)) fun _ h3 h4 => ?_
  rw [map_cons, PyData.canLayAll0, PyData.depthAll, h3, h1]
  exact ⟨rfl, Nat.max_le.mpr ⟨h4, h2⟩⟩
theorem tR (h : ∀ t ∈ w, zL t) : sh w = true := by
 refine ze (gx h) fun h1 h2 => ?_
 unfold sh SeqAt.shaped
 rw [PyData.canLay0, PyData.depth, h1, decide_eq_true (by lia)]
 rfl
inductive AL (P : List Tk → PyData → Prop) : List (List Tk) → List PyData → Prop
 | nil : AL P [] []
 | cons {s : List Tk} {u : PyData} {ss : List (List Tk)} {us : List PyData} : P s u → AL P ss us → AL P (s :: ss) (u :: us)
theorem AL.len {P : List Tk → PyData → Prop} (h : AL P ss us) : us.length = ss.length := by
 induction h with
 | nil => rfl
 | cons _ _ ih => rw [length_cons, length_cons, ih]
noncomputable def Rd (n : Nat) (σ : St) (w : List Tk) (u : PyData) : Prop := rQ n "_law_read" [zw w] σ = .ok (.dat u) σ
theorem Ws {t : Tk} : ∀ {ss : List (List Tk)} {us : List PyData} (K : List PyData → St → Out), AL (Rd n σ) ss us →
  compK (cB xu (xx t r)) (cT n 91 xu) (cE n 91 xu) ((yh ss).map .list) K σ = K us σ := by
 intro ss us K h
 induction h generalizing K with
 | nil => rfl
 | @cons s u ss us h hs ih =>
  have ih := ih (fun ds => K (u :: ds))
  show compK _ _ _ (.list (s.map za) :: (yh ss).map .list) _ _ = _
  rw [tL (Xp t r _), Xq, cond_true, Xr]
  have h : rQ n "_law_read" [.dat (.list (s.map za))] σ = .ok (.dat u) σ := h
  rw [h]
  exact ih
noncomputable def xh (d : PyData) : Bool := isNone (.dat d)
theorem gy {n : Nat} {σ : St} {t : Tk} {r : List Tk} {qs : List PyData} : ∀ (ps : List PyData) (K : List PyData → St → Out),
  compK (cB xw (wB t r qs)) (cT n 90 xw) (cE n 90 xw) ps K σ = K (ps.map fun p => .bool (xh p)) σ
 | [], K => rfl
 | p :: ps, K => by
  rw [tL (Xx t r qs p), Xy, cond_true, Xz]
  exact gy ps (fun ds => K (.bool (xh p) :: ds))
theorem mx : ∀ (bs : List Bool), vb (bs.map .bool) = some bs
 | [] => rfl
 | b :: bs => by rw [map_cons, vb, mx bs]; rfl
theorem qY {t : Tk} (K : Bool → St → Out) (hl : ps.length ≤ 1000) : uK n (wB t r ps) K σ = K (ps.any xh) σ := by
 unfold uK
 rw [tK n 90 true ya _ xw _ σ Xs (Xu t r ps), Xv, zJ hl, zB, gy, Xw]
 obtain e : ps.map (fun p => PyData.bool (xh p)) = (ps.map xh).map .bool := by simp
 obtain e2 : xD .any [.dat (.list ((ps.map xh).map .bool))] (fun v σ => vc v K σ) σ = K ((ps.map xh).any id) σ := by
  show opt (vb ((ps.map xh).map .bool)) (fun bs => chk (zi ((ps.map xh).map PyData.bool).length) (K (bs.any id) σ)) .bad = _
  rw [mx, zJ (by simpa using hl)]; rfl
 rw [e, cond_false, e2]
 simp
theorem gz (hl : ps.length ≤ 900) : vv nm ps σ = .ok (.dat (.tuple (.str nm :: ps))) σ := by
 unfold vv
 rw [zJ (by lia), zJ (by simp; exact Nat.le_trans ‹_› (by decide))]; rfl
theorem Wt (n : Nat) (v : PyData) (r : List Tk) (σ : St) : rQ (n + 2) "_law_single" [zw (T "OP_not" v :: r)] σ = chk (sh (T "OP_not" v :: r)) (sg (n + 1) 97 2 (T "OP_not" v) r σ) := by rw [tH]; kernel_rfl
theorem Wu (n : Nat) (v : PyData) (r : List Tk) (σ : St) : rQ (n + 2) "_law_single" [zw (T "LPAREN" v :: r)] σ = chk (sh (T "LPAREN" v :: r)) (sg (n + 1) 96 3 (T "LPAREN" v) r σ) := by rw [tH]; kernel_rfl
theorem Wv (n : Nat) (v : PyData) (r : List Tk) (σ : St) : rQ (n + 2) "_law_single" [zw (T "NameToken" v :: r)] σ = chk (sh (T "NameToken" v :: r)) (sg (n + 1) 94 5 (T "NameToken" v) r σ) := by rw [tH]; kernel_rfl
theorem Ww (n : Nat) (v : PyData) (r : List Tk) (σ : St) : rQ (n + 2) "_law_single" [zw (T "IntegerToken" v :: r)] σ = chk (sh (T "IntegerToken" v :: r)) (zK (zw (T "IntegerToken" v :: r)) (fun u σ => zX .Eq u (.dat (.int 1)) (fun c σ => cond c (vH (.dat v) (.dat (.tuple [.int 0, .int 1])) (fun c σ => cond c (.ok (.dat (.tuple [.str "const", v])) σ) (zy σ)) σ) (zy σ)) σ) σ) := by rw [tH]; kernel_rfl
theorem Wx (h : (∃ nm, (kd, nm) ∈ zT) ∨ ∃ nm c, (kd, nm, c) ∈ z8) (n : Nat) (v : PyData) (r : List Tk) (σ : St) : rQ (n + 2) "_law_single" [zw (T kd v :: r)] σ = chk (sh (T kd v :: r)) (sg (n + 1) 95 4 (T kd v) r σ) := by
 refine (tH ..).trans (congrArg _ ?_)
 have f := na (fun k => !(k == "OP_not") && (!(k == "LPAREN") && cond (zG k wA).isSome true (zG k wU).isSome)) rfl rfl h
 rw [Bool.and_eq_true, Bool.and_eq_true] at f
 show cond (kd == "OP_not") _ (cond (kd == "LPAREN") _ (cond (zG kd wA).isSome _ (cond (zG kd wU).isSome _ _))) = _
 rw [nt f.1, nt f.2.1]
 have g := f.2.2
 cases e : (zG kd wA).isSome with
 | true => rfl
 | false => rw [e] at g; rw [show (zG kd wU).isSome = true from g]; rfl
theorem Wy : ∀ {x : Str} {l : List Str}, x ∈ l → zu x l = true
 | x, y :: l, h => by
  dsimp only [zu]
  rcases mem_cons.mp h with rfl | h
  ·rw [beq_self_eq_true]; rfl
  ·rw [Wy h]; cases x == y <;> rfl
theorem Wz (n : Nat) (t : Tk) (r : List Tk) (σ : St) (h : zu t.1 yQ = false) : rQ (n + 2) "_law_single" [zw (t :: r)] σ = chk (sh (t :: r)) (zy σ) := by
 have ne : ∀ {x : Str}, zu x yQ = true → (t.1 == x) = false ∧ (x == t.1) = false := fun {x} hx => by
  obtain q : t.1 ≠ x := fun e => by rw [e, hx] at h; exact ff h.symm
  exact ⟨beq_eq_false_iff_ne.mpr q, beq_eq_false_iff_ne.mpr (Ne.symm q)⟩
 have w1 : zG t.1 wA = none := by
  unfold wA xd uE
  simp only [map_cons, List.map_nil, zip_cons_cons, List.zip_nil_right, zG,
   (ne (x := "KW_or") rfl).2, (ne (x := "KW_and") rfl).2, (ne (x := "KW_xor") rfl).2, (ne (x := "KW_xnor") rfl).2, (ne (x := "KW_equal") rfl).2, (ne (x := "KW_unequal") rfl).2,
   (ne (x := "KW_nor") rfl).2, (ne (x := "KW_nand") rfl).2, (ne (x := "KW_onehot0") rfl).2, (ne (x := "KW_onehot") rfl).2, (ne (x := "KW_majority") rfl).2, (ne (x := "KW_achillesheel") rfl).2, cond_false]
 have w2 : zG t.1 wU = none := by
  unfold wU
  simp only [zG, (ne (x := "KW_ite") rfl).2, (ne (x := "KW_implies") rfl).2, (ne (x := "KW_not") rfl).2, cond_false]
 rw [tH, (ne (x := "OP_not") rfl).1, (ne (x := "LPAREN") rfl).1, w1, w2, (ne (x := "NameToken") rfl).1, (ne (x := "IntegerToken") rfl).1]
 rfl
noncomputable def v7 : List Str := ["KW_ite", "KW_implies", "KW_not"]
theorem gA (h : (kd, nm) ∈ zT) : zu kd xd = true := s5 (fun k => zu k xd) rfl h
theorem mz {c : Nat} (h : (kd, nm, c) ∈ z8) : zu kd v7 = true := qD (fun k _ => zu k v7) rfl h
theorem WA {w' : List Tk} {t' : PyData} (h : D 5 w' t') (hw : w = w') (ht : t = t') {R : Prop} (c1 : ∀ v w' t', w = T "OP_not" v :: w' → D 5 w' t' → t = .tuple [.str "not", t'] → R) (c2 : ∀ v v' w', w = T "LPAREN" v :: (w' ++ [T "RPAREN" v']) → D 0 w' t → R)
  (c3 : ∀ kd nm v v1 v2, w = [(kd, v), T "LPAREN" v1, T "RPAREN" v2] → (kd, nm) ∈ zT → t = .tuple [.str nm] → R)
  (c4 : ∀ kd nm v v1 v2 w' ts, w = (kd, v) :: T "LPAREN" v1 :: (w' ++ [T "RPAREN" v2]) → (kd, nm) ∈ zT → D 9 w' (.tuple ts) → t = .tuple (.str nm :: ts) → R)
  (c5 : ∀ kd nm c v v1 v2 w' ts, w = (kd, v) :: T "LPAREN" v1 :: (w' ++ [T "RPAREN" v2]) → (kd, nm, c) ∈ z8 → D 9 w' (.tuple ts) → ts.length = c → t = .tuple (.str nm :: ts) → R)
  (c6 : ∀ ns, SL "NameToken" "DOT" w ns → t = zS "var" (.tuple ns.reverse) (.tuple []) → R)
  (c7 : ∀ v v' w1 w2 ns is, w = w1 ++ T "LBRACK" v :: (w2 ++ [T "RBRACK" v']) → SL "NameToken" "DOT" w1 ns → SL "IntegerToken" "COMMA" w2 is → t = zS "var" (.tuple ns.reverse) (.tuple is) → R)
  (c8 : ∀ i : Int, w = [T "IntegerToken" (.int i)] → (i = 0 ∨ i = 1) → t = .tuple [.str "const", .int i] → R) : R := by
 cases h with
 | up h _ => exact absurd h (by decide)
 | bin v hm _ _ => exact absurd (vt hm).2.2.2.1 (by decide)
 | not v h => exact c1 v _ _ hw h ht
 | paren v v' h => exact c2 v v' _ hw (ht ▸ h)
 | word0 v v1 v2 hm => exact c3 _ _ v v1 v2 hw hm ht
 | word v v1 v2 hm h => exact c4 _ _ v v1 v2 _ _ hw hm h ht
 | cnt v v1 v2 hm h hc => exact c5 _ _ _ v v1 v2 _ _ hw hm h hc ht
 | var h => exact c6 _ (hw ▸ h) ht
 | varI v v' h h' => exact c7 v v' _ _ _ _ hw h h' ht
 | const h => exact c8 _ hw h ht
theorem rz (h : D 5 w t) {R : Prop} (c1 : ∀ v w' t', w = T "OP_not" v :: w' → D 5 w' t' → t = .tuple [.str "not", t'] → R) (c2 : ∀ v v' w', w = T "LPAREN" v :: (w' ++ [T "RPAREN" v']) → D 0 w' t → R)
  (c3 : ∀ kd nm v v1 v2, w = [(kd, v), T "LPAREN" v1, T "RPAREN" v2] → (kd, nm) ∈ zT → t = .tuple [.str nm] → R)
  (c4 : ∀ kd nm v v1 v2 w' ts, w = (kd, v) :: T "LPAREN" v1 :: (w' ++ [T "RPAREN" v2]) → (kd, nm) ∈ zT → D 9 w' (.tuple ts) → t = .tuple (.str nm :: ts) → R)
  (c5 : ∀ kd nm c v v1 v2 w' ts, w = (kd, v) :: T "LPAREN" v1 :: (w' ++ [T "RPAREN" v2]) → (kd, nm, c) ∈ z8 → D 9 w' (.tuple ts) → ts.length = c → t = .tuple (.str nm :: ts) → R)
  (c6 : ∀ ns, SL "NameToken" "DOT" w ns → t = zS "var" (.tuple ns.reverse) (.tuple []) → R)
  (c7 : ∀ v v' w1 w2 ns is, w = w1 ++ T "LBRACK" v :: (w2 ++ [T "RBRACK" v']) → SL "NameToken" "DOT" w1 ns → SL "IntegerToken" "COMMA" w2 is → t = zS "var" (.tuple ns.reverse) (.tuple is) → R)
  (c8 : ∀ i : Int, w = [T "IntegerToken" (.int i)] → (i = 0 ∨ i = 1) → t = .tuple [.str "const", .int i] → R) : R := WA h rfl rfl c1 c2 c3 c4 c5 c6 c7 c8
theorem wY {x : Str} {a b : List Tk} (e : (s, v) :: a = (x, u) :: b) (h : (s == x) = false) : False := by
 injection e with e1 _
 injection e1 with e1 _
 rw [e1, beq_self_eq_true] at h; exact ff h.symm
theorem v8 {a b : List Tk} (e : (s, v) :: a = (kd, u) :: b) (hm : (kd, nm) ∈ zT) (h : zu s xd = false) : False := by
 injection e with e1 _
 injection e1 with e1 _
 rw [e1, gA hm] at h; exact ff h.symm
theorem qZ {c : Nat} {a b : List Tk} (e : (s, v) :: a = (kd, u) :: b) (hm : (kd, nm, c) ∈ z8) (h : zu s v7 = false) : False := by
 injection e with e1 _
 injection e1 with e1 _
 rw [e1, mz hm] at h; exact ff h.symm
theorem tS {a c : List Tk} {xs : List PyData} (h : SL kd sp w xs) (e : (s, v) :: a = w ++ c) (hn : (s == kd) = false) : False := by
 refine zM (h.head) fun x w' W0 => ?_
 obtain rfl := W0
 exact wY e hn
noncomputable def RS (n : Nat) (w : List Tk) (σ : St) : Prop := ∃ u, rQ n "_law_single" [zw w] σ = .ok (.dat u) σ ∧ (D 5 w u ∨ (u = .none ∧ ∀ t, ¬ D 5 w t))
noncomputable def RR (n : Nat) (w : List Tk) (σ : St) : Prop := ∃ u, rQ n "_law_read" [zw w] σ = .ok (.dat u) σ ∧ (D 0 w u ∨ (u = .none ∧ ∀ t, ¬ D 0 w t))
theorem D.some (h : D k w t) : isNone (.dat t) = false := by refine zd (h.tuple) fun l W0 => ?_; refine (W0) ▸ ?_; rfl
theorem WB (n : Nat) (σ : St) : RS (n + 1) [] σ := (zg (.none) (gb n σ) (.inr ⟨rfl, fun t h => absurd h.pos (by trivial)⟩))
theorem WC {l : List PyData} : zk (x :: l) (some 1) none = l := mt (l := x :: l) (i := 1) (by simp)
theorem WD (hok : ∀ t ∈ T "OP_not" v :: r, zL t) (hl : r.length ≤ 500) (h : RS (n + 1) r σ) : RS (n + 2) (T "OP_not" v :: r) σ := by
 refine zb (h) fun u e hu => ?_
 obtain inv : ∀ t, D 5 (T "OP_not" v :: r) t → ∃ t', D 5 r t' := fun t h => by
  refine rz h (fun v' w' t' e h _ => ?_) (fun _ _ _ e _ => ?_) (fun _ _ _ _ _ e hm _ => ?_) (fun _ _ _ _ _ _ _ e hm _ _ => ?_) (fun _ _ _ _ _ _ _ _ e hm _ _ _ => ?_) (fun _ h _ => ?_) (fun _ _ _ _ _ _ e h _ _ => ?_) (fun _ e _ _ => ?_)
  ·injection e with _ e2; subst e2; exact ⟨t', h⟩
  ·exact (wY e rfl).elim
  ·exact (v8 e hm rfl).elim
  ·exact (v8 e hm rfl).elim
  ·exact (qZ e hm rfl).elim
  ·exact (tS (c := []) h (by rw [append_nil]) rfl).elim
  ·exact (tS h e rfl).elim
  ·exact (wY e rfl).elim
 have eq : rQ (n + 2) "_law_single" [zw (T "OP_not" v :: r)] σ = cond (isNone (.dat u)) (zy σ) (.ok (.dat (.tuple [.str "not", u])) σ) := by
  rw [Wt, tR hok, zB, Xd, zJ (by simp; exact Nat.le_trans ‹_› (by decide)), zB]
  obtain e1 : zk ((T "OP_not" v :: r).map za) (some 1) none = r.map za := WC
  rw [e1]
  rw [e]; rfl
 rcases hu with hu | ⟨rfl, hu⟩
 ·exact zg _ (by rw [eq, hu.some]; rfl) (.inl (.not v hu))
 ·exact zg (.none) (by rw [eq]; rfl) (.inr ⟨rfl, fun t h => by refine zd (inv t h) fun t' h' => ?_; exact hu t' h'⟩)
theorem mC (h : r ≠ []) : ∃ m s, r = m ++ [s] := (y4 (r.dropLast) (r.getLast h) ((List.dropLast_concat_getLast h).symm))
theorem gB {s : Tk} : indexK (zw (w ++ [s])) (iV (-1)) K σ = K (.dat (za s)) σ := by
 show chk (z0 (-1)) (opt (yr ((w ++ [s]).map za) (-1)) (fun x => K (.dat x) σ) .bad) = _
 rw [qW (x := za s) (by simp)]
 rfl
theorem WE {a s : Tk} : indexK (zw (a :: (w ++ [s]))) (iV (-1)) K σ = K (.dat (za s)) σ := gB (w := a :: w)
theorem mD {s : Tk} : indexK (.dat (za s)) (iV 0) K σ = K (sV s.1) σ := rfl
theorem mE {a b : Str} {K : Bool → St → Out} : zX .Eq (sV a) (sV b) K σ = K (a == b) σ := rfl
theorem gC {a b : Str} {K : Bool → St → Out} : zX .NotEq (sV a) (sV b) K σ = K (!(a == b)) σ := rfl
theorem WF {m : List PyData} {y : PyData} : zk (x :: (m ++ [y])) (some 1) (some (-1)) = m := by
 rw [show zk (x :: (m ++ [y])) (some 1) (some (-1)) = _ from mu (l := x :: (m ++ [y])) (i := 1) (by simp)]
 simp
theorem WG (hok : ∀ t ∈ T "LPAREN" v :: r, zL t) (hl : r.length ≤ 500) (h : ∀ m s, r = m ++ [s] → RR (n + 1) m σ) : RS (n + 2) (T "LPAREN" v :: r) σ := by
 have inv : ∀ t, D 5 (T "LPAREN" v :: r) t → ∃ v' w', r = w' ++ [T "RPAREN" v'] ∧ D 0 w' t := fun t h => by
  refine rz h (fun v' w' t' e h _ => ?_) (fun v1 v' w' e h => ?_) (fun _ _ _ _ _ e hm _ => ?_) (fun _ _ _ _ _ _ _ e hm _ _ => ?_) (fun _ _ _ _ _ _ _ _ e hm _ _ _ => ?_) (fun _ h _ => ?_) (fun _ _ _ _ _ _ e h _ _ => ?_) (fun _ e _ _ => ?_)
  ·exact (wY e rfl).elim
  ·injection e with _ e2; exact yj v' w' e2 h
  ·exact (v8 e hm rfl).elim
  ·exact (v8 e hm rfl).elim
  ·exact (qZ e hm rfl).elim
  ·exact (tS (c := []) h (by rw [append_nil]) rfl).elim
  ·exact (tS h e rfl).elim
  ·exact (wY e rfl).elim
 have eq0 : rQ (n + 2) "_law_single" [zw (T "LPAREN" v :: r)] σ = sg (n + 1) 96 3 (T "LPAREN" v) r σ := by rw [Wu, tR hok, zB]
 rw [Xe, y8 (by simp; exact Nat.le_trans ‹_› (by decide))] at eq0
 by_cases hr : r = []
 ·subst hr
  refine zg (.none) (by rw [eq0]; rfl) (.inr ⟨rfl, fun t h => ?_⟩)
  refine zx (inv t h) fun v' w' e _ => ?_
  exact absurd e (by simp)
 ·refine zM (mC hr) fun m s W0 => ?_
  obtain rfl := W0
  obtain hl2 : m.length + 1 ≤ 500 := by simpa using hl
  obtain hg : decide ((1 : Int) < ((T "LPAREN" v :: (m ++ [s])).map za).length) = true := decide_eq_true (by simp; lia)
  obtain eq1 : rQ (n + 2) "_law_single" [zw (T "LPAREN" v :: (m ++ [s]))] σ = cond (s.1 == "RPAREN") (chk (zi ((T "LPAREN" v :: (m ++ [s])).map za).length) (onOk (rQ (n + 1) "_law_read" [.dat (.list (zk ((T "LPAREN" v :: (m ++ [s])).map za) (some 1) (some (-1))))] σ) .ok)) (zy σ) := by
   rw [eq0]
   show cond (decide ((1 : Int) < ((T "LPAREN" v :: (m ++ [s])).map za).length)) _ _ = _
   rw [hg, cond_true, WE, mD, mE]
  rw [zJ (by simp; lia), zB] at eq1
  obtain e1 : zk ((T "LPAREN" v :: (m ++ [s])).map za) (some 1) (some (-1)) = m.map za := by
   rw [map_cons, map_append]; exact WF
  rw [e1] at eq1
  cases hs : s.1 == ("RPAREN" : Str) with
  | false =>
   obtain eq1 := (hs ..) ▸ eq1
   refine zg (.none) eq1 (.inr ⟨rfl, fun t h => ?_⟩)
   refine zx (inv t h) fun v' w' e _ => ?_
   obtain this := (append_inj' e rfl).2
   injection this with this
   rw [this] at hs; exact ff hs.symm
  | true =>
   replace eq1 := (hs ..) ▸ eq1
   refine zb (h m s rfl) fun u e hu => ?_
   have eq2 : rQ (n + 2) "_law_single" [zw (T "LPAREN" v :: (m ++ [s]))] σ = .ok (.dat u) σ := by
    rw [eq1]
    rw [e]; rfl
   obtain es := xS hs
   rcases hu with hu | ⟨rfl, hu⟩
   ·exact zg u eq2 (.inl (by rw [es]; exact .paren v s.2 hu))
   ·refine zg (.none) eq2 (.inr ⟨rfl, fun t h => ?_⟩)
    refine zx (inv t h) fun v' w' e h' => ?_
    refine ze (append_inj' e rfl) fun W1 _ => ?_
    obtain rfl := W1
    exact hu t h'
theorem WH (hok : ∀ t ∈ T "IntegerToken" (.int i) :: r, zL t) (hl : r.length ≤ 500) : RS (n + 2) (T "IntegerToken" (.int i) :: r) σ := by
 have inv : ∀ t, D 5 (T "IntegerToken" (.int i) :: r) t → r = [] ∧ (i = 0 ∨ i = 1) := fun t h => by
  refine rz h (fun v' w' t' e h _ => ?_) (fun v1 v' w' e h => ?_) (fun _ _ _ _ _ e hm _ => ?_) (fun _ _ _ _ _ _ _ e hm _ _ => ?_) (fun _ _ _ _ _ _ _ _ e hm _ _ _ => ?_) (fun _ h _ => ?_) (fun _ _ _ _ _ _ e h _ _ => ?_) (fun j e hj _ => ?_)
  ·exact (wY e rfl).elim
  ·exact (wY e rfl).elim
  ·exact (v8 e hm rfl).elim
  ·exact (v8 e hm rfl).elim
  ·exact (qZ e hm rfl).elim
  ·exact (tS (c := []) h (by rw [append_nil]) rfl).elim
  ·exact (tS h e rfl).elim
  ·injection e with e1 e2
   injection e1 with _ e3
   injection e3 with e3
   exact ⟨e2, e3 ▸ hj⟩
 have eq0 : rQ (n + 2) "_law_single" [zw (T "IntegerToken" (.int i) :: r)] σ = cond (decide ((((T "IntegerToken" (.int i) :: r).map za).length : Int) = 1)) (cond (xa i [0, 1]) (.ok (.dat (.tuple [.str "const", .int i])) σ) (zy σ)) (zy σ) := by
  rw [Ww, tR hok, zB, y8 (by simp; exact Nat.le_trans ‹_› (by decide))]
  rfl
 cases r with
 | nil =>
  obtain e1 : decide ((((T "IntegerToken" (.int i) :: []).map za).length : Int) = 1) = true := rfl
  rw [e1, cond_true] at eq0
  by_cases h0 : i = 0
  ·subst h0; exact zg _ eq0 (.inl (.const (.inl rfl)))
  ·by_cases h1 : i = 1
   ·subst h1; exact zg _ eq0 (.inl (.const (.inr rfl)))
   ·obtain e2 : xa i [0, 1] = false := by
     unfold xa xa xa
     refine (decide_eq_false h0 ..).symm ▸ (decide_eq_false h1 ..).symm ▸ ?_; rfl
    rw [e2] at eq0
    exact zg (.none) eq0 (.inr ⟨rfl, fun t h => by refine zh ((inv t h).2) (fun q => ?_) fun q => ?_<;> contradiction⟩)
 | cons a r =>
  obtain e1 : decide ((((T "IntegerToken" (.int i) :: a :: r).map za).length : Int) = 1) = false := decide_eq_false (by simp; lia)
  rw [e1] at eq0
  exact zg (.none) eq0 (.inr ⟨rfl, fun t h => by cases (inv t h).1⟩)
theorem WI {t : Tk} (hok : ∀ x ∈ t :: r, zL x) (h : zu t.1 yQ = false) : RS (n + 2) (t :: r) σ := by
 refine zg (.none) (by rw [Wz n t r σ h, tR hok]; rfl) (.inr ⟨rfl, fun u hu => ?_⟩)
 refine zx (hu.head) fun x w' e hx => ?_
 injection e with e1 _
 rw [e1, hx] at h; exact ff h.symm
noncomputable def x8 (kd sp : Str) : Bool → List Tk → List Bool
 | _, [] => []
 | b, t :: r => cond b (!(t.1 == kd)) (!(t.1 == sp)) :: x8 kd sp (!b) r
noncomputable def uP : Bool → List Tk → List PyData
 | _, [] => []
 | b, t :: r => cond b (t.2 :: uP (!b) r) (uP (!b) r)
theorem gD {kd sp : Str} : ∀ {n : Nat} {w : List Tk}, w.length ≤ n → w.length % 2 = 1 → (x8 kd sp true w).any id = false → zV kd sp w = some (uP true w)
 | _, [], _, h, _ => by simp at h
 | _, [t], _, _, h => by
  dsimp only [zV]
  cases e : t.1 == kd with
  | true => rfl
  | false => simp [x8, e] at h
 | 0, _ :: _ :: _, h, _, _ => by simp at h
 | n + 1, t :: u :: r, hn, hl, h => by
  dsimp only [zV]
  cases e : t.1 == kd with
  | false => simp [x8, e] at h
  | true =>
   cases e2 : u.1 == sp with
   | false => simp [x8, e, e2] at h
   | true =>
    obtain ih := gD (kd := kd) (sp := sp) (n := n) (w := r) (by simp [length_cons] at hn; exact Nat.le_of_lt ‹_›) (by simp only [length_cons] at hl; lia) (by simpa [x8, e, e2] using h)
    rw [ih]; rfl
theorem mF {kd sp : Str} : ∀ {n : Nat} {w : List Tk} {xs : List PyData}, w.length ≤ n → zV kd sp w = some xs → w.length % 2 = 1 ∧ (x8 kd sp true w).any id = false
 | _, [], _, _, h => by exact nn h
 | _, [t], _, _, h => by
  dsimp only [zV] at h
  cases e : t.1 == kd with
  | false => rw [e] at h; exact nn h
  | true => exact ⟨rfl, by simp [x8, e]⟩
 | 0, _ :: _ :: _, _, h, _ => by simp at h
 | n + 1, t :: u :: r, xs, hn, h => by
  dsimp only [zV] at h
  cases e : t.1 == kd with
  | false => replace h := (e ..) ▸ h; exact nn h
  | true =>
   rw [e] at h
   cases e2 : u.1 == sp with
   | false => replace h := (e2 ..) ▸ h; exact nn h
   | true =>
    replace h := (e2 ..) ▸ h
    simp only [cond_true] at h
    cases e3 : zV kd sp r with
    | none => rw [e3] at h; exact nn h
    | some ys =>
     refine ze (mF (n := n) (by simp [length_cons] at hn; exact Nat.le_of_lt ‹_›) e3) fun h1 h2 => ?_
     exact ⟨by simp only [length_cons]; lia, by simpa [x8, e, e2] using h2⟩
noncomputable def wZ : Option (List PyData) → PyData
 | some xs => .tuple xs
 | none => .none
theorem q4 {b : Bool} (h : decide (i.fmod 2 = 0) = b) : decide ((i + 1).fmod 2 = 0) = !b := by
 rw [Int.fmod_eq_emod_of_nonneg _ (by decide)] at h ⊢
 refine (h) ▸ ?_
 by_cases h : i % 2 = 0
 ·rw [decide_eq_true h, decide_eq_false (by lia)]; rfl
 ·rw [decide_eq_false h, decide_eq_true (by lia)]; rfl
theorem mG {n : Nat} {l : List PyData} {kd sp : Str} {σ : St} : ∀ (w : List Tk) (i : Int) (b : Bool) (K : List PyData → St → Out), decide (i.fmod 2 = 0) = b →
  compK (cB xf (yu l kd sp)) (cT n 97 xf) (cE n 97 xf) (wX i (w.map za)) K σ = K ((x8 kd sp b w).map .bool) σ
 | [], _, _, _, _ => rfl
 | t :: r, i, b, K, h => by
  obtain e1 : wX i (List.map za (t :: r)) = .tuple [.int i, za t] :: wX (i + 1) (r.map za) := rfl
  rw [e1, tL (X6 l kd sp i (za t)), X7, cond_true, X8, h]
  cases b with
  | true => exact mG r (i + 1) false (fun ds => K (.bool (!(t.1 == kd)) :: ds)) (q4 h)
  | false => exact mG r (i + 1) true (fun ds => K (.bool (!(t.1 == sp)) :: ds)) (q4 h)
theorem mH {n : Nat} {l : List PyData} {kd sp : Str} {σ : St} : ∀ (w : List Tk) (i : Int) (b : Bool) (K : List PyData → St → Out), decide (i.fmod 2 = 0) = b →
  compK (cB xA (yu l kd sp)) (cT n 96 xA) (cE n 96 xA) (wX i (w.map za)) K σ = K (uP b w) σ
 | [], _, _, _, _ => rfl
 | t :: r, i, b, K, h => by
  obtain e1 : wX i (List.map za (t :: r)) = .tuple [.int i, za t] :: wX (i + 1) (r.map za) := rfl
  rw [e1, tL (Wg l kd sp i (za t)), Wh, h]
  cases b with
  | true =>
   rw [cond_true, Wi]
   exact mH r (i + 1) false (fun ds => K (t.2 :: ds)) (q4 h)
  | false => exact mH r (i + 1) true K (q4 h)
theorem WJ {bs : List Bool} {K : Bool → St → Out} (hl : bs.length ≤ 1000) : xD .any [.dat (.list (bs.map .bool))] (fun v σ => vc v K σ) σ = K (bs.any id) σ := by
 show opt (vb (bs.map .bool)) (fun cs => chk (zi (bs.map PyData.bool).length) (K (cs.any id) σ)) .bad = _
 rw [mx, zJ (by simpa using hl)]; rfl
theorem gE {kd sp : Str} : ∀ (w : List Tk) (b : Bool), (x8 kd sp b w).length = w.length
 | [], _ => rfl
 | t :: r, b => by rw [x8, length_cons, length_cons, gE r]
theorem gF : ∀ (w : List Tk) (b : Bool), (uP b w).length ≤ w.length
 | [], _ => Nat.le_refl _
 | t :: r, b => by
  obtain this := gF r (!b)
  rw [uP]
  cases b <;> simp only [cond_true, cond_false, length_cons] at * <;> lia
theorem mI (n : Nat) (w : List Tk) (kd sp : Str) (σ : St) (hl : w.length ≤ 500) : rQ (n + 1) "_law_every_other" [zw w, sV kd, sV sp] σ = .ok (.dat (wZ (zV kd sp w))) σ := by
 have hl' : (w.map za).length ≤ 1000 := by simp; exact Nat.le_trans ‹_› (by decide)
 rw [X1, y8 hl']
 show cond (decide (((((w.map za).length : Nat) : Int)).fmod 2 = 0)) _ _ = _
 rw [Int.fmod_eq_emod_of_nonneg _ (by decide), length_map]
 by_cases hp : ((w.length : Nat) : Int) % 2 = 0
 ·rw [decide_eq_true hp, cond_true]
  obtain this : zV kd sp w = none := by
   cases e : zV kd sp w with
   | none => rfl
   | some xs => have := (mF (Nat.le_refl _) e).1; lia
  rw [this]; rfl
 ·rw [decide_eq_false hp, cond_false, tK n 97 true yo _ xf _ σ X2 (X3 _ kd sp), X4, zJ hl', zB, qX, mG w _ true _ rfl, X5, cond_false, WJ (by rw [gE]; exact Nat.le_trans ‹_› (by decide))]
  cases hm : (x8 kd sp true w).any id with
  | true =>
   obtain this : zV kd sp w = none := by
    cases e : zV kd sp w with
    | none => rfl
    | some xs => have := (mF (Nat.le_refl _) e).2; rw [hm] at this; exact ff this.symm
   rw [this]; rfl
  | false =>
   rw [gD (Nat.le_refl _) (by lia) hm, cond_false]
   unfold qT
   rw [tK n 96 true yo _ xA _ σ X9 (Wc _ kd sp), We, zJ hl', zB, qX, mH w _ true _ rfl, Wf, cond_false]
   show chk (zi (uP true w).length) _ = _
   rw [zJ (by obtain this := gF w true; lia)]; rfl
noncomputable def yA (w : List Tk) : List PyData := w.map fun t => .str t.1
theorem gG {n : Nat} {t : Tk} {r : List Tk} {σ : St} : ∀ (w : List Tk) (K : List PyData → St → Out), compK (cB xz (xx t r)) (cT n 92 xz) (cE n 92 xz) (w.map za) K σ = K (yA w) σ
 | [], _ => rfl
 | x :: w, K => by
  rw [map_cons, tL (XF t r (za x)), XG, cond_true, XH]
  exact gG w (fun ds => K (.str x.1 :: ds))
theorem mJ : ∀ (w : List Tk), wt (yA w) = some (w.map (·.1))
 | [] => rfl
 | t :: w => by
  obtain ih := mJ w
  show (wt (yA w)).map (t.1 :: ·) = _
  rw [ih]; rfl
theorem gH {s : Str} : ∀ (w : List Tk) (k : Nat), (zu s (w.map (·.1)) = false ∧ ∀ p ∈ w, p.1 ≠ s) ∨ (zu s (w.map (·.1)) = true ∧ ∃ w1 u w2, w = w1 ++ T s u :: w2 ∧ (∀ p ∈ w1, p.1 ≠ s) ∧ vd s k (w.map (·.1)) = some (k + w1.length))
 | [], _ => .inl ⟨rfl, fun p hp => (nomatch hp)⟩
 | t :: w, k => by
  rw [map_cons, zu, vd]
  by_cases h : t.1 = s
  ·right
   rw [h, beq_self_eq_true]
   refine ⟨rfl, [], t.2, w, by refine (h ..) ▸ ?_; rfl, fun p hp => (nomatch hp), rfl⟩
  ·obtain h1 : (s == t.1) = false := beq_eq_false_iff_ne.mpr (Ne.symm h)
   obtain h2 : (t.1 == s) = false := beq_eq_false_iff_ne.mpr h
   refine (h1 ..).symm ▸ (h2 ..).symm ▸ (cond_false ..).symm ▸ (cond_false ..).symm ▸ ?_
   rcases gH (s := s) w (k + 1) with ⟨e1, e2⟩ | ⟨e1, w1, u, w2, rfl, e2, e3⟩
   ·refine .inl ⟨e1, fun p hp => ?_⟩
    refine zh (mem_cons.mp hp) (fun W0 => ?_) fun hp => ?_
    ·refine (W0) ▸ ?_; exact h
    ·exact e2 p hp
   ·refine .inr ⟨e1, t :: w1, u, w2, rfl, fun p hp => ?_, by rw [e3, length_cons]; congr 1; lia⟩
    refine zh (mem_cons.mp hp) (fun W1 => ?_) fun hp => ?_
    ·refine (W1) ▸ ?_; exact h
    ·exact e2 p hp
theorem SL.kinds {xs : List PyData} (h : SL kd sp w xs) : ∀ p ∈ w, p.1 = kd ∨ p.1 = sp := by
 induction h with
 | one x => intro p hp; refine (mem_singleton.mp hp ..).symm ▸ ?_; exact .inl rfl
 | cons x v _ ih =>
  intro p hp
  refine zh (mem_cons.mp hp) (fun W0 => ?_) fun hp => ?_
  ·refine (W0) ▸ ?_; exact .inl rfl
  ·refine zh (mem_cons.mp hp) (fun W1 => ?_) fun hp => ?_
   ·refine (W1) ▸ ?_; exact .inr rfl
   ·exact ih p hp
theorem WK {a b a2 b2 : List Tk} {u2 : PyData} (e : a ++ T s u :: b = a2 ++ T s u2 :: b2) (h1 : ∀ p ∈ a, p.1 ≠ s) (h2 : ∀ p ∈ a2, p.1 ≠ s) : a = a2 ∧ b = b2 := by
 refine lz (List.append_eq_append_iff.mp e) (fun c e3 e4 => ?_) fun c e3 e4 => ?_
 ·cases c with
  | nil => simp at e3 e4; exact ⟨e3.symm, e4.2⟩
  | cons x c =>
   simp only [cons_append, List.cons.injEq] at e4
   obtain ⟨rfl, rfl⟩ := e4
   exact absurd rfl (h2 (T s u) (by rw [e3]; exact mem_append_right _ (mem_cons_self ..)))
 ·cases c with
  | nil => simp at e3 e4; exact ⟨e3, e4.2.symm⟩
  | cons x c =>
   simp only [cons_append, List.cons.injEq] at e4
   obtain ⟨rfl, rfl⟩ := e4
   exact absurd rfl (h1 (T s u2) (by rw [e3]; exact mem_append_right _ (mem_cons_self ..)))
theorem gI (h : D 5 (T "NameToken" v :: r) t) : (∃ ns, SL "NameToken" "DOT" (T "NameToken" v :: r) ns) ∨
  (∃ u u' w1 w2 ns is, T "NameToken" v :: r = w1 ++ T "LBRACK" u :: (w2 ++ [T "RBRACK" u']) ∧ SL "NameToken" "DOT" w1 ns ∧ SL "IntegerToken" "COMMA" w2 is) := by
 refine rz h (fun v' w' t' e h _ => ?_) (fun v1 v' w' e h => ?_) (fun _ _ _ _ _ e hm _ => ?_) (fun _ _ _ _ _ _ _ e hm _ _ => ?_) (fun _ _ _ _ _ _ _ _ e hm _ _ _ => ?_) (fun ns h _ => ?_) (fun u u' w1 w2 ns is e h h' _ => ?_) (fun j e hj _ => ?_)
 ·exact (wY e rfl).elim
 ·exact (wY e rfl).elim
 ·exact (v8 e hm rfl).elim
 ·exact (v8 e hm rfl).elim
 ·exact (qZ e hm rfl).elim
 ·exact .inl ⟨ns, h⟩
 ·exact .inr ⟨u, u', w1, w2, ns, is, e, h, h'⟩
 ·exact (wY e rfl).elim
theorem gJ {ns : List PyData} (h : SL "NameToken" "DOT" w ns) : ∀ p ∈ w, p.1 ≠ "LBRACK" := fun p hp e => by
 refine zh (h.kinds p hp) (fun q => ?_) fun q => ?_
 ·rw [e] at q; exact absurd q (by decide)
 ·rw [e] at q; exact absurd q (by decide)
theorem TN (o : Option (List PyData)) : isNone (.dat (wZ o)) = o.isNone := by cases o <;> rfl
noncomputable def WL (o1 o2 : Option (List PyData)) (σ : St) : Out := match o1, o2 with
 | some ns, some is => .ok (.dat (zS "var" (.tuple ns.reverse) (.tuple is))) σ
 | _, _ => zy σ
theorem gK {o1 o2 : Option (List PyData)} (h : ∀ ns, o1 = some ns → ns.length ≤ 900) : uM (wZ o1) (.dat (wZ o2)) σ = WL o1 o2 σ := by
 cases o1 with
 | none => rfl
 | some ns =>
  cases o2 with
  | none => rfl
  | some is =>
   show chk (zi ns.length) _ = _
   rw [zJ (by obtain this := h ns rfl; exact Nat.le_trans ‹_› (by decide))]; rfl
theorem gL {xs : List PyData} (h : zV kd sp w = some xs) : xs.length ≤ w.length := (rt (Nat.le_refl _) h).pos.2
theorem WM (hok : ∀ t ∈ T "NameToken" v :: r, zL t) (hl : (T "NameToken" v :: r).length ≤ 500) : RS (n + 3) (T "NameToken" v :: r) σ := by
 generalize hw : T "NameToken" v :: r = w at hok hl
 have hlen : (w.map za).length ≤ 1000 := by simp; lia
 have hkl : (yA w).length ≤ 1000 := by simp [yA]; lia
 obtain eq0 : rQ (n + 3) "_law_single" [zw w] σ = gd (n + 2) (T "NameToken" v) r (yA w) σ := by
  subst hw
  rw [Wv, tR hok, zB, XA, tK (n + 2) 92 true ya _ xz _ σ XB (XC _ r), XD, zJ hlen, zB, gG, XE, cond_true]
 rw [XI, XJ, hw] at eq0
 obtain e1 : ∀ K : Bool → St → Out, vH (sV "LBRACK") (.kin (yA w)) K σ = K (zu "LBRACK" (w.map (·.1))) σ := fun K => by
  show opt (wt (yA w)) (fun ss => chk (zi (yA w).length) (K (zu "LBRACK" ss) σ)) .bad = _
  rw [mJ]
  rw [zJ hkl]; rfl
 replace eq0 := (e1 ..) ▸ eq0
 rcases gH (s := "LBRACK") w 0 with ⟨e2, hno⟩ | ⟨e2, w1, u, w2, hsp, hno, hidx⟩
 ·-- no bracket
  rw [e2, cond_false, y8 hlen] at eq0
  obtain hll : ((w.map za).length : Int) = ((w.length : Nat) : Int) := by simp
  rw [hll, gj, xg (by lia) (by lia), zB, hw, zJ hlen, zB, tQ (by simp)] at eq0
  obtain e3 : (w.map za).take w.length = w.map za := List.take_of_length_le (by simp)
  rw [e3] at eq0
  obtain e4 := mI (n + 1) w "NameToken" "DOT" σ (by assumption)
  obtain eq1 : rQ (n + 3) "_law_single" [zw w] σ = qS (n + 2) (T "NameToken" v) r (yA w) w.length (wZ (zV "NameToken" "DOT" w)) σ := by
   rw [eq0, e4]; rfl
  rw [gm, hw, y8 hlen] at eq1
  obtain e5 : ∀ K : Bool → St → Out, zX .Lt (iV (w.length : Nat)) (iV (w.map za).length) K σ = K false σ := fun K => by
   show K (decide (((w.length : Nat) : Int) < ((w.map za).length : Nat))) σ = _
   rw [decide_eq_false (by simp)]
  rw [e5, cond_false] at eq1
  obtain e6 := gK (o1 := zV "NameToken" "DOT" w) (o2 := some []) (σ := σ) (fun ns h => by obtain this := gL h; lia)
  have eq2 : rQ (n + 3) "_law_single" [zw w] σ = _ := eq1.trans e6
  cases ho : zV "NameToken" "DOT" w with
  | some ns =>
   rw [ho] at eq2
   exact (zg _ eq2 (.inl (.var (rt (Nat.le_refl _) ho))))
  | none =>
   obtain eq2 := (ho ..) ▸ eq2
   refine zg (.none) eq2 (.inr ⟨rfl, fun t h => ?_⟩)
   rw [← hw] at h
   rcases gI h with ⟨ns, h⟩ | ⟨u, u', w1, w2, ns, is, e, h, h'⟩
   ·rw [hw] at h
    rw [mr h] at ho; injection ho
   ·rw [hw] at e
    exact hno (T "LBRACK" u) (by rw [e]; exact mem_append_right _ (mem_cons_self ..)) rfl
 ·-- a bracket
  rw [e2, cond_true] at eq0
  have hl1 : w1.length + w2.length + 1 ≤ 500 := by rw [hsp] at hl; simpa [Nat.add_assoc] using hl
  obtain e3 : ∀ K : KV, uk (.kin (yA w)) xY [sV "LBRACK"] K σ = K (iV (w1.length : Nat)) σ := fun K => by
   show chk (xY == xY) (opt (wt (yA w)) (fun ss => chk (zi (yA w).length) (opt (vd "LBRACK" 0 ss) (fun i => K (.dat (.int i)) σ) .bad)) .bad) = _
   rw [mJ, beq_self_eq_true, zB, eQ, zJ hkl, zB, hidx, Nat.zero_add]
   rfl
  rw [e3, gj, xg (by lia) (by lia), zB, hw, zJ hlen, zB, tQ (by rw [hsp]; simp)] at eq0
  obtain e4 : (w.map za).take w1.length = w1.map za := by rw [hsp]; simp
  rw [e4] at eq0
  obtain e5 := mI (n + 1) w1 "NameToken" "DOT" σ (by lia)
  obtain eq1 : rQ (n + 3) "_law_single" [zw w] σ = qS (n + 2) (T "NameToken" v) r (yA w) w1.length (wZ (zV "NameToken" "DOT" w1)) σ := by
   rw [eq0, e5]; rfl
  rw [gm, hw, y8 hlen] at eq1
  obtain e6 : ∀ K : Bool → St → Out, zX .Lt (iV (w1.length : Nat)) (iV (w.map za).length) K σ = K true σ := fun K => by
   show K (decide (((w1.length : Nat) : Int) < ((w.map za).length : Nat))) σ = _
   rw [decide_eq_true (by rw [hsp]; simp; lia)]
  replace eq1 := (cond_true ..) ▸ (e6 ..) ▸ eq1
  have fail : rQ (n + 3) "_law_single" [zw w] σ = zy σ → (∀ u' mid, w2 = mid ++ [T "RBRACK" u'] → zV "NameToken" "DOT" w1 = none ∨ zV "IntegerToken" "COMMA" mid = none) → RS (n + 3) w σ := fun e hf => by
   refine zg (.none) e (.inr ⟨rfl, fun t h => ?_⟩)
   rw [← hw] at h
   rcases gI h with ⟨ns, h⟩ | ⟨u2, u', y1, y2, ns, is, e, h, h'⟩
   ·rw [hw, hsp] at h
    exact gJ h (T "LBRACK" u) (mem_append_right _ (mem_cons_self ..)) rfl
   ·replace e := (hsp ..) ▸ (hw ..) ▸ e
    refine ze (WK e hno (gJ h)) fun W0 W1 => ?_
    obtain rfl := W0
    obtain rfl := W1
    refine zh (hf u' y2 rfl) (fun q => ?_) fun q => ?_
    ·rw [mr h] at q; injection q
    ·rw [mr h'] at q; injection q
  by_cases hw2 : w2 = []
  ·subst hw2
   obtain e7 : yr (yA w) (-1) = some (.str "LBRACK") := qW (by rw [hsp]; simp [yA])
   obtain e8 : ∀ K : KV, indexK (.kin (yA w)) (iV (-1)) K σ = K (sV "LBRACK") σ := fun K => by
    show chk (z0 (-1)) (opt (yr (yA w) (-1)) (fun x => K (.dat x) σ) .bad) = _
    refine (e7 ..).symm ▸ ?_; rfl
   rw [e8, mE] at eq1
   obtain e9 : (("LBRACK" : Str) == "RBRACK") = false := by kernel_rfl
   rw [e9, cond_false] at eq1
   obtain e10 : uM (wZ (zV "NameToken" "DOT" w1)) (.dat .none) σ = zy σ := by
    cases zV "NameToken" "DOT" w1 <;> rfl
   exact fail (eq1.trans e10) fun u' mid e => absurd e (by simp)
  ·refine zM (mC hw2) fun mid s W2 => ?_
   obtain rfl := W2
   obtain hl2 : w1.length + mid.length + 2 ≤ 500 := by simp only [length_append, length_cons, length_nil] at hl1; assumption
   have e0k : yA w = yA (w1 ++ T "LBRACK" u :: mid) ++ [.str s.1] := by rw [hsp]; simp [yA]
   have e7 : yr (yA w) (-1) = some (.str s.1) := qW (by rw [e0k]; simp)
   have e8 : ∀ K : KV, indexK (.kin (yA w)) (iV (-1)) K σ = K (sV s.1) σ := fun K => by
    show chk (z0 (-1)) (opt (yr (yA w) (-1)) (fun x => K (.dat x) σ) .bad) = _
    refine (e7 ..).symm ▸ ?_; rfl
   rw [e8, mE] at eq1
   cases hs : s.1 == ("RBRACK" : Str) with
   | false =>
    rw [hs, cond_false] at eq1
    have e10 : uM (wZ (zV "NameToken" "DOT" w1)) (.dat .none) σ = zy σ := by
     cases zV "NameToken" "DOT" w1 <;> rfl
    refine fail (eq1.trans e10) fun u' mid' e => ?_
    obtain this := (append_inj' e rfl).2
    injection this with this
    rw [this] at hs; exact ff hs.symm
   | true =>
    rw [hs, cond_true, xg (by lia) (by lia), zB, zJ hlen, zB] at eq1
    have ec : ((w1.length : Nat) : Int) + 1 = ((w1.length + 1 : Nat) : Int) := by lia
    obtain e10 : zk (w.map za) (some (((w1.length : Nat) : Int) + 1)) (some (-1)) = mid.map za := by
     obtain e0 : w.map za = (w1.map za ++ [za (T "LBRACK" u)]) ++ (mid.map za ++ [za s]) := by rw [hsp]; simp
     rw [ec, mu (by rw [hsp]; simp), e0, List.drop_left' (by simp), List.dropLast_concat]
    rw [e10] at eq1
    obtain e11 := mI (n + 1) mid "IntegerToken" "COMMA" σ (by lia)
    have eq2 : rQ (n + 3) "_law_single" [zw w] σ = uM (wZ (zV "NameToken" "DOT" w1)) (.dat (wZ (zV "IntegerToken" "COMMA" mid))) σ := by
     rw [eq1]
     rw [e11]; rfl
    rw [gK (fun ns h => by obtain this := gL h; lia)] at eq2
    obtain es := xS hs
    cases h1 : zV "NameToken" "DOT" w1 with
    | none =>
     rw [h1] at eq2
     exact fail eq2 fun _ _ _ => .inl h1
    | some ns =>
     cases h2 : zV "IntegerToken" "COMMA" mid with
     | none =>
      rw [h1, h2] at eq2
      refine fail eq2 fun u' mid' e => .inr ?_
      refine ze (append_inj' e rfl) fun W3 _ => ?_
      refine (W3) ▸ ?_
      exact h2
     | some is =>
      rw [h1, h2] at eq2
      refine zg _ eq2 (.inl ?_)
      rw [hsp, es]
      exact .varI u s.2 (rt (Nat.le_refl _) h1) (rt (Nat.le_refl _) h2)
theorem WN (h : (kd, nm) ∈ zT) (n : Nat) (v : PyData) (r : List Tk) (ps : List PyData) (σ : St) : wl (n + 1) (kd, v) r ps σ = uK (n + 1) (wB (kd, v) r ps) (fun b σ => cond b (zy σ) (vv nm ps σ)) σ :=
 words_ind (P := fun kd nm => ∀ v r ps σ, wl (n + 1) (kd, v) r ps σ = uK (n + 1) (wB (kd, v) r ps) (fun b σ => cond b (zy σ) (vv nm ps σ)) σ) (fun _ _ _ _ => by kernel_rfl) (fun _ _ _ _ => by kernel_rfl) (fun _ _ _ _ => by kernel_rfl) (fun _ _ _ _ => by kernel_rfl) (fun _ _ _ _ => by kernel_rfl) (fun _ _ _ _ => by kernel_rfl) (fun _ _ _ _ => by kernel_rfl) (fun _ _ _ _ => by kernel_rfl) (fun _ _ _ _ => by kernel_rfl) (fun _ _ _ _ => by kernel_rfl) (fun _ _ _ _ => by kernel_rfl) (fun _ _ _ _ => by kernel_rfl) h v r ps σ
theorem WO (h : (kd, nm) ∈ zT) (hl : ps.length ≤ 900) : wl (n + 1) (kd, v) r ps σ = cond (ps.any xh) (zy σ) (.ok (.dat (.tuple (.str nm :: ps))) σ) := by
 rw [WN h, qY _ (by lia), gz hl]
theorem WP {c : Nat} (h : (kd, nm, c) ∈ z8) (hl : ps.length ≤ 900) : wl (n + 1) (kd, v) r ps σ = cond (ps.any xh) (zy σ) (cond (decide (ps.length = c)) (.ok (.dat (.tuple (.str nm :: ps))) σ) (zy σ)) := by
 obtain e1 : ∀ (c : Nat), (zK (.dat (.list ps)) (fun u σ => zX .Eq u (iV (c : Nat)) (fun b σ => cond b (vv nm ps σ) (zy σ)) σ) σ) = cond (decide (ps.length = c)) (.ok (.dat (.tuple (.str nm :: ps))) σ) (zy σ) := fun c => by
  rw [y8 (by lia)]
  show cond (decide (((ps.length : Nat) : Int) = ((c : Nat) : Int))) _ _ = _
  rw [gz hl]
  by_cases h : ps.length = c
  ·rw [decide_eq_true h, decide_eq_true (by exact h.symm ▸ rfl)]
  ·rw [decide_eq_false h, decide_eq_false (by lia)]
 refine o8 (P := fun kd nm c => (∀ (c : Nat), (zK (.dat (.list ps)) (fun u σ => zX .Eq u (iV (c : Nat)) (fun b σ => cond b (vv nm ps σ) (zy σ)) σ) σ) = cond (decide (ps.length = c)) (.ok (.dat (.tuple (.str nm :: ps))) σ) (zy σ)) → wl (n + 1) (kd, v) r ps σ = cond (ps.any xh) (zy σ) (cond (decide (ps.length = c)) (.ok (.dat (.tuple (.str nm :: ps))) σ) (zy σ))) (fun e1 => ?_) (fun e1 => ?_) (fun e1 => ?_) h e1
 ·rw [Xi, qY _ (by lia)]; exact congrArg _ (e1 3)
 ·rw [Xj, qY _ (by lia)]; exact congrArg _ (e1 2)
 ·rw [Xk, qY _ (by lia)]; exact congrArg _ (e1 1)
inductive Wd9 (m : List Tk) : List PyData → Prop
 | nil : m = [] → Wd9 m []
 | args {us : List PyData} : D 9 m (.tuple us) → Wd9 m us
theorem DS.len (h : DS ss ts) : ts.length = ss.length := by
 induction h with
 | nil => rfl
 | cons _ _ ih => exact length_cons.symm ▸ length_cons.symm ▸ ih.symm ▸ rfl
theorem mK {kd : Str} : ∀ (w : List Tk) (d : Int) (cur : List Tk), ∀ s ∈ ct kd d cur w, s.length ≤ cur.length + w.length ∧ ∀ t ∈ s, t ∈ cur ∨ t ∈ w
 | [], _, cur, s, hs => by
  refine (mem_singleton.mp hs ..).symm ▸ ?_
  exact ⟨by simp, fun t ht => .inl ht⟩
 | x :: w, d, cur, s, hs => by
  obtain h1 : ∀ d', s ∈ ct kd d' [] w → s.length ≤ cur.length + (x :: w).length ∧ ∀ t ∈ s, t ∈ cur ∨ t ∈ x :: w := fun d' h => by
   refine ze (mK w d' [] s h) fun a b => ?_
   refine ⟨by simp only [length_cons, length_nil] at *; lia, fun t ht => ?_⟩
   refine zh (b t ht) (fun q => ?_) fun q => ?_
   ·cases q
   ·exact .inr (mem_cons_of_mem _ q)
  obtain h2 : ∀ d', s ∈ ct kd d' (cur ++ [x]) w → s.length ≤ cur.length + (x :: w).length ∧ ∀ t ∈ s, t ∈ cur ∨ t ∈ x :: w := fun d' h => by
   refine ze (mK w d' (cur ++ [x]) s h) fun a b => ?_
   refine ⟨by simp only [length_append, length_cons, length_nil] at *; lia, fun t ht => ?_⟩
   refine zh (b t ht) (fun q => ?_) fun q => ?_
   ·refine zh (mem_append.mp q) (fun q => ?_) fun q => ?_
    ·exact .inl q
    ·rw [mem_singleton.mp q]; exact .inr (mem_cons_self ..)
   ·exact .inr (mem_cons_of_mem _ q)
  obtain h3 : s = cur → s.length ≤ cur.length + (x :: w).length ∧ ∀ t ∈ s, t ∈ cur ∨ t ∈ x :: w := fun e => by
   rw [e]; exact ⟨by simp, fun t ht => .inl ht⟩
  have h4 : ∀ (b : Bool) d', s ∈ cond b (cur :: ct kd d' [] w) (ct kd d' (cur ++ [x]) w) → s.length ≤ cur.length + (x :: w).length ∧ ∀ t ∈ s, t ∈ cur ∨ t ∈ x :: w := fun b d' h => by
   cases b with
   | true =>
    refine zh (mem_cons.mp h) (fun q => ?_) fun q => ?_
    ·exact h3 q
    ·exact h1 d' q
   | false => exact h2 d' h
  replace hs := (qV ..) ▸ hs
  revert hs
  cases z9 x.1 with
  | true => exact h4 _ _
  | false => cases ye x.1 with
   | true => exact h4 _ _
   | false => exact h4 _ _
theorem mL {kd : Str} : ∀ (w : List Tk) (d : Int) (cur : List Tk), (ct kd d cur w).length ≤ w.length + 1
 | [], _, _ => Nat.le_refl _
 | x :: w, d, cur => by
  have h4 : ∀ (b : Bool) d', (cond b (cur :: ct kd d' [] w) (ct kd d' (cur ++ [x]) w)).length ≤ (x :: w).length + 1 := fun b d' => by
   obtain h1 := mL (kd := kd) w d' []
   obtain h2 := mL (kd := kd) w d' (cur ++ [x])
   cases b <;> simp [cond_true, cond_false, length_cons] <;> lia
  rw [qV]
  cases z9 x.1 with
  | true => exact h4 _ _
  | false => cases ye x.1 with
   | true => exact h4 _ _
   | false => exact h4 _ _
theorem gM {n : Nat} {σ : St} : ∀ (ss : List (List Tk)), (∀ s ∈ ss, RR n s σ) → ∃ us, AL (Rd n σ) ss us ∧ ((us.any xh = false ∧ DS ss us) ∨ (us.any xh = true ∧ ∀ ts, ¬ DS ss ts))
 | [], _ => (zg ([]) (.nil) (.inl ⟨rfl, .nil⟩))
 | s :: ss, h => by
  refine zb (gM ss fun s hs => h s (mem_cons_of_mem _ hs)) fun us h1 h2 => ?_
  refine zb (h s (mem_cons_self ..)) fun u e hu => ?_
  refine zg (u :: us) (.cons e h1) ?_
  rcases hu with hu | ⟨rfl, hu⟩
  ·obtain e1 : xh u = false := hu.some
   refine (List.any_cons ..).symm ▸ (e1 ..).symm ▸ (Bool.false_or ..).symm ▸ ?_
   rcases h2 with ⟨h3, h4⟩ | ⟨h3, h4⟩
   ·exact .inl ⟨h3, .cons hu h4⟩
   ·refine .inr ⟨h3, fun ts hts => ?_⟩
    cases hts with
    | cons _ h5 => exact h4 _ h5
  ·refine .inr ⟨rfl, fun ts hts => ?_⟩
   cases hts with
   | cons h5 _ => exact hu _ h5
theorem WQ (hk : (∃ nm, (kd, nm) ∈ zT) ∨ ∃ nm c, (kd, nm, c) ∈ z8) (hok : ∀ t ∈ T kd v :: r, zL t) (hl : (T kd v :: r).length ≤ 500)
  (h : ∀ s : List Tk, s.length < r.length → (∀ t ∈ s, t ∈ r) → RR (n + 2) s σ) :
  (rQ (n + 3) "_law_single" [zw (T kd v :: r)] σ = zy σ ∧ ∀ v1 v2 m, r ≠ T "LPAREN" v1 :: (m ++ [T "RPAREN" v2])) ∨
  ∃ v1 v2 m us, r = T "LPAREN" v1 :: (m ++ [T "RPAREN" v2]) ∧ us.length ≤ m.length + 1 ∧ rQ (n + 3) "_law_single" [zw (T kd v :: r)] σ = wl (n + 2) (kd, v) r us σ ∧
   ((us.any xh = false ∧ Wd9 m us) ∨ (us.any xh = true ∧ m ≠ [] ∧ ∀ ts, ¬ D 9 m (.tuple ts))) ∧ (m ≠ [] → ∀ ts, D 9 m (.tuple ts) → ts.length = us.length) := by
 obtain eq0 : rQ (n + 3) "_law_single" [zw (T kd v :: r)] σ = tv (ev (rQ (n + 2)) Gb 94 true ya (xx (T kd v) r)) 94 ml (fun c σ => cond c (zy σ) (mj (n + 2) (T kd v) r σ)) σ := by
  rw [Wx hk, tR hok, zB, Xf]
 have hlen : ((T kd v :: r).map za).length ≤ 1000 := by simp at hl ⊢; exact Nat.le_trans ‹_› (by decide)
 rw [Xg, y8 hlen] at eq0
 have hlm : (((T kd v :: r).map za).length : Int) = ((r.length : Nat) : Int) + 1 := by simp
 rw [hlm] at eq0
 obtain eLt : ∀ K : Bool → St → Out, zX .Lt (iV (((r.length : Nat) : Int) + 1)) (iV 3) K σ = K (decide (((r.length : Nat) : Int) + 1 < 3)) σ := fun K => rfl
 replace eq0 := (eLt ..) ▸ eq0
 by_cases hlt : ((r.length : Nat) : Int) + 1 < 3
 ·rw [decide_eq_true hlt, cond_true, cond_true] at eq0
  refine .inl ⟨eq0, fun v1 v2 m e => ?_⟩
  rw [e] at hlt; simp at hlt; lia
 ·rw [decide_eq_false hlt, cond_false] at eq0
  rcases r with _ | ⟨a, _ | ⟨b, r'⟩⟩
  ·simp at hlt
  ·simp at hlt
  ·refine zM (mC (r := b :: r') (by simp)) fun m s hms => ?_
   rw [hms] at hok hl h eq0 hlen ⊢
   obtain hi1 : ∀ K : KV, indexK (zw (T kd v :: a :: (m ++ [s]))) (iV 1) K σ = K (.dat (za a)) σ := fun K => rfl
   obtain hi2 : ∀ K : KV, indexK (zw (T kd v :: a :: (m ++ [s]))) (iV (-1)) K σ = K (.dat (za s)) σ := fun K => gB (w := T kd v :: a :: m)
   rw [hi1, mD, gC] at eq0
   cases ha : a.1 == ("LPAREN" : Str) with
   | false =>
    obtain eq0 := (ha ..) ▸ eq0
    refine .inl ⟨eq0, fun v1 v2 m' e => ?_⟩
    injection e with e _
    rw [e] at ha; injection ha
   | true =>
    replace eq0 := (gC ..) ▸ (mD ..) ▸ (hi2 ..) ▸ (cond_false ..) ▸ (Bool.not_true ..) ▸ (ha ..) ▸ eq0
    cases hs : s.1 == ("RPAREN" : Str) with
    | false =>
     obtain eq0 := (hs ..) ▸ eq0
     refine .inl ⟨eq0, fun v1 v2 m' e => ?_⟩
     injection e with _ e
     obtain this := (append_inj' e rfl).2
     injection this with this
     rw [this] at hs; injection hs
    | true =>
     rw [hs, Bool.not_true, cond_false, cond_false, Xh, y8 hlen] at eq0
     have hlm2 : (((T kd v :: a :: (m ++ [s])).map za).length : Int) = ((m.length : Nat) : Int) + 3 := by simp; rfl
     rw [hlm2] at eq0
     obtain eGt : ∀ K : Bool → St → Out, zX .Gt (iV (((m.length : Nat) : Int) + 3)) (iV 3) K σ = K (decide ((3 : Int) < ((m.length : Nat) : Int) + 3)) σ := fun K => rfl
     replace eq0 := (eGt ..) ▸ eq0
     obtain ea := xS ha
     obtain es := xS hs
     have hsh : a :: (m ++ [s]) = T "LPAREN" a.2 :: (m ++ [T "RPAREN" s.2]) := by exact ea ▸ es ▸ rfl
     have hl3 : m.length + 3 ≤ 500 := by simp only [length_cons, length_append, length_nil] at hl; assumption
     right
     by_cases hm : m = []
     ·subst hm
      rw [decide_eq_false (by trivial), cond_false] at eq0
      exact lr (a.2) (s.2) ([]) ([]) hsh (Nat.zero_le _) eq0 (.inl ⟨rfl, .nil rfl⟩) (fun q => absurd rfl q)
     ·obtain hmp : 0 < m.length := List.length_pos_iff.mpr hm
      rw [decide_eq_true (by lia), cond_true, tK (n + 2) 91 true ya _ xu _ σ Xl (Xm _ _), Xn, zJ hlen, zB] at eq0
      obtain ec : zk ((T kd v :: a :: (m ++ [s])).map za) (some 2) (some (-1)) = m.map za := by
       rw [show zk ((T kd v :: a :: (m ++ [s])).map za) (some 2) (some (-1)) = _ from mu (i := 2) (by simp)]
       simp
      rw [ec] at eq0
      obtain er := Wr (n + 1) m σ (by exact Nat.le_trans (Nat.le_add_right ..) ‹_›)
      refine zb (gM (n := n + 2) (σ := σ) (ct "COMMA" 0 [] m) (fun x hx => by
       refine ze (mK m 0 [] x hx) fun q1 q2 => ?_
       refine h x (by simp only [length_cons, length_append, length_nil] at q1 ⊢; lia) (fun t ht => ?_)
       refine zh (q2 t ht) (fun q => ?_) fun q => ?_
       ·cases q
       ·exact mem_cons_of_mem _ (mem_append_left _ q))) fun us hA hU => ?_
      obtain hsl := mL (kd := "COMMA") m 0 []
      obtain hul := hA.len
      obtain eq1 : rQ (n + 3) "_law_single" [zw (T kd v :: a :: (m ++ [s]))] σ = wl (n + 2) (kd, v) (a :: (m ++ [s])) us σ := by
       rw [eq0]
       have er' : rQ (n + 2) "_law_cut" [.dat (.list (m.map za)), sV "COMMA"] σ = .ok (.dat (.list ((yh (ct "COMMA" 0 [] m)).map .list))) σ := er
       rw [er']
       show chk (zi ((yh (ct "COMMA" 0 [] m)).map PyData.list).length) _ = _
       rw [zJ (by simp [yh]; lia), zB, Ws _ hA, Xo]
       rfl
      refine lr (a.2) (s.2) m us hsh (by lia) eq1 ?_ (fun _ ts hts => ?_)
      ·refine ly hU (fun h1 h2 => ?_) fun h1 h2 => ?_
       ·exact .inl ⟨h1, .args (Wj (by obtain this := mq m 0 []; rwa [nil_append] at this) h2)⟩
       ·refine .inr ⟨h1, hm, fun ts hts => ?_⟩
        refine zb (gr hts rfl) fun ts' e hd => ?_
        exact h2 ts' hd
      ·refine zb (gr hts rfl) fun ts' e hd => ?_
       injection e with e
       exact e.symm ▸ hd.len.symm ▸ hul.symm ▸ rfl
theorem WR {l : List PyData} (h : yr l i = some x) (hf : z0 i = true) : indexK (.dat (.list l)) (.dat (.int i)) K σ = K (.dat x) σ := by
 show chk (z0 i) (opt (yr l i) (fun x => K (.dat x) σ) .bad) = _
 refine (hf ..).symm ▸ (h ..).symm ▸ ?_; rfl
theorem WS (h : (kd, nm) ∈ zT) : zu kd v7 = false := nt (s5 (fun k => !(zu k v7)) (by kernel_rfl) h)
theorem mM {nm' : Str} {c c' : Nat} (h : (kd, nm, c) ∈ z8) (h' : (kd, nm', c') ∈ z8) : c' = c ∧ 1 ≤ c := by
 obtain f : z8.all (fun a => z8.all (fun b => !(a.1 == b.1) || (decide (b.2.2 = a.2.2) && Nat.ble 1 a.2.2))) = true := by kernel_rfl
 obtain f := all_eq_true.mp (all_eq_true.mp f _ h) _ h'
 obtain f : (!(kd == kd) || (decide (c' = c) && Nat.ble 1 c)) = true := f
 rw [beq_self_eq_true, Bool.not_true, Bool.false_or, Bool.and_eq_true] at f
 exact ⟨of_decide_eq_true f.1, Nat.le_of_ble_eq_true f.2⟩
theorem mO (hk : (∃ nm, (kd, nm) ∈ zT) ∨ ∃ nm c, (kd, nm, c) ∈ z8) (h : D 5 (T kd v :: r) t) :
  (∃ v1 v2 nm, r = T "LPAREN" v1 :: ([] ++ [T "RPAREN" v2]) ∧ (kd, nm) ∈ zT) ∨
  (∃ v1 v2 m ts, r = T "LPAREN" v1 :: (m ++ [T "RPAREN" v2]) ∧ D 9 m (.tuple ts) ∧ ((∃ nm, (kd, nm) ∈ zT) ∨ ∃ nm c, (kd, nm, c) ∈ z8 ∧ ts.length = c)) := by
 have ne : ∀ {x : Str} {u : PyData} {b : List Tk}, zu x xd = false → zu x v7 = false → T kd v :: r = T x u :: b → False := fun {x u b} h1 h2 e => by
  injection e with e _
  injection e with e _
  rcases hk with ⟨nm, hm⟩ | ⟨nm, c, hm⟩
  ·replace h1 := (gA hm ..) ▸ (e ..).symm ▸ h1; injection h1
  ·replace h2 := (mz hm ..) ▸ (e ..).symm ▸ h2; injection h2
 refine rz h (fun v' w' t' e h _ => ?_) (fun v1 v' w' e h => ?_) (fun _ nm _ v1 v2 e hm _ => ?_) (fun _ nm _ v1 v2 m ts e hm h _ => ?_) (fun _ nm c _ v1 v2 m ts e hm h hc _ => ?_) (fun ns h _ => ?_) (fun u u' w1 w2 ns is e h h' _ => ?_) (fun j e hj _ => ?_)
 ·exact (ne (by kernel_rfl) (by kernel_rfl) e).elim
 ·exact (ne (by kernel_rfl) (by kernel_rfl) e).elim
 ·injection e with e1 e2
  injection e1 with e1 _
  subst e1
  exact .inl ⟨v1, v2, nm, e2, hm⟩
 ·injection e with e1 e2
  injection e1 with e1 _
  subst e1
  exact .inr ⟨v1, v2, m, ts, e2, h, .inl ⟨nm, hm⟩⟩
 ·injection e with e1 e2
  injection e1 with e1 _
  refine (e1) ▸ ?_
  exact .inr ⟨v1, v2, m, ts, e2, h, .inr ⟨nm, c, hm, hc⟩⟩
 ·refine zM (h.head) fun x w' e => ?_
  exact (ne (by kernel_rfl) (by kernel_rfl) e).elim
 ·refine zM (h.head) fun x w' W0 => ?_
  obtain rfl := W0
  exact (ne (by kernel_rfl) (by kernel_rfl) e).elim
 ·exact (ne (by kernel_rfl) (by kernel_rfl) e).elim
theorem mP {v1 v2 v1' v2' : PyData} {m m' : List Tk} (e : T "LPAREN" v1 :: (m ++ [T "RPAREN" v2]) = T "LPAREN" v1' :: (m' ++ [T "RPAREN" v2'])) : m = m' := by
 injection e with _ e
 exact (append_inj' e rfl).1
theorem WT (hk : (∃ nm, (kd, nm) ∈ zT) ∨ ∃ nm c, (kd, nm, c) ∈ z8) (hok : ∀ t ∈ T kd v :: r, zL t) (hl : (T kd v :: r).length ≤ 500)
  (h : ∀ s : List Tk, s.length < r.length → (∀ t ∈ s, t ∈ r) → RR (n + 2) s σ) : RS (n + 3) (T kd v :: r) σ := by
 rcases WQ hk hok hl h with ⟨e, hno⟩ | ⟨v1, v2, m, us, hr, hul, e, hU, hlen⟩
 ·refine zg (.none) e (.inr ⟨rfl, fun t ht => ?_⟩)
  rcases mO hk ht with ⟨v1, v2, _, e, _⟩ | ⟨v1, v2, m, _, e, _⟩
  ·exact hno v1 v2 [] e
  ·exact hno v1 v2 m e
 ·have hml : us.length ≤ 900 := by obtain hl := (hr ..) ▸ hl; simp only [length_cons, length_append, length_nil] at hl; lia
  rcases hk with ⟨nm, hm⟩ | ⟨nm, c, hm⟩
  ·rw [WO hm hml] at e
   rcases hU with ⟨h1, h2⟩ | ⟨h1, h2, h3⟩
   ·replace e := (cond_false ..) ▸ (h1 ..) ▸ e
    refine zg _ e (.inl ?_)
    rw [hr]
    cases h2 with
    | nil h => refine (h).symm ▸ ?_; exact .word0 v v1 v2 hm
    | args h => exact .word v v1 v2 hm h
   ·rw [h1, cond_true] at e
    refine ⟨.none, e, .inr ⟨rfl, fun t ht => ?_⟩⟩
    rcases mO (.inl ⟨nm, hm⟩) ht with ⟨u1, u2, _, e, _⟩ | ⟨u1, u2, m', ts, e, hd, _⟩
    ·obtain e := (hr ..) ▸ e; exact h2 (mP e)
    ·obtain e := (hr ..) ▸ e; obtain hd := (mP e ..).symm ▸ hd; exact h3 ts hd
  ·rw [WP hm hml] at e
   have noword : ∀ nm', (kd, nm') ∈ zT → False := fun nm' h' => by
    obtain this := WS h'
    replace this := (mz hm ..) ▸ this; injection this
   have none_of : rQ (n + 3) "_law_single" [zw (T kd v :: r)] σ = zy σ → (∀ ts, D 9 m (.tuple ts) → ts.length ≠ c) → RS (n + 3) (T kd v :: r) σ := fun e hn => by
    refine ⟨.none, e, .inr ⟨rfl, fun t ht => ?_⟩⟩
    rcases mO (.inr ⟨nm, c, hm⟩) ht with ⟨u1, u2, nm', _, h'⟩ | ⟨u1, u2, m', ts, e, hd, hh⟩
    ·exact noword nm' h'
    ·replace e := (hr ..) ▸ e
     obtain hd := (mP e ..).symm ▸ hd
     rcases hh with ⟨nm', h'⟩ | ⟨nm', c', h', hc⟩
     ·exact noword nm' h'
     ·obtain hc := ((mM hm h').1 ..) ▸ hc
      exact hn ts hd hc
   rcases hU with ⟨h1, h2⟩ | ⟨h1, h2, h3⟩
   ·replace e := (cond_false ..) ▸ (h1 ..) ▸ e
    by_cases hc : us.length = c
    ·replace e := (cond_true ..) ▸ (decide_eq_true hc ..) ▸ e
     refine zg _ e (.inl ?_)
     refine (hr ..).symm ▸ ?_
     cases h2 with
     | nil h => have := (mM hm hm).2; simp at hc; lia
     | args h => exact .cnt v v1 v2 hm h hc
    ·obtain e := (cond_false ..) ▸ (decide_eq_false hc ..) ▸ e
     exact none_of e fun ts hd => by
      obtain hmn : m ≠ [] := fun q => by obtain this := hd.pos; obtain this := (q ..) ▸ this; simp at this
      refine (hlen hmn ts hd ..).symm ▸ ?_; exact hc
   ·rw [h1, cond_true] at e
    exact none_of e fun ts hd => absurd hd (h3 ts)
theorem WU (s : Str) (h : zC s < 9) : (s = "OP_question" ∧ zC s = 0) ∨ ∃ k nm, (s, k, nm) ∈ xe ∧ zC s = k ∧ 1 ≤ k ∧ k ≤ 4 ∧ zG s ma = some (.str nm) := by
 by_cases h1 : s = "OP_question"
 ·refine (h1).symm ▸ ?_; exact .inl ⟨rfl, by kernel_rfl⟩
 right
 by_cases h2 : s = "OP_rarrow"
 ·refine (h2) ▸ ?_; exact uY 1 ("implies") (by trivial) (by kernel_rfl) (by (first | lia | omega)) (by (first | lia | omega)) (by kernel_rfl)
 by_cases h3 : s = "OP_lrarrow"
 ·refine (h3) ▸ ?_; exact uY 1 ("equal") (by trivial) (by kernel_rfl) (by (first | lia | omega)) (by (first | lia | omega)) (by kernel_rfl)
 by_cases h4 : s = "OP_or"
 ·refine (h4) ▸ ?_; exact uY 2 ("or") (by trivial) (by kernel_rfl) (by lia) (by lia) (by kernel_rfl)
 by_cases h5 : s = "OP_xor"
 ·refine (h5) ▸ ?_; exact uY 3 ("xor") (by trivial) (by kernel_rfl) (by lia) (by lia) (by kernel_rfl)
 by_cases h6 : s = "OP_and"
 ·refine (h6) ▸ ?_; exact uY 4 ("and") (by trivial) (by kernel_rfl) (by (first | lia | omega)) (by lia) (by kernel_rfl)
 obtain ne : ∀ {x : Str}, s ≠ x → (s == x) = false := fun {x} h => beq_eq_false_iff_ne.mpr h
 exfalso
 unfold zC at h
 replace h := (ne h6 ..) ▸ (ne h5 ..) ▸ (ne h4 ..) ▸ (ne h3 ..) ▸ (ne h2 ..) ▸ (ne h1 ..) ▸ h
 simp only [cond_false] at h
 (first | lia | omega)
theorem xV (v : V) (σ : St) (k : V → St → Out) : onOk (.ok v σ) k = k v σ := rfl
theorem tT (v : V) (σ : St) (k : V → St → Out) : onB (.ok v σ) k = k v σ := rfl
theorem x9 (d : PyData) (k : PyData → Out) : zv (.dat d) k = k d := rfl
theorem WV (n : Nat) (σ : St) : RR (n + 2) [] σ := by
 refine zg (.none) ?_ (.inr ⟨rfl, fun t h => absurd h.pos (by trivial)⟩)
 refine (Y7 ..).symm ▸ (gb ..).symm ▸ ?_; rfl
theorem WW (hw : w ≠ []) (hl : w.length ≤ 500) (hS : RS (n + 1) w σ) (hR : ∀ s : List Tk, s.length < w.length → (∀ x ∈ s, x ∈ w) → RR (n + 1) s σ) : RR (n + 2) w σ := by
 obtain hlen : (w.map za).length ≤ 1000 := by simp; lia
 obtain eq0 : ∃ d p tk, rQ (n + 2) "_law_read" [zw w] σ = hY (n + 1) (v5 w d (sc 0 0 9 (-1) w).1 (sc 0 0 9 (-1) w).2 p tk) σ := by
  refine zM ((by
   cases w with
   | nil => exact absurd rfl hw
   | cons t r => exact (y4 t r rfl)) : ∃ t r, w = t :: r) fun t r W0 => ?_
  obtain rfl := W0
  refine w8 (uO n (t :: r) (fun ρ σ => xs (rQ (n + 1)) Gb 98 true v0 ρ ((zj "_law_read").body.drop 2) K0 σ) σ (t :: r) 0 0 9 (-1) (.int 0) (.int 0) (by lia)) fun d p tk e => ?_
  refine vB d p tk ?_
  refine (Y8 ..).symm ▸ (zJ hlen ..).symm ▸ (zB ..).symm ▸ ?_
  have e0 : yT 0 ((t :: r).map za) = .tuple [.int (0 : Nat), za t] :: yT 1 (r.map za) := rfl
  rw [e0] at e ⊢
  exact (Y9 n (t :: r) 0 t (yT 1 (r.map za)) (fun ρ σ => xs (rQ (n + 1)) Gb 98 true v0 ρ ((zj "_law_read").body.drop 2) K0 σ) σ).trans e
 refine w8 (eq0) fun d p tk eq0 => ?_
 generalize hsc : sc 0 0 9 (-1) w = res at eq0
 obtain ⟨wk, a⟩ := res
 have eq1 : rQ (n + 2) "_law_read" [zw w] σ = _ := eq0.trans (Xb (n + 1) (w.map za) d wk a p tk σ)
 refine yE (ZW w 0 0 9 (-1) wk a hsc) fun s1 s2 s3 => ?_
 rcases s3 with ⟨W1, W2⟩ | ⟨x, s, y, hsp, ea, ek, hk9, hd0, hx, hpl⟩
 ·obtain rfl := W1; obtain rfl := W2; -- no open sign
  rw [decide_eq_true (by lia), cond_true] at eq1
  refine zo fun R_ k_ => ?_
  refine zb (hS) fun u e hu => ?_
  refine k_ ?_
  obtain e : rQ (n + 1) "_law_single" [.dat (.list (w.map za))] σ = .ok (.dat u) σ := e
  replace eq1 := (e ..) ▸ eq1
  refine zg u eq1 ?_
  rcases hu with hu | ⟨rfl, hu⟩
  ·exact .inl (D.down 5 0 hu (by (first | lia | omega)))
  ·refine .inr ⟨rfl, fun t ht => hu t ?_⟩
   obtain this := D.lift 5 0 ht (by (first | lia | omega)) (fun p hp => by obtain this := s2 p hp; lia)
   exact this
 ·obtain ea : a = ((x.length : Nat) : Int) := by refine (ea ..).symm ▸ ?_; congr 1; lia
  subst ea
  have hxl : x.length < w.length := by refine (hsp ..).symm ▸ ?_; simp
  have hyl : y.length < w.length := by refine (hsp ..).symm ▸ ?_; simp; lia
  obtain c1 : zk (w.map za) none (some ((x.length : Nat) : Int)) = x.map za := by
   rw [tQ (by simp; (first | lia | omega)), hsp]; simp
  obtain c2 : zk (w.map za) (some (((x.length : Nat) : Int) + 1)) none = y.map za := by
   obtain e : ((x.length : Nat) : Int) + 1 = ((x.length + 1 : Nat) : Int) := by lia
   obtain e0 : w.map za = (x.map za ++ [za s]) ++ y.map za := by rw [hsp]; simp
   rw [e, mt (by simp; (first | lia | omega)), e0, List.drop_left' (by simp)]
  refine zb (hR x hxl (fun t ht => by refine (hsp ..).symm ▸ ?_; exact mem_append_left _ ht)) fun f ef hf => ?_
  obtain ef : rQ (n + 1) "_law_read" [.dat (.list (x.map za))] σ = .ok (.dat f) σ := ef
  rw [decide_eq_false (by (first | lia | omega)), cond_false, xg (by lia) (by (first | lia | omega)), zB, zJ hlen, zB, c1, ef] at eq1
  have eq2 : rQ (n + 2) "_law_read" [zw w] σ = cond (decide (0 < wk)) (mi (n + 1) (w.map za) (x.length : Nat) f (y.map za) σ)
    (chk (zi (y.map za).length) (forK xT (xU (n + 1)) (yT 0 (y.map za)) (x7 (w.map za) (y.map za) 0 wk (x.length : Nat) 0 p tk f) (fun _ σ => zy σ) σ)) := by
   rw [eq1, xV, x9, xg (by lia) (by (first | lia | omega)), zB, zB, c2]
  clear eq1 eq0
  obtain hs9 : zC s.1 < 9 := by lia
  have hx' : ∀ p ∈ tp 0 x, zC s.1 < zC p.1 := fun p hp => by obtain this := hx p hp; (first | lia | omega)
  have hw' : ∀ p ∈ tp 0 w, zC s.1 ≤ zC p.1 := fun p hp => by obtain this := s2 p hp; lia
  rcases WU s.1 hs9 with ⟨hq, h0⟩ | ⟨k, nm, hm, hk, hk1, hk4, hb⟩
  ·-- a question mark
   obtain hwk : wk = 0 := by refine (ek ..) ▸ (h0 ..).symm ▸ ?_; rfl
   subst hwk
   rw [decide_eq_false (by lia), cond_false, zJ (by simp; lia), zB, qX, Wq] at eq2
   obtain e0 : ((0 : Nat) : Int) = 0 := rfl
   replace eq2 := (Wo ..) ▸ eq2
   have cut0 : ∀ t, D 0 w t → ∃ y1 v z s' d1 d0, y = y1 ++ T "OP_colon" v :: z ∧ D 1 x s' ∧ D 0 y1 d1 ∧ D 0 z d0 ∧ cs 0 0 0 y = some y1.length := fun t ht => by
    obtain ht := (hsp ..) ▸ ht
    rcases ht.cutBin (k := 0) (by lia) hd0 hpl h0 (fun p hp => by obtain this := hx' p hp; lia) with ⟨nm, p, q, hm, _⟩ | ⟨_, y1, v, z, s', d1, d0, _, hy, g1, g2, g3, _⟩
    ·obtain this := (vt hm).2.2.1; (first | lia | omega)
    ·refine ⟨y1, v, z, s', d1, d0, hy, g1, g2, g3, ?_⟩
     refine (hy ..).symm ▸ (g2.cs 0 0 0 _ (by (first | lia | omega)) (by (first | lia | omega)) ..).symm ▸ (Nat.zero_add ..).symm ▸ ?_
     kernel_rfl
   cases hcs : cs 0 0 0 y with
   | none =>
    obtain eq2 := (hcs ..) ▸ eq2
    refine zg (.none) eq2 (.inr ⟨rfl, fun t ht => ?_⟩)
    refine lF (cut0 t ht) fun _ _ _ _ _ _ _ _ _ _ q => ?_
    replace q := (hcs ..) ▸ q; exact nn q
   | some j =>
    rw [hcs] at eq2
    refine y5 (iE y 0 0 0 j hcs) fun y1 v z hy hj => ?_
    obtain hj : j = y1.length := by lia
    subst hj
    have hyl2 : y1.length + z.length + 1 ≤ y.length := by refine (hy ..).symm ▸ ?_; simp; lia
    obtain d1 : zk (y.map za) none (some ((y1.length : Nat) : Int)) = y1.map za := by
     rw [tQ (by rw [hy]; simp), hy]; simp
    obtain d2 : zk (y.map za) (some (((y1.length : Nat) : Int) + 1)) none = z.map za := by
     obtain e : ((y1.length : Nat) : Int) + 1 = ((y1.length + 1 : Nat) : Int) := by lia
     obtain e0 : y.map za = (y1.map za ++ [za (T "OP_colon" v)]) ++ z.map za := by rw [hy]; simp
     rw [e, mt (by rw [hy]; simp), e0, List.drop_left' (by simp)]
    have my : ∀ t ∈ y, t ∈ w := fun t ht => by rw [hsp]; exact mem_append_right _ (mem_cons_of_mem _ ht)
    refine zb (hR y1 (by (first | lia | omega)) (fun t ht => my t (by refine (hy ..).symm ▸ ?_; exact mem_append_left _ ht))) fun u2 eu2 hu2 => ?_
    refine zb (hR z (by (first | lia | omega)) (fun t ht => my t (by refine (hy ..).symm ▸ ?_; exact mem_append_right _ (mem_cons_of_mem _ ht)))) fun u3 eu3 hu3 => ?_
    obtain eu2 : rQ (n + 1) "_law_read" [.dat (.list (y1.map za))] σ = .ok (.dat u2) σ := eu2
    obtain eu3 : rQ (n + 1) "_law_read" [.dat (.list (z.map za))] σ = .ok (.dat u3) σ := eu3
    have eq3 : rQ (n + 2) "_law_read" [zw w] σ = cond (isNone (.dat f)) (zy σ) (cond (isNone (.dat u2)) (zy σ) (cond (isNone (.dat u3)) (zy σ) (.ok (.dat (.tuple [.str "ite", f, u2, u3])) σ))) := by
     rw [eq2, Option.map_some, Wp]
     unfold rm
     rw [xg (by lia) (by (first | lia | omega)), zB, zJ (by simp; lia), zB, d1, eu2, tT, x9, xg (by lia) (by (first | lia | omega)), zB, zB, d2, eu3, tT, x9]
    have fail : rQ (n + 2) "_law_read" [zw w] σ = zy σ → ((∀ t, ¬ D 0 x t) ∨ (∀ t, ¬ D 0 y1 t) ∨ ∀ t, ¬ D 0 z t) → RR (n + 2) w σ := fun e hn => by
     refine zg (.none) e (.inr ⟨rfl, fun t ht => ?_⟩)
     refine lF (cut0 t ht) fun y1' v' z' s' e1 e0 hy' g1 g2 g3 q => ?_
     rw [hcs] at q
     injection q with q
     replace hy' := (hy ..) ▸ hy'
     refine ze (List.append_inj hy' q) fun W3 hz => ?_
     obtain rfl := W3
     injection hz with _ hz
     subst hz
     refine rH hn (fun hn => ?_) (fun hn => ?_) fun hn => ?_
     ·exact hn _ (.up (by lia) g1)
     ·exact hn _ g2
     ·exact hn _ g3
    rcases hf with hf | ⟨rfl, hf⟩
    ·rw [hf.some, cond_false] at eq3
     rcases hu2 with hu2 | ⟨rfl, hu2⟩
     ·replace eq3 := (cond_false ..) ▸ (hu2.some ..) ▸ eq3
      rcases hu3 with hu3 | ⟨rfl, hu3⟩
      ·rw [hu3.some, cond_false] at eq3
       refine zg _ eq3 (.inl ?_)
       obtain hx1 : D 1 x f := D.lift 1 0 hf (by lia) (fun p hp => by obtain this := hx' p hp; lia)
       obtain es : s = T "OP_question" s.2 := by exact (hq ..) ▸ rfl
       refine (hsp ..).symm ▸ (hy ..).symm ▸ (es ..).symm ▸ ?_
       exact .ite s.2 v hx1 hu2 hu3
      ·exact fail eq3 (.inr (.inr hu3))
     ·exact fail eq3 (.inr (.inl hu2))
    ·exact fail eq3 (.inl hf)
  ·-- a sign of two
   obtain hwk : wk = ((k : Nat) : Int) := by rw [← ek, hk]
   rw [decide_eq_true (by (first | lia | omega)), cond_true] at eq2
   refine zb (hR y hyl (fun t ht => by rw [hsp]; exact mem_append_right _ (mem_cons_of_mem _ ht))) fun u2 eu2 hu2 => ?_
   obtain eu2 : rQ (n + 1) "_law_read" [.dat (.list (y.map za))] σ = .ok (.dat u2) σ := eu2
   obtain hnth : (w.map za)[x.length]? = some (za s) := by rw [hsp]; simp
   have eq3 : rQ (n + 2) "_law_read" [zw w] σ = cond (isNone (.dat f)) (zy σ) (cond (isNone (.dat u2)) (zy σ) (.ok (.dat (zS nm f u2)) σ)) := by
    refine (eq2 ..).symm ▸ ?_
    unfold mi
    refine (eu2 ..).symm ▸ ?_
    obtain e1 : ∀ K : KV, indexK (.dat (.list (w.map za))) (.dat (.int (x.length : Nat))) K σ = K (.dat (za s)) σ := fun K => by
     exact WR (ms hnth) (xg (by lia) (by lia))
    show cond (isNone (.dat f)) (zy σ) (cond (isNone (.dat u2)) (zy σ) (indexK (.dat (.list (w.map za))) (.dat (.int (x.length : Nat))) _ σ)) = _
    rw [e1]
    show cond (isNone (.dat f)) (zy σ) (cond (isNone (.dat u2)) (zy σ) (opt (zG s.1 ma) (fun x => zv (.dat x) fun nm => zv (.dat u2) fun s => .ok (.dat (.tuple [nm, f, s])) σ) .bad)) = _
    refine (hb ..).symm ▸ ?_
    rfl
   obtain cutk : ∀ t, D 0 w t → (∃ p, D 0 x p) ∧ ∃ q, D 0 y q := fun t ht => by
    obtain h1 : D (0 + k) w t := D.lift k 0 ht (by (first | lia | omega)) (fun p hp => by have := hw' p hp; (first | lia | omega))
    rw [Nat.zero_add, hsp] at h1
    rcases h1.cutBin hk4 hd0 hpl hk (fun p hp => by obtain this := hx' p hp; (first | lia | omega)) with ⟨nm, p, q, hm, g1, g2, _⟩ | ⟨h, _⟩
    ·exact ⟨⟨p, D.down (k + 1) 0 (by refine (Nat.zero_add ..).symm ▸ ?_; exact g1) (by (first | lia | omega))⟩, ⟨q, D.down k 0 (by refine (Nat.zero_add ..).symm ▸ ?_; exact g2) (by (first | lia | omega))⟩⟩
    ·(first | lia | omega)
   have fail : rQ (n + 2) "_law_read" [zw w] σ = zy σ → ((∀ t, ¬ D 0 x t) ∨ ∀ t, ¬ D 0 y t) → RR (n + 2) w σ := fun e hn => by
    refine zg (.none) e (.inr ⟨rfl, fun t ht => ?_⟩)
    obtain ⟨⟨p, g1⟩, q, g2⟩ := cutk t ht
    refine zh hn (fun hn => ?_) fun hn => ?_
    ·exact hn p g1
    ·exact hn q g2
   rcases hf with hf | ⟨rfl, hf⟩
   ·rw [hf.some, cond_false] at eq3
    rcases hu2 with hu2 | ⟨rfl, hu2⟩
    ·rw [hu2.some, cond_false] at eq3
     refine zg _ eq3 (.inl ?_)
     have hx1 : D (0 + (k + 1)) x f := D.lift (k + 1) 0 hf (by (first | lia | omega)) (fun p hp => by obtain this := hx' p hp; (first | lia | omega))
     have hy1 : D (0 + k) y u2 := D.lift k 0 hu2 (by (first | lia | omega)) (fun p hp => by
      have := hw' p (by
       refine (hsp ..).symm ▸ (wQ ..).symm ▸ (hd0 ..).symm ▸ (x6 hpl ..).symm ▸ ?_
       exact mem_append_right _ (mem_cons_of_mem _ hp))
      (first | lia | omega))
     rw [Nat.zero_add] at hx1 hy1
     have h2 : D k w (zS nm f u2) := by
      refine (hsp ..).symm ▸ ?_
      exact .bin s.2 hm hx1 hy1
     exact D.down k 0 (by rw [Nat.zero_add]; exact h2) (by (first | lia | omega))
    ·exact fail eq3 (.inr hu2)
   ·exact fail eq3 (.inl hf)
theorem gN (σ : St) : ∀ (m : Nat) (w : List Tk), w.length ≤ m → w.length ≤ 500 → (∀ t ∈ w, zL t) → (∀ n, 2 * w.length + 4 ≤ n → RS n w σ) ∧ (∀ n, 2 * w.length + 6 ≤ n → RR n w σ)
 | m, [], _, _, _ => ⟨fun n hn => by
   refine zd ((⟨n - 1, by lia⟩) : ∃ k, n = k + 1) fun k W0 => ?_
   refine (W0) ▸ ?_
   exact WB k σ, fun n hn => by
   refine zd ((⟨n - 2, by lia⟩) : ∃ k, n = k + 2) fun k W1 => ?_
   refine (W1) ▸ ?_
   exact WV k σ⟩
 | 0, _ :: _, hm, _, _ => by simp at hm
 | m + 1, t :: r, hm, hl, hok => by
  simp only [length_cons] at hm
  obtain hl' : r.length + 1 ≤ 500 := by trivial
  obtain sub : ∀ s : List Tk, s.length ≤ r.length → (∀ x ∈ s, x ∈ t :: r) → (∀ n, 2 * s.length + 4 ≤ n → RS n s σ) ∧ (∀ n, 2 * s.length + 6 ≤ n → RR n s σ) := fun s h1 h2 =>
   gN σ m s (by lia) (by lia) fun x hx => hok x (h2 x hx)
  have S : ∀ n, 2 * (t :: r).length + 4 ≤ n → RS n (t :: r) σ := fun n hn => by
   simp only [length_cons] at hn
   refine zd ((⟨n - 3, by lia⟩) : ∃ k, n = k + 3) fun k W2 => ?_
   obtain rfl := W2
   cases hF : zu t.1 yQ with
   | false => exact WI (n := k + 1) hok hF
   | true =>
    obtain ⟨kd, v⟩ := t
    obtain hF : zu kd yQ = true := hF
    have W : ((∃ nm, (kd, nm) ∈ zT) ∨ ∃ nm c, (kd, nm, c) ∈ z8) → RS (k + 3) ((kd, v) :: r) σ := fun hk => WT hk hok hl fun s hs hm => (sub s (by lia) fun x hx => mem_cons_of_mem _ (hm x hx)).2 (k + 2) (by lia)
    rcases iB hF with rfl | rfl | rfl | rfl | rfl | rfl | rfl | ⟨nm, hm⟩
    ·exact WD (n := k + 1) hok (by (first | lia | omega)) ((sub r (Nat.le_refl _) fun x hx => mem_cons_of_mem _ hx).1 (k + 2) (by lia))
    ·exact WG (n := k + 1) hok (by (first | lia | omega)) fun m' s hms => (sub m' (by refine (hms ..).symm ▸ ?_; simp) fun x hx => mem_cons_of_mem _ (by refine (hms ..).symm ▸ ?_; exact mem_append_left _ hx)).2 (k + 2) (by obtain hn := (hms ..) ▸ hn; simp at hn; lia)
    ·exact W (.inr ⟨"ite", 3, by trivial⟩)
    ·exact W (.inr ⟨"implies", 2, by trivial⟩)
    ·exact W (.inr ⟨"not", 1, by trivial⟩)
    ·exact WM hok hl
    ·refine zd (((hok _ (mem_cons_self ..)).1.2 rfl) : ∃ i, v = .int i) fun i W3 => ?_
     obtain rfl := W3
     exact WH (n := k + 1) hok (by lia)
    ·exact W (.inl ⟨nm, hm⟩)
  refine ⟨S, fun n hn => ?_⟩
  simp only [length_cons] at hn
  refine zd ((⟨n - 2, by lia⟩) : ∃ k, n = k + 2) fun k W4 => ?_
  obtain rfl := W4
  exact WW (by simp) hl (S (k + 1) (by simp only [length_cons]; lia)) fun s hs hm => (sub s (by simp at hs; lia) hm).2 (k + 1) (by simp at hs; lia)
theorem gO : ∀ (w : List Tk), vV (w.map za) = some w
 | [] => rfl
 | t :: w => by
  obtain ih := gO w
  show (vV (w.map za)).map ((t.1, t.2) :: ·) = _
  rw [ih]; rfl
theorem WX (n : Nat) (w : List Tk) (σ : St) : rQ (n + 8) "_law_parsed" [zw w] σ = rh n [zw w] σ := by kernel_rfl
theorem WY (n : Nat) (w : List Tk) (σ : St) (hl : w.length ≤ 900) : rh n [zw w] σ = sX σ (sW σ (tu n w)) := by
 show sX σ (match vV (w.map za) with
  | some row => chk (yn == yn && zi (row.length + 1)) (sW σ (xs (rP n) Gb 100 true (zj "parse").sc (tn row) sY (fun _ σ => .ok (.dat .none) σ) (row ++ [xG])))
  | none => .bad) = _
 rw [gO]
 show sX σ (chk (yn == yn && zi (w.length + 1)) (sW σ (tu n w))) = _
 rw [zJ (by lia), beq_self_eq_true]
 rfl
theorem mQ (σ : St) (hok : ∀ t ∈ w, zL t) (hn : 8 * w.length + 16 ≤ n) (hl : w.length ≤ 500) :
  ∃ u, rQ (n + 8) "_law_parsed" [zw w] σ = .ok (.dat u) σ ∧ (D 0 w u ∨ (u = .none ∧ ∀ t, ¬ D 0 w t)) := by
 refine (WX ..).symm ▸ (WY n w σ (by lia) ..).symm ▸ ?_
 refine pr (ZT (fun t ht => (hok t ht).1) hn (by lia)) (fun e => ?_) fun t ht e => ?_
 ·rw [e]
  refine zg (.none) rfl (.inr ⟨rfl, fun t ht => ?_⟩)
  rw [ny ht (by lia) (by lia)] at e; injection e
 ·refine (e ..).symm ▸ ?_
  exact zg t rfl (.inl ht)
theorem D.uniq (h : D 0 w t) (h' : D 0 w u) (hl : w.length ≤ 900) : t = u := by
 obtain e := ny h (n := 8 * w.length + 8) (Nat.le_refl _) hl
 replace e := (ny h' (n := 8 * w.length + 8) (Nat.le_refl _) hl ..) ▸ e
 cases e; rfl
structure Ly (t : PyData) (d : Nat) : Prop where
 lay : t.canLay0 = true
 dep : t.depth ≤ d
structure LyA (l : List PyData) (d : Nat) : Prop where
 lay : PyData.canLayAll0 l = true
 dep : PyData.depthAll l ≤ d
theorem Ly.mono {e : Nat} (h : Ly t d) (k : d ≤ e) : Ly t e := ⟨h.lay, Nat.le_trans h.dep k⟩
theorem LyA.mono' {l : List PyData} {e : Nat} (h : LyA l d) (k : d ≤ e) : LyA l e := ⟨h.lay, Nat.le_trans h.dep k⟩
theorem LyA.nil : LyA [] d := ⟨by rw [PyData.canLayAll0], by rw [PyData.depthAll]; exact Nat.zero_le _⟩
theorem LyA.cons {l : List PyData} (h : Ly x d) (k : LyA l d) : LyA (x :: l) d := ⟨by rw [PyData.canLayAll0, h.lay, k.lay]; rfl, by rw [PyData.depthAll]; exact Nat.max_le.mpr ⟨h.dep, k.dep⟩⟩
theorem LyA.head {l : List PyData} (h : LyA (x :: l) d) : Ly x d ∧ LyA l d := by
 obtain ⟨h1, h2⟩ := h
 rw [PyData.canLayAll0] at h1
 rw [PyData.depthAll] at h2
 exact ⟨⟨(zO h1).1, (Nat.max_le.mp h2).1⟩, ⟨(zO h1).2, (Nat.max_le.mp h2).2⟩⟩
theorem Ly.tup {l : List PyData} (h : LyA l d) : Ly (.tuple l) (d + 1) := ⟨by rw [PyData.canLay0]; exact h.lay, by rw [PyData.depth]; exact Nat.succ_le_succ h.dep⟩
theorem Ly.un {l : List PyData} (h : Ly (.tuple l) (d + 1)) : LyA l d := by
 obtain ⟨h1, h2⟩ := h
 rw [PyData.canLay0] at h1
 rw [PyData.depth] at h2
 exact ⟨h1, Nat.le_of_succ_le_succ h2⟩
theorem Ly.str {s : Str} {d : Nat} (h : (PyData.str s).canLay0 = true) : Ly (.str s) d := ⟨h, by rw [PyData.depth]; exact Nat.zero_le _⟩
theorem Ly.int {i : Int} {d : Nat} : Ly (.int i) d := ⟨by rw [PyData.canLay0], by rw [PyData.depth]; exact Nat.zero_le _⟩
theorem LyA.app {a b : List PyData} (h : LyA a d) (k : LyA b d) : LyA (a ++ b) d := by
 induction a with
 | nil => exact k
 | cons x a ih => exact .cons h.head.1 (ih h.head.2)
theorem LyA.rev {l : List PyData} (h : LyA l d) : LyA l.reverse d := by
 induction l with
 | nil => exact h
 | cons x l ih =>
  rw [reverse_cons]
  exact (ih h.head.2).app (.cons h.head.1 .nil)
theorem gP {t : Tk} (h : zL t) : Ly t.2 1 := by
 obtain k : Ly (.tuple [.str t.1, t.2]) (1 + 1) := ⟨h.2.1, h.2.2⟩
 exact k.un.head.2.head.1
theorem SL.lay {xs : List PyData} (h : SL kd sp w xs) : (∀ t ∈ w, zL t) → LyA xs 1 := by
 induction h with
 | one x => exact fun h => .cons (gP (h _ (mem_cons_self ..))) .nil
 | cons x v _ ih => exact fun h => .cons (gP (h _ (mem_cons_self ..))) (ih fun t ht => h t (mem_cons_of_mem _ (mem_cons_of_mem _ ht)))
noncomputable def gQ (l : List Str) : Bool := l.all fun s => (PyData.str s).canLay0
theorem gR {l : List Str} (h : gQ l = true) (hs : s ∈ l) : (PyData.str s).canLay0 = true := all_eq_true.mp h s hs
theorem gS : gQ (uE ++ z8.map (·.2.1) ++ xe.map (·.2.2)) = true := by kernel_rfl
theorem mR (h : (kd, nm) ∈ zT ∨ ∃ c, (kd, nm, c) ∈ z8) : (PyData.str nm).canLay0 = true := by
 refine gR gS (mem_append_left _ ?_)
 rcases h with h | ⟨c, h⟩
 ·exact mem_append_left _ (of_mem_zip h).2
 ·exact mem_append_right _ (mem_map.mpr ⟨_, h, rfl⟩)
theorem WZ (h : (kd, k, nm) ∈ xe) : (PyData.str nm).canLay0 = true :=
 gR gS (mem_append_right _ (mem_map.mpr ⟨_, h, rfl⟩))
noncomputable def mS (k n : Nat) (t : PyData) : Prop := Ly t (n + 3) ∧ (k ≤ 5 → Ly t (n + 2))
theorem mS.of (h : Ly t (n + 2)) : mS k n t := ⟨h.mono (Nat.le_succ _), fun _ => h⟩
theorem D.lay {k : Nat} {w : List Tk} {t : PyData} (h : D k w t) : (∀ x ∈ w, zL x) → mS k w.length t := by
 obtain rc : ∀ {x y : List Tk} {a : Tk}, x.length + 3 ≤ (x ++ a :: y).length + 2 := fun {x y a} => by rw [length_append, length_cons]; lia
 obtain tB : ∀ {x y : List Tk} {a : Tk}, y.length + 3 ≤ (x ++ a :: y).length + 2 := fun {x y a} => by rw [length_append, length_cons]; lia
 obtain le1 : ∀ {x y : List Tk} {a : Tk}, x.length + 2 ≤ (x ++ a :: y).length + 1 := fun {x y a} => Nat.le_of_succ_le_succ rc
 obtain le2 : ∀ {x y : List Tk} {a : Tk}, y.length + 2 ≤ (x ++ a :: y).length + 1 := fun {x y a} => Nat.le_of_succ_le_succ tB
 induction h with
 | up hk _ ih => exact fun h => .of ((ih h).2 (by assumption))
 | ite q v h1 h2 h3 i1 i2 i3 =>
  intro h
  obtain a := (i1 fun x hx => h x (mem_append_left _ hx)).2 (by lia)
  obtain b := (i2 fun x hx => h x (mem_append_right _ (mem_cons_of_mem _ (mem_append_left _ hx)))).2 (by lia)
  obtain c := (i3 fun x hx => h x (mem_append_right _ (mem_cons_of_mem _ (mem_append_right _ (mem_cons_of_mem _ hx))))).2 (by lia)
  exact .of (.tup (.cons (.str (by kernel_rfl)) (.cons (a.mono le1) (.cons (b.mono (Nat.le_trans le1 (Nat.le_trans (Nat.le_succ _) le2))) (.cons (c.mono (Nat.le_trans le2 (Nat.le_trans (Nat.le_succ _) le2))) .nil)))))
 | bin v hm _ _ i1 i2 =>
  intro h
  obtain hk := (vt hm).2.2.2.1
  have a := (i1 fun x hx => h x (mem_append_left _ hx)).2 (by exact Nat.succ_le_succ ‹_›)
  obtain b := (i2 fun x hx => h x (mem_append_right _ (mem_cons_of_mem _ hx))).2 (by lia)
  exact .of (.tup (.cons (.str (WZ hm)) (.cons (a.mono le1) (.cons (b.mono le2) .nil))))
 | not v _ ih =>
  intro h
  exact .of (.tup (.cons (.str (by kernel_rfl)) (.cons ((ih fun x hx => h x (mem_cons_of_mem _ hx)).2 (by lia)) .nil)))
 | paren v v' _ ih =>
  intro h
  refine .of (((ih fun x hx => h x (mem_cons_of_mem _ (mem_append_left _ hx))).2 (by lia)).mono ?_)
  rw [length_cons, length_append]; lia
 | word0 v v1 v2 hm => exact fun _ => .of ((Ly.tup (d := 0) (.cons (.str (mR (.inl hm))) .nil)).mono (Nat.succ_le_succ (Nat.zero_le _)))
 | word v v1 v2 hm _ ih =>
  intro h
  obtain a := (ih fun x hx => h x (mem_cons_of_mem _ (mem_cons_of_mem _ (mem_append_left _ hx)))).1.un
  refine .of ((Ly.tup (.cons (.str (mR (.inl hm))) a)).mono ?_)
  rw [length_cons, length_cons, length_append]; lia
 | cnt v v1 v2 hm _ _ ih =>
  intro h
  obtain a := (ih fun x hx => h x (mem_cons_of_mem _ (mem_cons_of_mem _ (mem_append_left _ hx)))).1.un
  refine .of ((Ly.tup (.cons (.str (mR (.inr ⟨_, hm⟩))) a)).mono ?_)
  rw [length_cons, length_cons, length_append]; lia
 | var hs =>
  intro h
  obtain p := hs.pos
  exact .of ((Ly.tup (d := 2) (.cons (.str (by kernel_rfl)) (.cons (.tup (hs.lay h).rev) (.cons (Ly.tup (d := 1) .nil) .nil)))).mono (by lia))
 | varI v v' hs hs' =>
  intro h
  obtain p := hs.pos
  refine .of ((Ly.tup (d := 2) (.cons (.str (by kernel_rfl)) (.cons (.tup (hs.lay fun x hx => h x (mem_append_left _ hx)).rev) (.cons (.tup (hs'.lay fun x hx => h x (mem_append_right _ (mem_cons_of_mem _ (mem_append_left _ hx))))) .nil)))).mono ?_)
  rw [length_append]; lia
 | const => exact fun _ => .of (.tup (.cons (.str (by kernel_rfl)) (.cons .int .nil)))
 | arg1 _ ih => exact fun h => ⟨.tup (.cons ((ih h).2 (by lia)) .nil), fun q => absurd q (by decide)⟩
 | argS v _ _ i1 i2 =>
  intro h
  obtain a := (i1 fun x hx => h x (mem_append_left _ hx)).2 (by lia)
  have b := (i2 fun x hx => h x (mem_append_right _ (mem_cons_of_mem _ hx))).1.un
  exact ⟨.tup (.cons (a.mono (Nat.le_succ_of_le le1)) (b.mono' (Nat.le_succ_of_le le2))), fun q => absurd q (by decide)⟩
theorem D.shaped {w : List Tk} {t : PyData} (h : D 0 w t) (hok : ∀ x ∈ w, zL x) (hl : w.length ≤ 60) : SeqAt.shaped t = true ∧ PyData.eqv t t = true := by
 obtain ⟨h1, h2⟩ := (h.lay hok).2 (by lia)
 refine ⟨?_, SeqAt.eqv_refl t h1⟩
 unfold SeqAt.shaped
 rw [h1, decide_eq_true (by lia)]; rfl
noncomputable abbrev zn (t : PyData) (l : Int) (r : List PyData) (h : Int) : PyData := .tuple [t, .int l, .list r, .int h]
noncomputable abbrev dV (d : PyData) : V := .dat d
noncomputable def tU : PyData := za (T "LPAREN" (.str "("))
noncomputable def mT : PyData := za (T "RPAREN" (.str ")"))
noncomputable def mU : PyData := za (T "COMMA" (.str ","))
noncomputable def gT (x : List PyData) (z : V) (K : V → St → Out) (σ : St) : Out := zl .Add (.dat (.list x)) z K σ
theorem TO (n : Nat) (σ : St) : rQ (n + 1) "_law_order" [] σ = .ok (.dat (.list (xd.map .str))) σ := by kernel_rfl
theorem Va (n : Nat) (t : PyData) (l : Int) (r : List PyData) (h m : Int) (σ : St) : rQ (n + 1) "_law_inside" [dV (zn t l r h), iV m] σ = cond (decide (l < m))
  (gT [tU] (.dat (.list r)) (fun v σ => zl .Add v (.dat (.list [mT])) .ok σ) σ) (.ok (.dat (.list r)) σ) := by kernel_rfl
theorem Vb (n : Nat) (nm : Str) (l : Int) (sg : PyData) (t1 t2 : PyData) (l1 l2 : Int) (r1 r2 : List PyData) (h1 h2 : Int) (σ : St) :
  rQ (n + 1) "_law_joined" [sV nm, iV l, dV sg, dV (zn t1 l1 r1 h1), dV (zn t2 l2 r2 h2)] σ = onOk (rQ n "_law_inside" [dV (zn t1 l1 r1 h1), iV (l + 1)] σ) fun a σ =>
   zl .Add a (.dat (.list [sg])) (fun a σ => onOk (rQ n "_law_inside" [dV (zn t2 l2 r2 h2), iV l] σ) fun b σ => zl .Add a b (fun row σ =>
    zv row fun row => onOk (rQ n "_law_height" [dV (.list [zn t1 l1 r1 h1, zn t2 l2 r2 h2]), dV (.list [.int (l + 1), .int l])] σ) fun hh σ => zv hh fun hh => .ok (.dat (.tuple [.tuple [.str nm, t1, t2], .int l, row, hh])) σ) σ) σ := by kernel_rfl
noncomputable def w0 : zm := (zj "_law_height").sc
noncomputable abbrev wn (ps ls : List PyData) : zf := [("parts", .v (.dat (.list ps))), ("leasts", .v (.dat (.list ls)))]
noncomputable def q5 : Expr := sN 0 (bS (zj "_law_height").body 0)
noncomputable def Vc : Pos := (bS (zj "_law_height").body 0).pos
noncomputable def mV : Expr := eN 0 (eN 1 q5)
noncomputable def yH : Expr := eN 0 mV
theorem Vd (n : Nat) (ps ls : List PyData) (K : KV) (σ : St) : ev (rQ n) Gb 97 true w0 (wn ps ls) mV K σ = ev (rQ n) Gb 96 true w0 (wn ps ls) yH (fun v σ => zl .Add v (dV (.list [.int 0])) K σ) σ := by kernel_rfl
theorem Ve (n : Nat) (ps ls : List PyData) (K : KV) (σ : St) : ev (rQ n) Gb 99 true w0 (wn ps ls) q5 K σ = ev (rQ n) Gb 97 true w0 (wn ps ls) mV (fun v σ => xD .max [v] (fun m σ => zl .Add (iV 1) m K σ) σ) σ := by kernel_rfl
theorem Vf (n : Nat) (f : Str) (args : List V) (σ : St) (h1 : (f == rf) = false) (h2 : zu f tr = true) : rQ (n + 1) f args σ = chk (Nat.beq (zj f).ps.length args.length) (xs (rQ n) Gb 100 true (zj f).sc ((zj f).ps.zip (args.map .v)) (zj f).body K0 σ) := by
 obtain e1 : P1 n f args σ = none := by unfold P1; refine (h1 ..).symm ▸ ?_; rfl
 obtain e2 : Tb f = some (zj f) := by unfold Tb; rw [h2]; rfl
 unfold rQ yC
 rw [e1]
 rw [e2]
 rfl
theorem Vg : (zj "_law_height").ps = (["parts", "leasts"] : List Str) := by kernel_rfl
theorem Vh (n : Nat) (ps ls : List PyData) (σ : St) : rQ (n + 1) "_law_height" [dV (.list ps), dV (.list ls)] σ = xs (rQ n) Gb 100 true w0 (wn ps ls) (zj "_law_height").body K0 σ := by
 rw [Vf n "_law_height" _ σ rfl rfl, Vg]
 obtain e : Nat.beq (["parts", "leasts"] : List Str).length [dV (.list ps), dV (.list ls)].length = true := rfl
 rw [e, zB]
 rfl
theorem Vi : (zj "_law_height").body = [.Return (some q5) Vc] := by kernel_rfl
theorem Vj : wI q5 = none := by kernel_rfl
theorem Vk (C : Str → List V → St → Out) (k : Nat) (er : Bool) (sc : zm) (ρ : zf) (e : Expr) (p : Pos) (KN : KR) (σ : St) (h : wI e = none) : xs C Gb (k + 1) er sc ρ [.Return (some e) p] KN σ = ev C Gb k er sc ρ e .ok σ := by
 show opt (r7 ρ e) _ _ = _
 rw [r7, h]
 rfl
theorem Vl (n : Nat) (ps ls : List PyData) (σ : St) : rQ (n + 1) "_law_height" [dV (.list ps), dV (.list ls)] σ =
  ev (rQ n) Gb 96 true w0 (wn ps ls) yH (fun v σ => zl .Add v (dV (.list [.int 0])) (fun v σ => xD .max [v] (fun m σ => zl .Add (iV 1) m .ok σ) σ) σ) σ := by
 rw [Vh, Vi, Vk _ _ _ _ _ _ _ _ _ Vj, Ve, Vd]
theorem Vm : vW yH = true := by kernel_rfl
theorem Vn (ps ls : List PyData) : (xC (uG yH) && yF w0 (wn ps ls) (y7 yH) (y7 yH)) = true := by kernel_rfl
theorem Vo (n : Nat) (ps ls : List PyData) (K : List PyData → St → Out) (σ : St) : src (ev (rQ n) Gb 95 true w0 (wn ps ls)) (yB w0 (wn ps ls)) (yK (xp yH)) (uF yH) K σ = chk (zi ps.length && zi ls.length) (K (xX ps ls) σ) := by kernel_rfl
theorem Vp : xP (vp yH) (xp yH) = false := by kernel_rfl
theorem Vq (ps ls : List PyData) (p l : PyData) : cB yH (wn ps ls) (.tuple [p, l]) = some ([("part", vD p), ("least", vD l)] : zf) := by kernel_rfl
theorem Vr (n : Nat) (ρ : zf) (K : Bool → St → Out) (σ : St) : cT n 95 yH ρ K σ = K true σ := by kernel_rfl
theorem Vs (n : Nat) (t : PyData) (l : Int) (r : List PyData) (h m : Int) (K : KV) (σ : St) : cE n 95 yH [("part", vD (zn t l r h)), ("least", vI m)] K σ = cond (decide (l < m)) (K (iV (h + 1)) σ) (K (iV (h + 0)) σ) := by kernel_rfl
noncomputable def uQ (n : Nat) (nm : PyData) (ts ps zs : List PyData) (row : V) (σ : St) : Out := zl .Add row (dV (.list [mT])) (fun row σ => zv row fun row => onOk (rQ n "_law_height" [dV (.list ps), dV (.list zs)] σ) fun hh σ => zv hh fun hh => .ok (.dat (.tuple [.tuple (nm :: ts), .int 5, row, hh])) σ) σ
theorem Vt (n : Nat) (nm kd : Str) (σ : St) : rQ (n + 1) "_law_called" [sV nm, sV kd, dV (.list [])] σ = uQ n (.str nm) [] [] [] (dV (.list [za (kd, .str nm), tU])) σ := by kernel_rfl
noncomputable abbrev addV (a : V) (b : List PyData) (K : KV) (σ : St) : Out := zl .Add a (dV (.list b)) K σ
theorem Vu (n : Nat) (nm kd : Str) (t1 : PyData) (l1 : Int) (r1 : List PyData) (h1 : Int) (σ : St) : rQ (n + 1) "_law_called" [sV nm, sV kd, dV (.list [zn t1 l1 r1 h1])] σ =
  addV (dV (.list [za (kd, .str nm), tU])) [] (fun a σ => addV a r1 (fun row σ => uQ n (.str nm) [t1] [zn t1 l1 r1 h1] [.int 0] row σ) σ) σ := by kernel_rfl
theorem Vv (n : Nat) (nm kd : Str) (t1 t2 : PyData) (l1 l2 : Int) (r1 r2 : List PyData) (h1 h2 : Int) (σ : St) : rQ (n + 1) "_law_called" [sV nm, sV kd, dV (.list [zn t1 l1 r1 h1, zn t2 l2 r2 h2])] σ =
  addV (dV (.list [za (kd, .str nm), tU])) [] (fun a σ => addV a r1 (fun row σ => addV row [mU] (fun a σ => addV a r2 (fun row σ => uQ n (.str nm) [t1, t2] [zn t1 l1 r1 h1, zn t2 l2 r2 h2] [.int 0, .int 0] row σ) σ) σ) σ) σ := by kernel_rfl
theorem Vw (n : Nat) (nm kd : Str) (t1 t2 t3 : PyData) (l1 l2 l3 : Int) (r1 r2 r3 : List PyData) (h1 h2 h3 : Int) (σ : St) : rQ (n + 1) "_law_called" [sV nm, sV kd, dV (.list [zn t1 l1 r1 h1, zn t2 l2 r2 h2, zn t3 l3 r3 h3])] σ =
  addV (dV (.list [za (kd, .str nm), tU])) [] (fun a σ => addV a r1 (fun row σ => addV row [mU] (fun a σ => addV a r2 (fun row σ => addV row [mU] (fun a σ => addV a r3 (fun row σ =>
   uQ n (.str nm) [t1, t2, t3] [zn t1 l1 r1 h1, zn t2 l2 r2 h2, zn t3 l3 r3 h3] [.int 0, .int 0, .int 0] row σ) σ) σ) σ) σ) σ) σ := by kernel_rfl
noncomputable def xi (op : Int) (e : Int) (f g h : PyData) : List V := [iV op, iV e, dV f, dV g, dV h]
theorem Vx (n : Nat) (e : Int) (f g h : PyData) (σ : St) : rQ (n + 1) "_law_part" (xi 0 e f g h) σ = onOk (rQ n "_law_leaf" [iV (e.fmod 7)] σ) .ok := by kernel_rfl
theorem Vy (n : Nat) (e : Int) (f g h : PyData) (σ : St) : rQ (n + 1) "_law_part" (xi 1 e f g h) σ = onOk (rQ n "_law_leaf" [iV (e.fmod 7)] σ) .ok := by kernel_rfl
theorem Vz (n : Nat) (e : Int) (f g h : PyData) (σ : St) : rQ (n + 1) "_law_part" (xi 2 e f g h) σ = onOk (rQ n "_law_leaf" [iV (e.fmod 7)] σ) .ok := by kernel_rfl
theorem VA (n : Nat) (e : Int) (t : PyData) (l : Int) (r : List PyData) (x : Int) (g h : PyData) (σ : St) : rQ (n + 1) "_law_part" (xi 3 e (zn t l r x) g h) σ = onOk (rQ n "_law_inside" [dV (zn t l r x), iV 5] σ) fun v σ =>
  zl .Add (dV (.list [za (T "OP_not" (.str "~"))])) v (fun row σ => zv row fun row => onOk (rQ n "_law_height" [dV (.list [zn t l r x]), dV (.list [.int 5])] σ) fun hh σ => zv hh fun hh => .ok (.dat (.tuple [.tuple [.str "not", t], .int 5, row, hh])) σ) σ := by kernel_rfl
noncomputable def vx (n : Nat) (nm : Str) (l : Int) (kd s : Str) (f g : PyData) (σ : St) : Out := onOk (rQ n "_law_joined" [sV nm, iV l, dV (za (kd, .str s)), dV f, dV g] σ) .ok
theorem VB (n : Nat) (e : Int) (f g h : PyData) (σ : St) : rQ (n + 1) "_law_part" (xi 4 e f g h) σ = vx n "and" 4 "OP_and" "&" f g σ := by kernel_rfl
theorem VC (n : Nat) (e : Int) (f g h : PyData) (σ : St) : rQ (n + 1) "_law_part" (xi 5 e f g h) σ = vx n "xor" 3 "OP_xor" "^" f g σ := by kernel_rfl
theorem VD (n : Nat) (e : Int) (f g h : PyData) (σ : St) : rQ (n + 1) "_law_part" (xi 6 e f g h) σ = vx n "or" 2 "OP_or" "|" f g σ := by kernel_rfl
theorem VE (n : Nat) (e : Int) (f g h : PyData) (σ : St) : rQ (n + 1) "_law_part" (xi 7 e f g h) σ = vx n "implies" 1 "OP_rarrow" "=>" f g σ := by kernel_rfl
theorem VF (n : Nat) (e : Int) (f g h : PyData) (σ : St) : rQ (n + 1) "_law_part" (xi 8 e f g h) σ = vx n "equal" 1 "OP_lrarrow" "<=>" f g σ := by kernel_rfl
theorem VG (n : Nat) (e : Int) (t1 t2 t3 : PyData) (l1 l2 l3 : Int) (r1 r2 r3 : List PyData) (h1 h2 h3 : Int) (σ : St) : rQ (n + 1) "_law_part" (xi 9 e (zn t1 l1 r1 h1) (zn t2 l2 r2 h2) (zn t3 l3 r3 h3)) σ =
  onOk (rQ n "_law_inside" [dV (zn t1 l1 r1 h1), iV 1] σ) fun v σ => addV v [za (T "OP_question" (.str "?"))] (fun a σ => addV a r2 (fun a σ => addV a [za (T "OP_colon" (.str ":"))] (fun a σ => addV a r3 (fun row σ =>
   onOk (rQ n "_law_height" [dV (.list [zn t1 l1 r1 h1, zn t2 l2 r2 h2, zn t3 l3 r3 h3]), dV (.list [.int 1, .int 0, .int 0])] σ) fun hh σ => zv row fun row => zv hh fun hh => .ok (.dat (.tuple [.tuple [.str "ite", t1, t2, t3], .int 0, row, hh])) σ) σ) σ) σ) σ := by kernel_rfl
theorem VH (n : Nat) (e : Int) (t : PyData) (l : Int) (r : List PyData) (x : Int) (g h : PyData) (σ : St) : rQ (n + 1) "_law_part" (xi 10 e (zn t l r x) g h) σ = addV (dV (.list [tU])) r (fun a σ => addV a [mT] (fun row σ => zv row fun row => .ok (.dat (.tuple [t, .int 5, row, .int (x + 1)])) σ) σ) σ := by kernel_rfl
noncomputable def rA (v : V) (k : Int → Out) : Out := yc v k
noncomputable def mW (n : Nat) (nm kd : V) (l : List PyData) (m : V) (σ : St) : Out := rA m fun m => chk (z0 m) (onOk (rQ n "_law_called" [nm, kd, dV (.list (zk l none (some m)))] σ) .ok)
theorem VI (n : Nat) (e : Int) (t : PyData) (l : Int) (r : List PyData) (x : Int) (g h : PyData) (σ : St) : rQ (n + 2) "_law_part" (xi 11 e (zn t l r x) g h) σ = indexK (dV (.list (xd.map .str))) (iV (e.fmod 12)) (fun kd σ =>
  indexK (.dct wA) kd (fun nm σ => zK (dV (.list r)) (fun ln σ => zl .Add (iV e) ln (fun s σ => zl .Mod s (iV 4) (fun m σ => mW (n + 1) nm kd [zn t l r x, g, h] m σ) σ) σ) σ) σ) σ := by kernel_rfl
theorem VJ (n : Nat) (e : Int) (f g h : PyData) (σ : St) : rQ (n + 2) "_law_part" (xi 12 e f g h) σ = indexK (dV (.list (v7.map .str))) (iV (e.fmod 3)) (fun kd σ =>
  indexK (.dct wU) kd (fun c σ => indexK c (iV 0) (fun nm σ => indexK (.dct wU) kd (fun c σ => indexK c (iV 1) (fun m σ => mW (n + 1) nm kd [f, g, h] m σ) σ) σ) σ) σ) σ := by kernel_rfl
noncomputable def tN (s : Str) : Tk := T "NameToken" (.str s)
noncomputable def tI (i : Int) : Tk := T "IntegerToken" (.int i)
noncomputable def tC : Tk := T "COMMA" (.str ",")
noncomputable def q6 : Tk := T "DOT" (.str ".")
noncomputable def gU : Tk := T "LBRACK" (.str "[")
noncomputable def gV : Tk := T "RBRACK" (.str "]")
noncomputable def L0 : List Tk := [tN "a"]
noncomputable def L1 : List Tk := [tN "b"]
noncomputable def L2 : List Tk := [tN "x", gU, tI 1, gV]
noncomputable def L3 : List Tk := [tN "r", q6, tN "q", q6, tN "p"]
noncomputable def L4 : List Tk := [tN "m", q6, tN "x", gU, tI 0, tC, tI 12, tC, tI 3, gV]
noncomputable def L5 : List Tk := [tI 0]
noncomputable def L6 : List Tk := [tI 1]
noncomputable def vr (ns is : List PyData) : PyData := zS "var" (.tuple ns) (.tuple is)
theorem VK (n : Nat) (σ : St) : rQ (n + 1) "_law_leaf" [iV 0] σ = .ok (dV (zn (vr [.str "a"] []) 5 (L0.map za) 0)) σ := by kernel_rfl
theorem VL (n : Nat) (σ : St) : rQ (n + 1) "_law_leaf" [iV 1] σ = .ok (dV (zn (vr [.str "b"] []) 5 (L1.map za) 0)) σ := by kernel_rfl
theorem VM (n : Nat) (σ : St) : rQ (n + 1) "_law_leaf" [iV 2] σ = .ok (dV (zn (vr [.str "x"] [.int 1]) 5 (L2.map za) 0)) σ := by kernel_rfl
theorem VN (n : Nat) (σ : St) : rQ (n + 1) "_law_leaf" [iV 3] σ = .ok (dV (zn (vr [.str "p", .str "q", .str "r"] []) 5 (L3.map za) 0)) σ := by kernel_rfl
theorem VO (n : Nat) (σ : St) : rQ (n + 1) "_law_leaf" [iV 4] σ = .ok (dV (zn (vr [.str "x", .str "m"] [.int 0, .int 12, .int 3]) 5 (L4.map za) 0)) σ := by kernel_rfl
theorem VP (n : Nat) (σ : St) : rQ (n + 1) "_law_leaf" [iV 5] σ = .ok (dV (zn (.tuple [.str "const", .int 0]) 5 (L5.map za) 0)) σ := by kernel_rfl
theorem VQ (n : Nat) (σ : St) : rQ (n + 1) "_law_leaf" [iV 6] σ = .ok (dV (zn (.tuple [.str "const", .int 1]) 5 (L6.map za) 0)) σ := by kernel_rfl
structure PtR (m : Nat) (t : PyData) (lev : Nat) (row : List Tk) : Prop where
 le : lev ≤ 5
 d : D lev row t
 ok : ∀ x ∈ row, zL x
 len : row.length ≤ m
noncomputable def Pt (m : Nat) (p : PyData) : Prop := ∃ t lev row h, p = zn t (lev : Nat) (row.map za) h ∧ PtR m t lev row
noncomputable def wC (t : Tk) : Bool := !(t.1 == ym) && (cond (t.1 == "IntegerToken") (match t.2 with | .int _ => true | _ => false) true) && (za t).canLay0 && decide ((za t).depth ≤ 2)
set_option tactic.hygienic true in
theorem vy {t : Tk} (h : wC t = true) : zL t := by
 unfold wC at h
 simp only [Bool.and_eq_true, Bool.not_eq_true', decide_eq_true_eq] at h
 refine ze (h) fun W0 h4 => ?_
 refine ze (W0) fun W1 h3 => ?_
 refine ze (W1) fun h1 h2 => ?_
 refine yV (⟨fun e => (by rw [e] at h1; exact ff h1.symm), fun e => ?_⟩) h3 h4
 rw [e] at h2
 obtain e2 : (("IntegerToken" : Str) == "IntegerToken") = true := rfl
 rw [e2, cond_true] at h2
 split at h2
 ·rename_i i q; exact ⟨i, q⟩
 ·exact ff h2
theorem gW (h : w.all wC = true) : ∀ t ∈ w, zL t := fun t ht => vy (all_eq_true.mp h t ht)
theorem uR (hd : D 5 row t) (hb : row.all wC = true) (hl : row.length ≤ 10) : Pt 10 (zn t 5 (row.map za) h) := ⟨t, 5, row, h, rfl, Nat.le_refl _, hd, gW hb, hl⟩
theorem mX (n : Nat) (e : Int) (h0 : 0 ≤ e) (h7 : e < 7) (σ : St) : ∃ p, rQ (n + 1) "_law_leaf" [iV e] σ = .ok (dV p) σ ∧ Pt 10 p := by
 obtain c : e = 0 ∨ e = 1 ∨ e = 2 ∨ e = 3 ∨ e = 4 ∨ e = 5 ∨ e = 6 := by lia
 rcases c with rfl | rfl | rfl | rfl | rfl | rfl | rfl
 ·exact zg _ (VK n σ) (uR (.var (ns := [.str "a"]) (.one _)) (by kernel_rfl) (by decide))
 ·exact zg _ (VL n σ) (uR (.var (ns := [.str "b"]) (.one _)) (by kernel_rfl) (by decide))
 ·exact zg _ (VM n σ) (uR (.varI (.str "[") (.str "]") (w := [tN "x"]) (w' := [tI 1]) (ns := [.str "x"]) (.one _) (.one _)) (by kernel_rfl) (by decide))
 ·exact (zg _ (VN n σ) (uR (.var (ns := [.str "r", .str "q", .str "p"]) (.cons _ _ (.cons _ _ (.one _)))) (by kernel_rfl) (by decide)))
 ·exact (zg _ (VO n σ) (uR (.varI (.str "[") (.str "]") (w := [tN "m", q6, tN "x"]) (w' := [tI 0, tC, tI 12, tC, tI 3]) (ns := [.str "m", .str "x"]) (.cons _ _ (.one _)) (.cons _ _ (.cons _ _ (.one _)))) (by kernel_rfl) (by decide)))
 ·exact zg _ (VP n σ) (uR (.const (.inl rfl)) (by kernel_rfl) (by decide))
 ·exact zg _ (VQ n σ) (uR (.const (.inr rfl)) (by kernel_rfl) (by decide))
theorem v9 {a b : List PyData} (h : a.length + b.length ≤ 1000) : zl .Add (dV (.list a)) (dV (.list b)) K σ = K (dV (.list (a ++ b))) σ := by
 show chk (zi (a.length + b.length)) _ = _
 rw [zJ h]; rfl
theorem mY : zL (T "LPAREN" (.str "(")) := vy (by kernel_rfl)
theorem mZ : zL (T "RPAREN" (.str ")")) := vy (by kernel_rfl)
theorem m0 : zL (T "COMMA" (.str ",")) := vy (by kernel_rfl)
theorem D.at {i j : Nat} (h : D i w t) (h1 : j ≤ i) (h2 : i ≤ 5) : D j w t := by
 refine zd ((⟨i - j, by lia⟩) : ∃ k, i = j + k) fun k W0 => ?_
 obtain rfl := W0
 exact D.down k j h h2
theorem q7 {c : Nat} (P : PtR c t lev row) (hm : m ≤ 5) (hc : c ≤ 200) : ∃ row', rQ (n + 1) "_law_inside" [dV (zn t (lev : Nat) (row.map za) h), iV (m : Nat)] σ = .ok (dV (.list (row'.map za))) σ ∧ PtR (c + 2) t m row' := by
 obtain hl := P.len
 rw [Va]
 by_cases hlt : ((lev : Nat) : Int) < ((m : Nat) : Int)
 ·rw [decide_eq_true hlt, cond_true]
  refine ⟨T "LPAREN" (.str "(") :: (row ++ [T "RPAREN" (.str ")")]), ?_, hm, (D.paren (.str "(") (.str ")") (P.d.at (Nat.zero_le _) P.le)).at hm (Nat.le_refl _), fun x hx => ?_, by simp [length_cons, length_append, length_nil]; assumption⟩
  ·unfold gT
   rw [v9 (by simp; lia), v9 (by simp; lia)]
   simp only [map_cons, map_append, List.map_nil]
   rfl
  ·refine zh (mem_cons.mp hx) (fun W0 => ?_) fun hx => ?_
   ·refine (W0) ▸ ?_; exact mY
   ·refine zh (mem_append.mp hx) (fun hx => ?_) fun hx => ?_
    ·exact P.ok x hx
    ·rw [mem_singleton.mp hx]; exact mZ
 ·rw [decide_eq_false hlt, cond_false]
  exact ⟨row, rfl, hm, P.d.at (by lia) P.le, P.ok, by lia⟩
noncomputable def tV (p : PyData) : Prop := ∃ t l r h, p = zn t l r h
theorem Pt.is (h : Pt m p) : tV p := by refine yJ (h) fun t lev row hh W0 _ => ?_; rw [W0]; exact vE _ _ _ _ rfl
theorem gX {n : Nat} {σ : St} {ps0 ls0 : List PyData} : ∀ (ps : List PyData) (ls : List Int) (K : List PyData → St → Out), (∀ p ∈ ps, tV p) → ∃ hs : List Int, hs.length ≤ ps.length ∧
  compK (cB yH (wn ps0 ls0)) (cT n 95 yH) (cE n 95 yH) (xX ps (ls.map .int)) K σ = K (hs.map .int) σ
 | [], ls, K, _ => (zg ([]) (Nat.le_refl _) (by cases ls <;> rfl))
 | p :: ps, [], K, _ => (zg ([]) (Nat.zero_le _) rfl)
 | p :: ps, m :: ls, K, h => by
  refine t7 (h p (mem_cons_self ..)) fun t l r hh W0 => ?_
  refine (W0) ▸ ?_
  obtain e1 : xX (zn t l r hh :: ps) ((m :: ls).map .int) = .tuple [zn t l r hh, .int m] :: xX ps (ls.map .int) := rfl
  refine (e1 ..).symm ▸ (tL (Vq ps0 ls0 _ _) ..).symm ▸ (Vr ..).symm ▸ (cond_true ..).symm ▸ ?_
  have go : ∀ x : Int, ∃ hs : List Int, hs.length ≤ (zn t l r hh :: ps).length ∧ compK (cB yH (wn ps0 ls0)) (cT n 95 yH) (cE n 95 yH) (xX ps (ls.map .int)) (fun ds => K (.int x :: ds)) σ = K (hs.map .int) σ := fun x => by
   refine zb (gX (n := n) (σ := σ) (ps0 := ps0) (ls0 := ls0) ps ls (fun ds => K (.int x :: ds)) fun p hp => h p (mem_cons_of_mem _ hp)) fun hs h1 h2 => ?_
   exact zg (x :: hs) (by simp [length_cons]; assumption) h2
  obtain e2 : vD (.int m) = vI m := rfl
  rw [e2, Vs]
  cases decide (l < m) with
  | true => exact go (hh + 1)
  | false => exact go (hh + 0)
theorem gY : ∀ (l : List Int), va (l.map .int) = some l
 | [] => rfl
 | x :: l => by
  obtain ih := gY l
  show (va (l.map .int)).map (x :: ·) = _
  rw [ih]; rfl
theorem q8 (n : Nat) (ps : List PyData) (ls : List Int) (σ : St) (h : ∀ p ∈ ps, tV p) (h1 : ps.length ≤ 100) (h2 : ls.length ≤ 100) : ∃ x : Int, rQ (n + 1) "_law_height" [dV (.list ps), dV (.list (ls.map .int))] σ = .ok (iV x) σ := by
 rw [Vl, tK n 95 true w0 _ yH _ σ Vm (Vn _ _), Vo, zJ (by lia), zJ (by simp; exact Nat.le_trans ‹_› (by decide))]
 refine zb (gX (n := n) (σ := σ) (ps0 := ps) (ls0 := ls.map .int) ps ls (fun ds => (fun v σ => zl .Add v (dV (.list [.int 0])) (fun v σ => xD .max [v] (fun m σ => zl .Add (iV 1) m .ok σ) σ) σ) (cond (xP (vp yH) (xp yH)) (.kin ds) (.dat (.list ds)))) h) fun hs h3 h4 => ?_
 obtain e : (true && true) = true := rfl
 refine (e ..).symm ▸ (zB ..).symm ▸ (h4 ..).symm ▸ (Vp ..).symm ▸ (cond_false ..).symm ▸ ?_
 show ∃ x : Int, zl .Add (dV (.list (hs.map .int))) (dV (.list [.int 0])) (fun v σ => xD .max [v] (fun m σ => zl .Add (iV 1) m .ok σ) σ) σ = .ok (iV x) σ
 rw [v9 (by simp; lia)]
 have e1 : hs.map PyData.int ++ [.int 0] = (hs ++ [0]).map .int := by simp
 refine (e1 ..).symm ▸ ?_
 cases hs with
 | nil => exact ⟨1 + 0, rfl⟩
 | cons a hs =>
  refine ⟨1 + wu a (hs ++ [0]), ?_⟩
  show opt ((va ((a :: hs ++ [0]).map .int)).bind ul) (fun q => chk (zi ((a :: hs ++ [0]).map PyData.int).length) (zl .Add (iV 1) (.dat (.int (wu q.1 q.2))) .ok σ)) .bad = _
  rw [gY, zJ (by simp at h3 ⊢; lia)]
  rfl
theorem VR {c : Nat} (hm : (kd, k, nm) ∈ xe) (hs : zL (kd, .str s)) {f g : PyData} (hf : Pt c f) (hg : Pt c g) (hc : c ≤ 200) (σ : St) : ∃ p, vx (n + 2) nm k kd s f g σ = .ok (dV p) σ ∧ Pt (2 * c + 5) p := by
 refine yJ (hf) fun t1 l1 r1 h1 W0 P1 => ?_
 refine (W0) ▸ ?_
 refine yJ (hg) fun t2 l2 r2 h2 W1 P2 => ?_
 refine (W1) ▸ ?_
 refine lC (vt hm) fun _ _ k1 k4 _ => ?_
 unfold vx
 refine (Vb ..).symm ▸ ?_
 refine zb (q7 (n := n) (m := k + 1) (h := h1) (σ := σ) P1 (by lia) hc) fun a ea Pa => ?_
 refine zb (q7 (n := n) (m := k) (h := h2) (σ := σ) P2 (by lia) hc) fun b eb Pb => ?_
 obtain la := Pa.len
 obtain lb := Pb.len
 obtain e1 : ((k : Nat) : Int) + 1 = ((k + 1 : Nat) : Int) := by lia
 refine zd (q8 n [zn t1 l1 (r1.map za) h1, zn t2 l2 (r2.map za) h2] [((k + 1 : Nat) : Int), k] σ (fun p hp => by
  refine zh (mem_cons.mp hp) (fun W2 => ?_) fun hp => ?_
  ·refine (W2) ▸ ?_; exact vE _ _ _ _ rfl
  ·rw [mem_singleton.mp hp]; exact (vE _ _ _ _ rfl)) (by simp) (by simp)) fun x ex => ?_
 obtain ex : rQ (n + 1) "_law_height" [dV (.list [zn t1 l1 (r1.map za) h1, zn t2 l2 (r2.map za) h2]), dV (.list [.int ((k + 1 : Nat) : Int), .int k])] σ = .ok (iV x) σ := ex
 rw [e1, ea, xV, v9 (by simp; lia), eb, xV, v9 (by simp; lia), x9, ex, xV]
 refine ⟨zn (zS nm t1 t2) k ((a ++ (kd, .str s) :: b).map za) x, ?_, zS nm t1 t2, k, a ++ (kd, .str s) :: b, x, rfl, by lia, .bin (.str s) hm Pa.d Pb.d, fun y hy => ?_, by simp only [length_append, length_cons]; lia⟩
 ·simp only [map_append, map_cons, append_assoc, cons_append, nil_append]
  rfl
 ·refine zh (mem_append.mp hy) (fun hy => ?_) fun hy => ?_
  ·exact Pa.ok y hy
  ·refine zh (mem_cons.mp hy) (fun W3 => ?_) fun hy => ?_
   ·refine (W3) ▸ ?_; exact hs
   ·exact Pb.ok y hy
theorem VS {nm : PyData} {zs : List Int} (h : ∀ p ∈ ps, tV p) (h1 : ps.length ≤ 100) (h2 : zs.length ≤ 100) (hl : row.length ≤ 900) :
  ∃ x : Int, uQ (n + 1) nm ts ps (zs.map .int) (dV (.list (row.map za))) σ = .ok (dV (zn (.tuple (nm :: ts)) 5 ((row ++ [T "RPAREN" (.str ")")]).map za) x)) σ := by
 refine zd (q8 n ps zs σ h h1 h2) fun x ex => ?_
 refine ⟨x, ?_⟩
 unfold uQ
 rw [v9 (by simp; exact Nat.le_trans ‹_› (by decide)), x9, ex, xV]
 simp only [map_append, map_cons, List.map_nil]
 rfl
noncomputable def LP : Tk := T "LPAREN" (.str "(")
noncomputable def vz : Tk := T "RPAREN" (.str ")")
theorem m1 {a b : List Tk} (h : a.length + b.length ≤ 1000) : zl .Add (dV (.list (a.map za))) (dV (.list (b.map za))) K σ = K (dV (.list ((a ++ b).map za))) σ := by
 rw [v9 (by simpa using h), map_append]
theorem TP {a : List Tk} (h : a.length ≤ 1000) : zl .Add (dV (.list (a.map za))) (dV (.list [])) K σ = K (dV (.list (a.map za))) σ := by
 rw [v9 (by simpa using h), append_nil]
noncomputable def tW : List (List Tk) → KV → KV
 | [], K => K
 | b :: bs, K => fun v σ => zl .Add v (dV (.list (b.map za))) (tW bs K) σ
theorem m4 {bs : List (List Tk)} {a : List Tk} (h : a.length + bs.flatten.length ≤ 1000) : tW bs K (dV (.list (a.map za))) σ = K (dV (.list ((a ++ bs.flatten).map za))) σ := by
 induction bs generalizing a with
 | nil => rw [List.flatten_nil, append_nil]; rfl
 | cons b bs ih =>
  rw [List.flatten_cons, length_append, ← Nat.add_assoc] at h
  show zl .Add _ _ (tW bs K) σ = _
  rw [m1 (Nat.le_trans (Nat.le_add_right ..) h), ih (by rw [length_append]; exact h), List.flatten_cons, append_assoc]
theorem w5 (t : PyData) (l : Int) (r : List PyData) (h : Int) : tV (zn t l r h) := (vE _ _ _ _ rfl)
theorem xB {α : Type} {P : α → Prop} {a : α} {l : List α} (h : P a) (g : ∀ x ∈ l, P x) : ∀ x ∈ a :: l, P x := forall_mem_cons.mpr ⟨h, g⟩
theorem gZ {α : Type} {P : α → Prop} : ∀ x ∈ ([] : List α), P x := fun _ h => absurd h not_mem_nil
theorem uS {α : Type} {P : α → Prop} {l m : List α} (h : ∀ x ∈ l, P x) (g : ∀ x ∈ m, P x) : ∀ x ∈ l ++ m, P x := forall_mem_append.mpr ⟨h, g⟩
theorem PtR.le_ {c : Nat} (P : PtR c t lev row) : D 0 row t := P.d.at (Nat.zero_le _) P.le
noncomputable def tY (n : Nat) (nm kd : Str) (ps : List PyData) (c : Nat) (σ : St) : Prop := ∃ m ts x, rQ (n + 2) "_law_called" [sV nm, sV kd, dV (.list ps)] σ = .ok (dV (zn (.tuple (.str nm :: ts)) 5 ((((kd, .str nm) :: LP :: m) ++ [vz]).map za) x)) σ ∧
  ts.length = ps.length ∧ ((m = [] ∧ ts = []) ∨ D 9 m (.tuple ts)) ∧ (∀ x ∈ m, zL x) ∧ m.length ≤ 3 * c + 2
theorem cres {c : Nat} {zs : List Int} {bs : List (List Tk)} {m : List Tk} (q : rQ (n + 2) "_law_called" [sV nm, sV kd, dV (.list ps)] σ = tW bs (fun row σ => uQ (n + 1) (.str nm) ts ps (zs.map .int) row σ) (dV (.list ([(kd, .str nm), LP].map za))) σ)
  (hm : bs.flatten = m) (h : ∀ p ∈ ps, tV p) (h1 : ps.length ≤ 100) (h2 : zs.length ≤ 100) (ht : ts.length = ps.length) (d : (m = [] ∧ ts = []) ∨ D 9 m (.tuple ts)) (ok : ∀ x ∈ m, zL x) (hl : m.length ≤ 3 * c + 2) (hc : c ≤ 200) : tY n nm kd ps c σ := by
 have b : 2 + m.length ≤ 900 := by lia
 refine zd (VS (n := n) (nm := .str nm) (ts := ts) (ps := ps) (zs := zs) (row := [(kd, .str nm), LP] ++ m) (σ := σ) h h1 h2 (by rw [length_append]; exact b)) fun x ex => ?_
 exact (rE m ts x (q.trans ((m4 (by rw [hm]; exact Nat.le_trans b (by decide))).trans (by rw [hm]; exact ex))) (ht) (d) (ok) (hl))
section
variable {n c : Nat} {nm kd : Str} {σ : St} {t1 t2 t3 : PyData} {l1 l2 l3 : Nat} {r1 r2 r3 : List Tk} {h1 h2 h3 : Int}
theorem VT (hc : c ≤ 200) : tY n nm kd [] c σ := cres (bs := []) (zs := []) (Vt ..) rfl gZ (by decide) (by decide) rfl (.inl ⟨rfl, rfl⟩) gZ (Nat.zero_le _) hc
theorem VU (P1 : PtR c t1 l1 r1) (hc : c ≤ 200) : tY n nm kd [zn t1 l1 (r1.map za) h1] c σ :=
 cres (bs := [[], r1]) (zs := [0]) (ts := [t1]) (Vu ..) (append_nil r1) (forall_mem_singleton.mpr (w5 ..)) (show 1 ≤ 100 by decide) (show 1 ≤ 100 by decide) rfl (.inr (.arg1 P1.le_)) P1.ok (by have := P1.len; lia) hc
theorem VV (P1 : PtR c t1 l1 r1) (P2 : PtR c t2 l2 r2) (hc : c ≤ 200) : tY n nm kd [zn t1 l1 (r1.map za) h1, zn t2 l2 (r2.map za) h2] c σ :=
 cres (bs := [[], r1, [T "COMMA" (.str ",")], r2]) (zs := [0, 0]) (ts := [t1, t2]) (m := r1 ++ T "COMMA" (.str ",") :: r2) (Vv ..) (congrArg (fun x => r1 ++ T "COMMA" (.str ",") :: x) (append_nil r2)) (xB (w5 ..) (forall_mem_singleton.mpr (w5 ..))) (show 2 ≤ 100 by decide) (show 2 ≤ 100 by decide) rfl
  (.inr (.argS (.str ",") P1.le_ (.arg1 P2.le_))) (uS P1.ok (xB m0 P2.ok)) (by rw [length_append, length_cons]; have := P1.len; have := P2.len; lia) hc
theorem VW (P1 : PtR c t1 l1 r1) (P2 : PtR c t2 l2 r2) (P3 : PtR c t3 l3 r3) (hc : c ≤ 200) : tY n nm kd [zn t1 l1 (r1.map za) h1, zn t2 l2 (r2.map za) h2, zn t3 l3 (r3.map za) h3] c σ :=
 cres (bs := [[], r1, [T "COMMA" (.str ",")], r2, [T "COMMA" (.str ",")], r3]) (zs := [0, 0, 0]) (ts := [t1, t2, t3]) (m := r1 ++ T "COMMA" (.str ",") :: (r2 ++ T "COMMA" (.str ",") :: r3)) (Vw ..) (congrArg (fun x => r1 ++ T "COMMA" (.str ",") :: (r2 ++ T "COMMA" (.str ",") :: x)) (append_nil r3))
  (xB (w5 ..) (xB (w5 ..) (forall_mem_singleton.mpr (w5 ..)))) (show 3 ≤ 100 by decide) (show 3 ≤ 100 by decide) rfl
  (.inr (.argS (.str ",") P1.le_ (.argS (.str ",") P2.le_ (.arg1 P3.le_)))) (uS P1.ok (xB m0 (uS P2.ok (xB m0 P3.ok)))) (by rw [length_append, length_cons, length_append, length_cons]; have := P1.len; have := P2.len; have := P3.len; lia) hc
end
theorem g8 {c : Nat} (h : ∀ p ∈ ps, Pt c p) (hl : ps.length ≤ 3) (hc : c ≤ 200) (σ : St) : tY n nm kd ps c σ := by
 cases ps with
 | nil => exact VT hc
 | cons p1 ps =>
  have h := forall_mem_cons.mp h
  refine yJ (h.1) fun t1 l1 r1 h1 e1 P1 => ?_
  cases ps with
  | nil => rw [e1]; exact VU P1 hc
  | cons p2 ps =>
   have h := forall_mem_cons.mp h.2
   refine yJ (h.1) fun t2 l2 r2 h2 e2 P2 => ?_
   cases ps with
   | nil => rw [e1, e2]; exact VV P1 P2 hc
   | cons p3 ps =>
    refine yJ ((forall_mem_cons.mp h.2).1) fun t3 l3 r3 h3 e3 P3 => ?_
    cases ps with
    | nil => rw [e1, e2, e3]; exact VW P1 P2 P3 hc
    | cons _ _ => exact absurd (Nat.le_of_succ_le_succ (Nat.le_of_succ_le_succ (Nat.le_of_succ_le_succ hl))) (Nat.not_succ_le_zero _)
theorem xJ (e : Int) {k : Int} (h : 0 < k) : 0 ≤ e.fmod k ∧ e.fmod k < k := by
 rw [Int.fmod_eq_emod_of_nonneg _ (by lia)]
 exact ⟨Int.emod_nonneg _ (by lia), Int.emod_lt_of_pos _ h⟩
theorem VX (h : (kd, nm) ∈ zT) : zG kd wA = some (.str nm) := words_ind (P := fun kd nm => zG kd wA = some (.str nm)) rfl rfl rfl rfl rfl rfl rfl rfl rfl rfl rfl rfl h
theorem g9 {α : Type} {l : List α} {f : α → PyData} (h0 : 0 ≤ i) (h1 : i < l.length) : ∃ x, yr (l.map f) i = some (f x) ∧ x ∈ l := by
 refine zd ((⟨i.toNat, by lia⟩) : ∃ m : Nat, i = m) fun m e => ?_
 have hm : m < l.length := by lia
 rw [e]
 exact zg (l[m]) (ms (by rw [List.getElem?_map, List.getElem?_eq_getElem hm]; rfl)) (List.getElem_mem hm)
theorem VY (h0 : 0 ≤ i) (h1 : i < 12) : ∃ kd nm, yr (xd.map .str) i = some (.str kd) ∧ (kd, nm) ∈ zT ∧ zG kd wA = some (.str nm) ∧ wC (kd, .str nm) = true := by
 refine zb (g9 (l := zT) (f := fun q => .str q.1) h0 h1) fun W0 e h => ?_
 obtain ⟨kd, nm⟩ := W0
 exact (wE kd nm e h (VX h) (all_eq_true.mp (show zT.all (fun q => wC (q.1, .str q.2)) = true by kernel_rfl) _ h))
theorem VZ (h0 : 0 ≤ i) (h1 : i < 3) : ∃ kd nm c, yr (v7.map .str) i = some (.str kd) ∧ (kd, nm, c) ∈ z8 ∧ zG kd wU = some (.tuple [.str nm, .int (c : Nat)]) ∧ wC (kd, .str nm) = true ∧ c ≤ 3 := by
 refine zb (g9 (l := z8) (f := fun q => .str q.1) h0 h1) fun W0 e h => ?_
 obtain ⟨kd, nm, c⟩ := W0
 exact (rE kd nm c e h (o8 (P := fun kd nm c => zG kd wU = some (.tuple [.str nm, .int (c : Nat)])) rfl rfl rfl h) (all_eq_true.mp (show z8.all (fun q => wC (q.1, .str q.2.1)) = true by kernel_rfl) _ h) (Nat.le_of_ble_eq_true (qD (fun _ c => Nat.ble c 3) rfl h)))
theorem uT {l : List PyData} (h : yr l i = some x) (h0 : -1000 ≤ i) (h1 : i ≤ 1000) : indexK (dV (.list l)) (iV i) K σ = K (dV x) σ := by
 show chk (z0 i) (opt (yr l i) (fun x => K (.dat x) σ) .bad) = _
 rw [xg h0 h1, zB, h]; rfl
theorem V0 {l : List (Str × PyData)} (h : zG s l = some x) : indexK (.dct l) (sV s) K σ = K (dV x) σ := by
 show (opt (zG s l) (fun x => K (.dat x) σ) .bad) = _
 refine (h ..).symm ▸ ?_; rfl
theorem m5 {l : List (Str × PyData)} (h : zG s l = some x) : indexK (.dct l) (dV (.str s)) K σ = K (dV x) σ := V0 h
theorem V1 {a b : PyData} : indexK (dV (.tuple [a, b])) (iV 0) K σ = K (dV a) σ := rfl
theorem V2 {a b : PyData} : indexK (dV (.tuple [a, b])) (iV 1) K σ = K (dV b) σ := rfl
theorem fc {nm kd : V} {l : List PyData} {m : Int} : mW n nm kd l (dV (.int m)) σ = chk (z0 m) (onOk (rQ n "_law_called" [nm, kd, dV (.list (zk l none (some m)))] σ) .ok) := rfl
theorem cut3 {l : List PyData} {m : Int} (h0 : 0 ≤ m) (h1 : m ≤ l.length) : zk l none (some m) = l.take m.toNat := by
 refine zd ((⟨m.toNat, by lia⟩) : ∃ k : Nat, m = k) fun k W0 => ?_
 refine (W0) ▸ ?_
 rw [tQ (by lia), Int.toNat_natCast]
theorem V3 {s : Int} : zl .Mod (dV (.int s)) (iV 4) K σ = K (dV (.int (s.fmod 4))) σ := rfl
noncomputable def w6 (n : Nat) (op e : Int) (f g h : PyData) (σ : St) : Prop := ∃ p, rQ (n + 5) "_law_part" (xi op e f g h) σ = .ok (dV p) σ ∧ Pt 130 p
theorem Pt.mono {a b : Nat} (P : Pt a p) (h : a ≤ b) : Pt b p :=
 let ⟨t, lev, row, x, e, P⟩ := P; ⟨t, lev, row, x, e, P.le, P.d, P.ok, Nat.le_trans P.len h⟩
theorem Pt.mk {y : Int} (h1 : lev ≤ 5) (d : D lev row t) (ok : ∀ x ∈ row, zL x) (len : row.length ≤ m) : Pt m (zn t (lev : Nat) (row.map za) y) := ⟨t, lev, row, y, rfl, h1, d, ok, len⟩
theorem V4 (a b : Int) (K : KV) (σ : St) : zl .Add (iV a) (iV b) K σ = K (dV (.int (a + b))) σ := rfl
section
variable {n : Nat} {e : Int} {f g h : PyData} {σ : St}
theorem V5 (e : Int) : ∃ p, onOk (rQ (n + 4) "_law_leaf" [iV (e.fmod 7)] σ) .ok = .ok (dV p) σ ∧ Pt 130 p := by
 have r := xJ e (k := 7) (by decide)
 refine zb (mX (n + 3) (e.fmod 7) r.1 r.2 σ) fun p ep P => ?_
 exact zg p (by rw [ep]; rfl) (P.mono (by decide))
theorem V6 (hf : Pt 40 f) (hg : Pt 40 g) (hm : (kd, k, nm) ∈ xe) (hb : wC (kd, .str s) = true) : ∃ p, vx (n + 4) nm (k : Nat) kd s f g σ = .ok (dV p) σ ∧ Pt 130 p := by
 refine zb (VR (n := n + 2) hm (vy hb) hf hg (by decide) σ) fun p ep P => ?_
 exact zg p ep (P.mono (by decide))
theorem V7 (hf : Pt 40 f) : w6 n 3 e f g h σ := by
 refine yJ (hf) fun t l r x q P => ?_
 rw [q]
 refine zb (q7 (n := n + 3) (m := 5) (h := x) (σ := σ) P (by decide) (by decide)) fun a ea Pa => ?_
 refine zd (q8 (n + 3) [zn t l (r.map za) x] [5] σ (forall_mem_singleton.mpr (w5 ..)) (show 1 ≤ 100 by decide) (show 1 ≤ 100 by decide)) fun y ey => ?_
 refine (zg _ ((VA ..).trans (?_ : _ = Out.ok (dV (zn (.tuple [.str "not", t]) (5 : Nat) ((T "OP_not" (.str "~") :: a).map za) y)) σ)) (Pt.mk (lev := 5) (row := T "OP_not" (.str "~") :: a) (by decide) (.not _ Pa.d) (xB (vy (by kernel_rfl)) Pa.ok) (Nat.le_trans (Nat.succ_le_succ Pa.len) (by decide))))
 have ea : rQ (n + 4) "_law_inside" [dV (zn t l (r.map za) x), iV 5] σ = .ok (dV (.list (a.map za))) σ := ea
 have ey : rQ (n + 4) "_law_height" [dV (.list [zn t l (r.map za) x]), dV (.list [.int 5])] σ = .ok (iV y) σ := ey
 rw [ea, xV, show dV (.list [za (T "OP_not" (.str "~"))]) = dV (.list ([T "OP_not" (.str "~")].map za)) from rfl, m1 (Nat.le_trans (Nat.add_le_add_left Pa.len 1) (by decide)), x9, ey, xV]
 rfl
theorem V8 (hf : Pt 40 f) (hg : Pt 40 g) (hh : Pt 40 h) : w6 n 9 e f g h σ := by
 refine yJ (hf) fun t1 l1 r1 x1 q1 P1 => ?_
 refine yJ (hg) fun t2 l2 r2 x2 q2 P2 => ?_
 refine yJ (hh) fun t3 l3 r3 x3 q3 P3 => ?_
 rw [q1, q2, q3]
 refine zb (q7 (n := n + 3) (m := 1) (h := x1) (σ := σ) P1 (by decide) (by decide)) fun a ea Pa => ?_
 refine zd (q8 (n + 3) [zn t1 l1 (r1.map za) x1, zn t2 l2 (r2.map za) x2, zn t3 l3 (r3.map za) x3] [1, 0, 0] σ (xB (w5 ..) (xB (w5 ..) (forall_mem_singleton.mpr (w5 ..)))) (show 3 ≤ 100 by decide) (show 3 ≤ 100 by decide)) fun y ey => ?_
 have la := Pa.len
 have l2' := P2.len
 have l3' := P3.len
 have em : ([[T "OP_question" (.str "?")], r2, [T "OP_colon" (.str ":")], r3] : List (List Tk)).flatten = T "OP_question" (.str "?") :: (r2 ++ T "OP_colon" (.str ":") :: r3) := congrArg (fun x => T "OP_question" (.str "?") :: (r2 ++ T "OP_colon" (.str ":") :: x)) (append_nil r3)
 have b : a.length + (T "OP_question" (.str "?") :: (r2 ++ T "OP_colon" (.str ":") :: r3)).length ≤ 130 := by
  rw [length_cons, length_append, length_cons]; clear ea ey em P1 P2 P3 Pa; lia
 refine (zg _ ((VG ..).trans (?_ : _ = Out.ok (dV (zn (.tuple [.str "ite", t1, t2, t3]) (0 : Nat) ((a ++ T "OP_question" (.str "?") :: (r2 ++ T "OP_colon" (.str ":") :: r3)).map za) y)) σ)) (Pt.mk (lev := 0) (row := a ++ T "OP_question" (.str "?") :: (r2 ++ T "OP_colon" (.str ":") :: r3)) (by decide) (.ite _ _ Pa.d P2.le_ P3.le_)
  (uS Pa.ok (xB (vy (by kernel_rfl)) (uS P2.ok (xB (vy (by kernel_rfl)) P3.ok)))) (by rw [length_append]; exact b)))
 have ea : rQ (n + 4) "_law_inside" [dV (zn t1 l1 (r1.map za) x1), iV 1] σ = .ok (dV (.list (a.map za))) σ := ea
 have ey : rQ (n + 4) "_law_height" [dV (.list [zn t1 l1 (r1.map za) x1, zn t2 l2 (r2.map za) x2, zn t3 l3 (r3.map za) x3]), dV (.list [.int 1, .int 0, .int 0])] σ = .ok (iV y) σ := ey
 rw [ea, xV]
 show tW [[T "OP_question" (.str "?")], r2, [T "OP_colon" (.str ":")], r3] (fun row σ => onOk (rQ (n + 4) "_law_height" [dV (.list [zn t1 l1 (r1.map za) x1, zn t2 l2 (r2.map za) x2, zn t3 l3 (r3.map za) x3]), dV (.list [.int 1, .int 0, .int 0])] σ) fun hh σ => zv row fun row => zv hh fun hh => .ok (.dat (.tuple [.tuple [.str "ite", t1, t2, t3], .int 0, row, hh])) σ) (dV (.list (a.map za))) σ = _
 rw [m4 (by rw [em]; exact Nat.le_trans b (by decide)), em, ey, xV]
 rfl
theorem V9 (hf : Pt 40 f) : w6 n 10 e f g h σ := by
 refine yJ (hf) fun t l r x q P => ?_
 rw [q]
 have b : 1 + (r ++ [vz]).length ≤ 130 := by rw [length_append]; exact Nat.le_trans (Nat.add_le_add_left (Nat.succ_le_succ P.len) 1) (by decide)
 refine (zg _ ((VH ..).trans (?_ : _ = Out.ok (dV (zn t (5 : Nat) ((LP :: (r ++ [vz])).map za) (x + 1))) σ)) (Pt.mk (lev := 5) (row := LP :: (r ++ [vz])) (by decide) (.paren _ _ P.le_) (xB mY (uS P.ok (forall_mem_singleton.mpr mZ))) (Nat.le_trans (Nat.le_of_eq (Nat.add_comm _ 1)) b)))
 have em : ([r, [vz]] : List (List Tk)).flatten = r ++ [vz] := rfl
 show tW [r, [vz]] (fun row σ => zv row fun row => .ok (.dat (.tuple [t, .int 5, row, .int (x + 1)])) σ) (dV (.list ([LP].map za))) σ = _
 rw [m4 (by rw [em]; exact Nat.le_trans b (by decide)), em]
 rfl
theorem fg (hf : Pt 40 f) (hg : Pt 40 g) (hh : Pt 40 h) (k : Nat) : ∀ p ∈ [f, g, h].take k, Pt 40 p := fun p hp => xB hf (xB hg (forall_mem_singleton.mpr hh)) p (List.mem_of_mem_take hp)
theorem fh (k : Nat) : ([f, g, h].take k).length ≤ 3 := by rw [length_take]; exact Nat.min_le_right ..
theorem fi {m : List Tk} {y : Int} {X : Out} (e : X = .ok (dV (zn (.tuple (.str nm :: ts)) 5 ((((kd, .str nm) :: LP :: m) ++ [vz]).map za) y)) σ) (hk : wC (kd, .str nm) = true) (d : D 5 (((kd, .str nm) :: LP :: m) ++ [vz]) (.tuple (.str nm :: ts))) (ok : ∀ x ∈ m, zL x) (hl : m.length ≤ 3 * 40 + 2) :
  ∃ p, X = .ok (dV p) σ ∧ Pt 130 p :=
 ⟨_, e, Pt.mk (lev := 5) (by decide) d (uS (xB (vy hk) (xB mY ok)) (forall_mem_singleton.mpr mZ)) (by rw [length_append]; exact Nat.le_trans (Nat.succ_le_succ (Nat.succ_le_succ (Nat.succ_le_succ hl))) (by decide))⟩
theorem Ua (hf : Pt 40 f) (hg : Pt 40 g) (hh : Pt 40 h) : w6 n 11 e f g h σ := by
 have m3 := fg hf hg hh
 refine yJ (hf) fun t l r x q P => ?_
 rw [q] at m3 ⊢
 have a := xJ e (k := 12) (by decide)
 refine wg (VY a.1 a.2) fun kd nm n1 n2 n3 n4 => ?_
 have b := xJ (e + ((r.map za).length : Nat)) (k := 4) (by decide)
 refine rI (g8 (n := n + 2) (nm := nm) (kd := kd) (c := 40) (m3 ((e + ((r.map za).length : Nat)).fmod 4).toNat) (fh _) (by decide) σ) fun mm ts y ey _ hD hok hlen => ?_
 refine fi (y := y) ((VI ..).trans ?_) n4 (hD.elim (fun ⟨h1, h2⟩ => by rw [h1, h2]; exact .word0 _ _ _ n2) fun hD => .word _ _ _ n2 hD) hok hlen
 rw [uT n1 (Int.le_trans (by decide) a.1) (Int.le_trans (Int.le_of_lt a.2) (by decide)), m5 n3, y8 (by rw [length_map]; exact Nat.le_trans P.len (by decide)), V4, V3, fc, xg (Int.le_trans (by decide) b.1) (Int.le_trans (Int.le_of_lt b.2) (by decide)), zB,
  cut3 (l := [zn t l (r.map za) x, g, h]) b.1 (show _ ≤ ((3 : Nat) : Int) from Int.le_of_lt_add_one b.2)]
 have ey : rQ (n + 4) "_law_called" [dV (.str nm), dV (.str kd), dV (.list ([zn t l (r.map za) x, g, h].take ((e + ((r.map za).length : Nat)).fmod 4).toNat))] σ = _ := ey
 rw [ey, xV]
theorem Ub (hf : Pt 40 f) (hg : Pt 40 g) (hh : Pt 40 h) : w6 n 12 e f g h σ := by
 have a := xJ e (k := 3) (by decide)
 refine rI (VZ a.1 a.2) fun kd nm c n1 n2 n3 n4 hc => ?_
 refine rI (g8 (n := n + 2) (nm := nm) (kd := kd) (c := 40) (fg hf hg hh c) (fh _) (by decide) σ) fun mm ts y ey hts hD hok hlen => ?_
 have hts : ts.length = c := hts.trans (by rw [length_take]; exact Nat.min_eq_left hc)
 refine fi (y := y) ((VJ ..).trans ?_) n4 (hD.elim (fun ⟨_, h2⟩ => by rw [h2] at hts; have q := (mM n2 n2).2; rw [← hts] at q; exact absurd q (by decide)) fun hD => .cnt _ _ _ n2 hD hts) hok hlen
 rw [uT n1 (Int.le_trans (by decide) a.1) (Int.le_trans (Int.le_of_lt a.2) (by decide)), m5 n3, V1, m5 n3, V2, fc, xg (Int.le_trans (by decide) (Int.natCast_nonneg c)) (Int.le_trans (Int.ofNat_le.mpr hc) (by decide)), zB, tQ (l := [f, g, h]) (show c ≤ 3 from hc)]
 have ey : rQ (n + 4) "_law_called" [dV (.str nm), dV (.str kd), dV (.list ([f, g, h].take c))] σ = _ := ey
 rw [ey, xV]
theorem Uc (hf : Pt 40 f) (hg : Pt 40 g) (hh : Pt 40 h) : ∀ m : Nat, m < 13 → w6 n (m : Nat) e f g h σ := by
 have J : ∀ {op : Int} {nm kd s : Str} {k : Nat}, rQ (n + 5) "_law_part" (xi op e f g h) σ = vx (n + 4) nm (k : Nat) kd s f g σ → (kd, k, nm) ∈ xe → wC (kd, .str s) = true → w6 n op e f g h σ := fun {op nm kd s k} q hm hb => by
  unfold w6; rw [q]; exact V6 hf hg hm hb
 have L : ∀ {op : Int}, rQ (n + 5) "_law_part" (xi op e f g h) σ = onOk (rQ (n + 4) "_law_leaf" [iV (e.fmod 7)] σ) .ok → w6 n op e f g h σ := fun {op} q => by
  unfold w6; rw [q]; exact V5 e
 exact yz (yz (yz (yz (yz (yz (yz (yz (yz (yz (yz (yz (yz (fun _ h => absurd h (Nat.not_lt_zero _)) (L (Vx ..))) (L (Vy ..))) (L (Vz ..))) (V7 hf)) (J (k := 4) (VB ..) (by trivial) (by kernel_rfl)))
  (J (k := 3) (VC ..) (by trivial) (by kernel_rfl))) (J (k := 2) (VD ..) (by trivial) (by kernel_rfl))) (J (k := 1) (VE ..) (by trivial) (by kernel_rfl))) (J (k := 1) (VF ..) (by trivial) (by kernel_rfl))) (V8 hf hg hh)) (V9 hf)) (Ua hf hg hh)) (Ub hf hg hh)
end
theorem Ud {f g h : PyData} (h0 : 0 ≤ op) (h13 : op < 13) (hf : Pt 40 f) (hg : Pt 40 g) (hh : Pt 40 h) (σ : St) : ∃ p, rQ (n + 5) "_law_part" (xi op e f g h) σ = .ok (dV p) σ ∧ Pt 130 p := by
 refine zd (Int.eq_ofNat_of_zero_le h0) fun m q => ?_
 rw [q] at h13 ⊢
 exact Uc hf hg hh m (Int.ofNat_lt.mp h13)
noncomputable def zp : zm := (zj "law").sc
noncomputable def m6 : List Stmt := (zj "law").body
noncomputable def p0 : Pos := ⟨0, 0, 0, 0⟩
noncomputable def TQ : Expr := .Constant .none 0 p0
noncomputable def fj (o : Option zf) (k : zf → Out) : Out := opt o k .bad
theorem rB (C : Str → List V → St → Out) (k : Nat) (er : Bool) (sc : zm) (ρ : zf) (ts : List Expr) (m : Nat) (p q : Pos) (e : Expr) (rest : List Stmt) (KN : KR) (σ : St) (h : vf e = false) (h2 : (ww ts e && yx sc ts) = true) :
  xs C Gb (k + 1) er sc ρ (.Assign [.Tuple ts m p] e q :: rest) KN σ = ev C Gb k er sc ρ e (fun v σ => zv v fun d => fj (zP sc (.Tuple ts m p) d ρ) fun ρ' => xs C Gb k er sc ρ' rest KN σ) σ := by
 show cond (vf e) _ (chk (ww ts e && yx sc ts) _) = _
 refine (h ..).symm ▸ (h2 ..).symm ▸ ?_; rfl
theorem q9 (C : Str → List V → St → Out) (k : Nat) (er : Bool) (sc : zm) (ρ : zf) (x : Str) (p q : Pos) (e : Expr) (rest : List Stmt) (KN : KR) (σ : St) (h : (x == yy) = false) (h2 : zN sc x = true) :
  xs C Gb (k + 1) er sc ρ (.Assign [.Name x p] e q :: rest) KN σ = ev C Gb k er sc ρ e (fun v σ => xs C Gb k er sc (zz x (.v v) ρ) rest KN σ) σ := by
 show chk (zN sc x) (cond (x == yy) _ _) = _
 refine (h ..).symm ▸ (h2 ..).symm ▸ ?_; rfl
theorem fk (C : Str → List V → St → Out) (k : Nat) (er : Bool) (sc : zm) (ρ : zf) (t it : Expr) (b rest : List Stmt) (p : Pos) (KN : KR) (σ : St) : xs C Gb (k + 1) er sc ρ (.For t it b [] p :: rest) KN σ =
  src (ev C Gb k er sc ρ) (yB sc ρ) (yK t) it (fun items => forK (zP sc t) (fun ρ' => xs C Gb k false sc ρ' b) items ρ (fun ρ' => xs C Gb k er sc ρ' rest KN)) σ := rfl
noncomputable def lA (i : Nat) : Stmt := m6.getD i (.Pass p0)
noncomputable def yp (s : Stmt) : Expr := sN 0 s
noncomputable def yi (s : Stmt) : Pos := s.pos
noncomputable def xK (s : Stmt) : List Expr := eK (sN 1 s)
noncomputable def vA (s : Stmt) : Nat := eM (sN 1 s)
noncomputable def wD (s : Stmt) : Pos := (sN 1 s).pos
noncomputable def wo (s : Stmt) : Expr := sN 0 s
noncomputable def tZ (s : Stmt) : Expr := sN 1 s
noncomputable def fm (s : Stmt) : List Stmt := (sB s).1
noncomputable def yI (s : Stmt) : Expr := sN 0 s
noncomputable def yS (s : Stmt) : List Stmt := (sB s).1
noncomputable def uU (s : Stmt) : List Stmt := (sB s).2
noncomputable def b1 : List Stmt := fm (lA 1)
noncomputable def b2 : List Stmt := fm (lA 4)
noncomputable def s1 (i : Nat) : Stmt := b1.getD i (.Pass p0)
noncomputable def s2 (i : Nat) : Stmt := b2.getD i (.Pass p0)
theorem Ue : m6 = [lA 0, .For (wo (lA 1)) (tZ (lA 1)) b1 [] (yi (lA 1)), .Assign [.Tuple (xK (lA 2)) (vA (lA 2)) (wD (lA 2))] (yp (lA 2)) (yi (lA 2)), .If (yI (lA 3)) (yS (lA 3)) [] (yi (lA 3)), .For (wo (lA 4)) (tZ (lA 4)) b2 [] (yi (lA 4)), lA 5] := by kernel_rfl
theorem fo : b1 = [.Assign [.Tuple (xK (s1 0)) (vA (s1 0)) (wD (s1 0))] (yp (s1 0)) (yi (s1 0)), .Assign [.Name "made" (wD (s1 1))] (yp (s1 1)) (yi (s1 1)), .If (yI (s1 2)) (yS (s1 2)) [] (yi (s1 2)), s1 3] := by kernel_rfl
theorem fq : b2 = [.Assign [.Tuple (xK (s2 0)) (vA (s2 0)) (wD (s2 0))] (yp (s2 0)) (yi (s2 0)), .Assign [.Name "token" (wD (s2 1))] (yp (s2 1)) (yi (s2 1)), .If (yI (s2 2)) (yS (s2 2)) (uU (s2 2)) (yi (s2 2)), .If (yI (s2 3)) (yS (s2 3)) [] (yi (s2 3))] := by kernel_rfl
noncomputable def Lr (L : List PyData) (P : List PyData) (num op e c : Int) (md : PyData) : zf := [("script", .v (.dat (.list L))), ("pool", .own1 P), ("number", vI num), ("op", vI op), ("e", vI e), ("count", vI c), ("made", vD md)]
theorem Uf (L P : List PyData) (num num' op e c : Int) (md : PyData) : zP zp (wo (lA 1)) (.int num) (Lr L P num' op e c md) = some (Lr L P num op e c md) := by kernel_rfl
theorem Ug (n : Nat) (L P : List PyData) (num op e c : Int) (md : PyData) (K : KV) (σ : St) : ev (rQ n) Gb 97 false zp (Lr L P num op e c md) (yp (s1 0)) K σ = zK (.dat (.list P)) (fun v σ => zv v fun c => K (dV (.tuple [.int (num.fmod 13), .int (num.fdiv 13), c])) σ) σ := by kernel_rfl
theorem ft : vf (yp (s1 0)) = false := by kernel_rfl
theorem fu : (ww (xK (s1 0)) (yp (s1 0)) && yx zp (xK (s1 0))) = true := by kernel_rfl
theorem Uh (L P : List PyData) (num op e c a b d : Int) (md : PyData) : zP zp (.Tuple (xK (s1 0)) (vA (s1 0)) (wD (s1 0))) (.tuple [.int a, .int b, .int d]) (Lr L P num op e c md) = some (Lr L P num a b d md) := by kernel_rfl
theorem Ui (n : Nat) (L P : List PyData) (num op e c : Int) (md : PyData) (K : KV) (σ : St) : ev (rQ n) Gb 96 false zp (Lr L P num op e c md) (yp (s1 1)) K σ = chk (!(decide (c = 0))) (indexK (dV (.list P)) (iV (c - 1 - (e.fdiv 3).fmod c)) (fun f σ =>
  chk (!(decide (c = 0))) (indexK (dV (.list P)) (iV (e.fmod c)) (fun g σ => chk (!(decide (c = 0))) (indexK (dV (.list P)) (iV ((e.fdiv 2).fmod c)) (fun h σ => onB (rQ n "_law_part" [iV op, iV (e + c), f, g, h] σ) K) σ)) σ)) σ) := by kernel_rfl
theorem Uj (n : Nat) (L P : List PyData) (num op e c : Int) (t : PyData) (l : Int) (r : List PyData) (h : Int) (K : Bool → St → Out) (σ : St) : tv (ev (rQ n) Gb 95 false zp (Lr L P num op e c (zn t l r h))) 95 (yI (s1 2)) K σ =
  cond (decide (3 < h)) (K true σ) (zK (dV (.list r)) (fun v σ => zX .Gt v (iV 40) (fun b σ => cond b (K true σ) (K false σ)) σ) σ) := by kernel_rfl
theorem Uk (n : Nat) (L P : List PyData) (num op e c : Int) (md : PyData) (KN : KR) (σ : St) : xs (rQ n) Gb 95 false zp (Lr L P num op e c md) (yS (s1 2)) KN σ = onB (rQ n "_law_leaf" [iV ((e + c).fmod 7)] σ) fun v σ => KN [("script", .v (.dat (.list L))), ("pool", .own1 P), ("number", vI num), ("op", vI op), ("e", vI e), ("count", vI c), ("made", .v v)] σ := by kernel_rfl
theorem fv (n : Nat) (L P : List PyData) (num op e c : Int) (md : PyData) (KN : KR) (σ : St) : xs (rQ n) Gb 95 false zp (Lr L P num op e c md) [s1 3] KN σ = chk (zi P.length && true) (KN (Lr L (P ++ [md]) num op e c md) σ) := by kernel_rfl
noncomputable abbrev m7 (L : List PyData) : zf := [("script", .v (.dat (.list L)))]
noncomputable abbrev ua (L P : List PyData) : zf := [("script", .v (.dat (.list L))), ("pool", .own1 P)]
theorem TR (n : Nat) (L : List PyData) (KN : KR) (σ : St) : xs (rQ n) Gb 100 true zp (m7 L) [lA 0] KN σ = onOk (rQ n "_law_leaf" [iV 0] σ) fun v σ => zv v fun p => KN (ua L [p]) σ := by kernel_rfl
theorem TS (C : Str → List V → St → Out) (er : Bool) (sc : zm) (s : Stmt) (rest : List Stmt) : True := trivial
theorem Ul (n : Nat) (L P : List PyData) (K : List PyData → St → Out) (σ : St) : src (ev (rQ n) Gb 98 true zp (ua L P)) (yB zp (ua L P)) (yK (wo (lA 1))) (tZ (lA 1)) K σ =
  chk (zi L.length) (chk (zi (zk L none (some 10)).length) (cond (!(zk L none (some 10)).isEmpty) (chk (zi (zk L none (some 10)).length) (K (zk L none (some 10)) σ)) (K [.int 4, .int 31, .int 9] σ))) := by kernel_rfl
theorem Um (L P : List PyData) (num : Int) : zP zp (wo (lA 1)) (.int num) (ua L P) = some ([("script", .v (.dat (.list L))), ("pool", .own1 P), ("number", vI num)] : zf) := by kernel_rfl
noncomputable abbrev m8 (L P : List PyData) (num : Int) : zf := [("script", .v (.dat (.list L))), ("pool", .own1 P), ("number", vI num)]
theorem Un (n : Nat) (L P : List PyData) (num : Int) (K : KV) (σ : St) : ev (rQ n) Gb 97 false zp (m8 L P num) (yp (s1 0)) K σ = zK (.dat (.list P)) (fun v σ => zv v fun c => K (dV (.tuple [.int (num.fmod 13), .int (num.fdiv 13), c])) σ) σ := by kernel_rfl
noncomputable abbrev pa (L P : List PyData) (num op e c : Int) : zf := [("script", .v (.dat (.list L))), ("pool", .own1 P), ("number", vI num), ("op", vI op), ("e", vI e), ("count", vI c)]
theorem Uo (L P : List PyData) (num a b d : Int) : zP zp (.Tuple (xK (s1 0)) (vA (s1 0)) (wD (s1 0))) (.tuple [.int a, .int b, .int d]) (m8 L P num) = some (pa L P num a b d) := by kernel_rfl
theorem Up (n : Nat) (L P : List PyData) (num op e c : Int) (K : KV) (σ : St) : ev (rQ n) Gb 96 false zp (pa L P num op e c) (yp (s1 1)) K σ = chk (!(decide (c = 0))) (indexK (dV (.list P)) (iV (c - 1 - (e.fdiv 3).fmod c)) (fun f σ =>
  chk (!(decide (c = 0))) (indexK (dV (.list P)) (iV (e.fmod c)) (fun g σ => chk (!(decide (c = 0))) (indexK (dV (.list P)) (iV ((e.fdiv 2).fmod c)) (fun h σ => onB (rQ n "_law_part" [iV op, iV (e + c), f, g, h] σ) K) σ)) σ)) σ) := by kernel_rfl
theorem Uq (n : Nat) (L P : List PyData) (num op e c : Int) (md : PyData) (K : KV) (σ : St) : ev (rQ n) Gb 97 true zp (Lr L P num op e c md) (yp (lA 2)) K σ = indexK (dV (.list P)) (iV (-1)) K σ := by kernel_rfl
theorem Ur : vf (yp (lA 2)) = false := by kernel_rfl
theorem Us : (ww (xK (lA 2)) (yp (lA 2)) && yx zp (xK (lA 2))) = true := by kernel_rfl
noncomputable def Lq (L P : List PyData) (num op e c : Int) (md t : PyData) (l : Int) (r : List PyData) (h : Int) : zf := [("script", .v (.dat (.list L))), ("pool", .own1 P), ("number", vI num), ("op", vI op), ("e", vI e), ("count", vI c), ("made", vD md), ("tree", vD t), ("level", vI l), ("row", .v (.dat (.list r))), ("height", vI h)]
theorem Ut (L P : List PyData) (num op e c : Int) (md t : PyData) (l : Int) (r : List PyData) (h : Int) : zP zp (.Tuple (xK (lA 2)) (vA (lA 2)) (wD (lA 2))) (zn t l r h) (Lr L P num op e c md) = some (Lq L P num op e c md t l r h) := by kernel_rfl
theorem Uu (n : Nat) (L P : List PyData) (num op e c : Int) (md t : PyData) (l : Int) (r : List PyData) (h : Int) (K : Bool → St → Out) (σ : St) : tv (ev (rQ n) Gb 96 true zp (Lq L P num op e c md t l r h)) 96 (yI (lA 3)) K σ =
  onOk (rQ n "_law_parsed" [dV (.list r)] σ) fun u σ => zX .NotEq u (dV t) (fun b σ => cond b (K true σ) (onOk (rQ n "_law_parsed" [dV (.list [])] σ) fun u σ => zX .IsNot u (dV .none) (fun b σ => cond b (K true σ) (K false σ)) σ)) σ := by kernel_rfl
theorem Uv (n : Nat) (L P : List PyData) (num op e c : Int) (md t : PyData) (l : Int) (r : List PyData) (h : Int) (K : List PyData → St → Out) (σ : St) : src (ev (rQ n) Gb 95 true zp (Lq L P num op e c md t l r h)) (yB zp (Lq L P num op e c md t l r h)) (yK (wo (lA 4))) (tZ (lA 4)) K σ =
  chk (zi L.length) (chk (zi (zk L (some 10) (some 14)).length) (cond (!(zk L (some 10) (some 14)).isEmpty) (chk (zi (zk L (some 10) (some 14)).length) (K (zk L (some 10) (some 14)) σ))
   (zK (dV (.list L)) (fun v σ => zl .Mult v (iV 7) (fun v σ => zl .Add v (iV 2) (fun v σ => zv v fun d => K [d] σ) σ) σ) σ))) := by kernel_rfl
theorem fw (n : Nat) (ρ : zf) (KN : KR) (σ : St) : xs (rQ n) Gb 95 true zp ρ [lA 5] KN σ = .ok (dV (.bool true)) σ := by kernel_rfl
noncomputable def A1 (L P : List PyData) (num op e c : Int) (md t : PyData) (l : Int) (r : List PyData) (h a : Int) : zf := [("script", .v (.dat (.list L))), ("pool", .own1 P), ("number", vI num), ("op", vI op), ("e", vI e), ("count", vI c), ("made", vD md), ("tree", vD t), ("level", vI l), ("row", .v (.dat (.list r))), ("height", vI h), ("at", vI a)]
noncomputable def A2 (L P : List PyData) (num op e c : Int) (md t : PyData) (l : Int) (r : List PyData) (h a : Int) (tk : PyData) : zf := [("script", .v (.dat (.list L))), ("pool", .own1 P), ("number", vI num), ("op", vI op), ("e", vI e), ("count", vI c), ("made", vD md), ("tree", vD t), ("level", vI l), ("row", .v (.dat (.list r))), ("height", vI h), ("at", vI a), ("token", vD tk)]
noncomputable def AZ (L P : List PyData) (num op e c : Int) (md t : PyData) (l : Int) (r : List PyData) (h a : Int) (tk sp : PyData) : zf := [("script", .v (.dat (.list L))), ("pool", .own1 P), ("number", vI num), ("op", vI op), ("e", vI e), ("count", vI c), ("made", vD md), ("tree", vD t), ("level", vI l), ("row", .v (.dat (.list r))), ("height", vI h), ("at", vI a), ("token", vD tk), ("spoiled", vD sp)]
noncomputable def AV (L P : List PyData) (num op e c : Int) (md t : PyData) (l : Int) (r : List PyData) (h a : Int) (tk : PyData) (sp : V) : zf := [("script", .v (.dat (.list L))), ("pool", .own1 P), ("number", vI num), ("op", vI op), ("e", vI e), ("count", vI c), ("made", vD md), ("tree", vD t), ("level", vI l), ("row", .v (.dat (.list r))), ("height", vI h), ("at", vI a), ("token", vD tk), ("spoiled", .v sp)]
noncomputable def uV : List Tk := [T "OP_not" (.str "~"), T "OP_and" (.str "&"), T "OP_or" (.str "|"), T "OP_xor" (.str "^"), T "OP_rarrow" (.str "=>"), T "OP_lrarrow" (.str "<=>"), T "OP_question" (.str "?"), T "OP_colon" (.str ":"), T "LPAREN" (.str "("), T "RPAREN" (.str ")"), T "LBRACK" (.str "["), T "RBRACK" (.str "]"),
 T "COMMA" (.str ","), T "DOT" (.str "."), T "NameToken" (.str "z"), T "IntegerToken" (.int 0), T "IntegerToken" (.int 2), T "KW_or" (.str "Or"), T "KW_majority" (.str "Majority"), T "KW_ite" (.str "ITE"), T "KW_implies" (.str "Implies"), T "KW_not" (.str "Not")]
theorem TT (n : Nat) (σ : St) : rQ (n + 1) "_law_more" [] σ = .ok (dV (.list (uV.map za))) σ := by kernel_rfl
noncomputable def upto (r : List PyData) (a : Int) (K : KV) (σ : St) : Out := chk (z0 a) (chk (zi r.length) (K (dV (.list (zk r none (some a)))) σ))
noncomputable def y3 (r : List PyData) (a : Int) (K : KV) (σ : St) : Out := chk (z0 a) (chk (zi r.length) (K (dV (.list (zk r (some a) none))) σ))
noncomputable def t0 (r : List PyData) (a b : Int) (K : KV) (σ : St) : Out := chk (z0 a) (chk (z0 b) (chk (zi r.length) (K (dV (.list (zk r (some a) (some b)))) σ)))
theorem Uw (L P : List PyData) (num num' op e c : Int) (md t : PyData) (l : Int) (r : List PyData) (h : Int) : zP zp (wo (lA 4)) (.int num) (Lq L P num' op e c md t l r h) = some (Lq L P num op e c md t l r h) := by kernel_rfl
theorem Ux (L P : List PyData) (num num' op e c : Int) (md t : PyData) (l : Int) (r : List PyData) (h a : Int) (tk sp : PyData) : zP zp (wo (lA 4)) (.int num) (AZ L P num' op e c md t l r h a tk sp) = some (AZ L P num op e c md t l r h a tk sp) := by kernel_rfl
theorem fy : vf (yp (s2 0)) = false := by kernel_rfl
theorem fA : (ww (xK (s2 0)) (yp (s2 0)) && yx zp (xK (s2 0))) = true := by kernel_rfl
noncomputable def pb : Expr := eN 0 (yp (s2 0))
noncomputable def wa : Expr := eN 1 (yp (s2 0))
noncomputable def Uy : Nat := eM (yp (s2 0))
noncomputable def Uz : Pos := (yp (s2 0)).pos
noncomputable def pc (e : Expr) : Expr := eN 0 e
noncomputable def m9 (e : Expr) : Expr := eN 1 e
noncomputable def UA (e : Expr) : Pos := e.pos
theorem fB : yp (s2 0) = .Tuple [pb, wa] Uy Uz := by kernel_rfl
theorem fC : xb pb = false := by kernel_rfl
theorem fD : xb wa = false := by kernel_rfl
theorem fE : wa = .BinOp (pc wa) .FloorDiv (m9 wa) (UA wa) := by kernel_rfl
theorem fF : uo (pc wa) = none := by kernel_rfl
theorem fG (C : Str → List V → St → Out) (k : Nat) (er : Bool) (sc : zm) (ρ : zf) (a b : Expr) (m : Nat) (p : Pos) (K : KV) (σ : St) (ha : xb a = false) (hb : xb b = false) : ev C Gb (k + 1) er sc ρ (.Tuple [a, b] m p) K σ =
  ev C Gb k er sc ρ a (fun v σ => zv v fun x => ev C Gb k er sc ρ b (fun v σ => zv v fun y => K (dV (.tuple [x, y])) σ) σ) σ := by
 show chk (!(xb a)) (ev C Gb k er sc ρ a (fun v σ => yw v fun x => chk (!(xb b)) (ev C Gb k er sc ρ b (fun v σ => yw v fun y => K (dV (.tuple [x, y])) σ) σ)) σ) = _
 refine (ha ..).symm ▸ (hb ..).symm ▸ ?_
 rfl
theorem fH (C : Str → List V → St → Out) (k : Nat) (er : Bool) (sc : zm) (ρ : zf) (l r : Expr) (op : Operator) (p : Pos) (K : KV) (σ : St) (h : uo l = none) : ev C Gb (k + 1) er sc ρ (.BinOp l op r p) K σ =
  ev C Gb k er sc ρ l (fun a σ => ev C Gb k er sc ρ r (fun b σ => zl op a b K σ) σ) σ := by
 obtain e : sy op l = none := by
  unfold sy
  refine (h ..).symm ▸ ?_
  cases pQ op <;> rfl
 show opt (sy op l) _ _ = _
 refine (e ..).symm ▸ ?_; rfl
theorem pd (L P : List PyData) (num op e c : Int) (md t : PyData) (l : Int) (r : List PyData) (h a : Int) (tk sp : PyData) : AV L P num op e c md t l r h a tk (.dat sp) = AZ L P num op e c md t l r h a tk sp := rfl
theorem UB (n : Nat) (L P : List PyData) (num op e c : Int) (md t : PyData) (l : Int) (r : List PyData) (h : Int)  (K : KV) (σ : St) : ev (rQ n) Gb 93 false zp (Lq L P num op e c md t l r h) pb K σ = zK (dV (.list r)) (fun ln σ => zl .Mod (iV (num.fdiv 4)) ln K σ) σ := by kernel_rfl
theorem UC (n : Nat) (L P : List PyData) (num op e c : Int) (md t : PyData) (l : Int) (r : List PyData) (h : Int)  (K : KV) (σ : St) : ev (rQ n) Gb 92 false zp (Lq L P num op e c md t l r h) (pc wa) K σ = K (iV (num.fdiv 4)) σ := by kernel_rfl
theorem UD (n : Nat) (L P : List PyData) (num op e c : Int) (md t : PyData) (l : Int) (r : List PyData) (h : Int)  (K : KV) (σ : St) : ev (rQ n) Gb 92 false zp (Lq L P num op e c md t l r h) (m9 wa) K σ = zK (dV (.list r)) K σ := by kernel_rfl
theorem UE (n : Nat) (L P : List PyData) (num op e c : Int) (md t : PyData) (l : Int) (r : List PyData) (h : Int)  (K : KV) (σ : St) : ev (rQ n) Gb 94 false zp (Lq L P num op e c md t l r h) (yp (s2 0)) K σ = zK (dV (.list r)) (fun ln σ => zl .Mod (iV (num.fdiv 4)) ln (fun x σ => zv x fun x => zK (dV (.list r)) (fun ln σ => zl .FloorDiv (iV (num.fdiv 4)) ln (fun y σ => zv y fun y => K (dV (.tuple [x, y])) σ) σ) σ) σ) σ := by
 obtain e : ∀ (K : KV) (σ : St), ev (rQ n) Gb 93 false zp (Lq L P num op e c md t l r h) wa K σ = zK (dV (.list r)) (fun ln σ => zl .FloorDiv (iV (num.fdiv 4)) ln K σ) σ := fun K σ => by
  rw [fE, fH _ _ _ _ _ _ _ _ _ _ _ fF, UC, UD]
 rw [fB, fG _ _ _ _ _ _ _ _ _ _ _ fC fD, UB]
 rfl
theorem UF (L P : List PyData) (num op e c : Int) (md t : PyData) (l : Int) (r : List PyData) (h : Int)  (x y : Int) : zP zp (.Tuple (xK (s2 0)) (vA (s2 0)) (wD (s2 0))) (.tuple [.int x, .int y]) (Lq L P num op e c md t l r h) = some (A1 L P num op y c md t l r h x) := by kernel_rfl
theorem UG (n : Nat) (L P : List PyData) (num op e c : Int) (md t : PyData) (l : Int) (r : List PyData) (h : Int) (a : Int) (K : KV) (σ : St) : ev (rQ (n + 1)) Gb 93 false zp (A1 L P num op e c md t l r h a) (yp (s2 1)) K σ = indexK (dV (.list (uV.map za))) (iV ((e + num).fmod 22)) K σ := by kernel_rfl
theorem UH (L P : List PyData) (num op e c : Int) (md t : PyData) (l : Int) (r : List PyData) (h : Int) (a : Int) (x : PyData) : zz "token" (.v (.dat x)) (A1 L P num op e c md t l r h a) = A2 L P num op e c md t l r h a x := by kernel_rfl
theorem UI (n : Nat) (L P : List PyData) (num op e c : Int) (md t : PyData) (l : Int) (r : List PyData) (h : Int) (a : Int) (tk : PyData) (K : Bool → St → Out) (σ : St) : tv (ev (rQ n) Gb 92 false zp (A2 L P num op e c md t l r h a tk)) 92 (yI (s2 2)) K σ = K (decide (num.fmod 4 = 0)) σ := by kernel_rfl
theorem UJ (n : Nat) (L P : List PyData) (num op e c : Int) (md t : PyData) (l : Int) (r : List PyData) (h : Int) (a : Int) (tk : PyData) (KN : KR) (σ : St) : xs (rQ n) Gb 92 false zp (A2 L P num op e c md t l r h a tk) (yS (s2 2)) KN σ = upto r a (fun x σ => y3 r (a + 1) (fun y σ => zl .Add x y (fun sp σ => KN (AV L P num op e c md t l r h a tk sp) σ) σ) σ) σ := by kernel_rfl
theorem UK (n : Nat) (L P : List PyData) (num op e c : Int) (md t : PyData) (l : Int) (r : List PyData) (h : Int) (a : Int) (tk : PyData) (KN : KR) (σ : St) : xs (rQ n) Gb 92 false zp (A2 L P num op e c md t l r h a tk) (uU (s2 2)) KN σ = cond (decide (num.fmod 4 = 1))
  (zK (dV (.list r)) (fun ln σ => zl .Add ln (iV 1) (fun ln σ => zl .Mod (iV (num.fdiv 4)) ln (fun a σ => rA a fun a => upto r a (fun x σ => zl .Add x (dV (.list [tk])) (fun x σ => y3 r a (fun y σ => zl .Add x y (fun sp σ => KN (AV L P num op e c md t l r h a tk sp) σ) σ) σ) σ) σ) σ) σ) σ)
  (cond (decide (num.fmod 4 = 2)) (upto r a (fun x σ => zl .Add x (dV (.list [tk])) (fun x σ => y3 r (a + 1) (fun y σ => zl .Add x y (fun sp σ => KN (AV L P num op e c md t l r h a tk sp) σ) σ) σ) σ) σ)
   (upto r a (fun x σ => t0 r (a + 1) (a + 2) (fun y σ => zl .Add x y (fun x σ => indexK (dV (.list r)) (iV a) (fun z σ => zv z fun z => zl .Add x (dV (.list [z])) (fun x σ => y3 r (a + 2) (fun y σ => zl .Add x y (fun sp σ => KN (AV L P num op e c md t l r h a tk sp) σ) σ) σ) σ) σ) σ) σ) σ)) := by kernel_rfl
theorem UL (n : Nat) (L P : List PyData) (num op e c : Int) (md t : PyData) (l : Int) (r : List PyData) (h : Int) (a : Int) (tk sp0 : PyData) (K : KV) (σ : St) : ev (rQ n) Gb 93 false zp (AZ L P num op e c md t l r h a tk sp0) pb K σ = zK (dV (.list r)) (fun ln σ => zl .Mod (iV (num.fdiv 4)) ln K σ) σ := by kernel_rfl
theorem UM (n : Nat) (L P : List PyData) (num op e c : Int) (md t : PyData) (l : Int) (r : List PyData) (h : Int) (a : Int) (tk sp0 : PyData) (K : KV) (σ : St) : ev (rQ n) Gb 92 false zp (AZ L P num op e c md t l r h a tk sp0) (pc wa) K σ = K (iV (num.fdiv 4)) σ := by kernel_rfl
theorem UN (n : Nat) (L P : List PyData) (num op e c : Int) (md t : PyData) (l : Int) (r : List PyData) (h : Int) (a : Int) (tk sp0 : PyData) (K : KV) (σ : St) : ev (rQ n) Gb 92 false zp (AZ L P num op e c md t l r h a tk sp0) (m9 wa) K σ = zK (dV (.list r)) K σ := by kernel_rfl
theorem UO (n : Nat) (L P : List PyData) (num op e c : Int) (md t : PyData) (l : Int) (r : List PyData) (h : Int) (a : Int) (tk sp0 : PyData) (K : KV) (σ : St) : ev (rQ n) Gb 94 false zp (AZ L P num op e c md t l r h a tk sp0) (yp (s2 0)) K σ = zK (dV (.list r)) (fun ln σ => zl .Mod (iV (num.fdiv 4)) ln (fun x σ => zv x fun x => zK (dV (.list r)) (fun ln σ => zl .FloorDiv (iV (num.fdiv 4)) ln (fun y σ => zv y fun y => K (dV (.tuple [x, y])) σ) σ) σ) σ) σ := by
 obtain e : ∀ (K : KV) (σ : St), ev (rQ n) Gb 93 false zp (AZ L P num op e c md t l r h a tk sp0) wa K σ = zK (dV (.list r)) (fun ln σ => zl .FloorDiv (iV (num.fdiv 4)) ln K σ) σ := fun K σ => by
  rw [fE, fH _ _ _ _ _ _ _ _ _ _ _ fF, UM, UN]
 rw [fB, fG _ _ _ _ _ _ _ _ _ _ _ fC fD, UL]
 rfl
theorem UP (L P : List PyData) (num op e c : Int) (md t : PyData) (l : Int) (r : List PyData) (h : Int) (a : Int) (tk sp0 : PyData) (x y : Int) : zP zp (.Tuple (xK (s2 0)) (vA (s2 0)) (wD (s2 0))) (.tuple [.int x, .int y]) (AZ L P num op e c md t l r h a tk sp0) = some (AZ L P num op y c md t l r h x tk sp0) := by kernel_rfl
theorem UQ (n : Nat) (L P : List PyData) (num op e c : Int) (md t : PyData) (l : Int) (r : List PyData) (h : Int) (a : Int) (tk sp0 : PyData) (K : KV) (σ : St) : ev (rQ (n + 1)) Gb 93 false zp (AZ L P num op e c md t l r h a tk sp0) (yp (s2 1)) K σ = indexK (dV (.list (uV.map za))) (iV ((e + num).fmod 22)) K σ := by kernel_rfl
theorem UR (L P : List PyData) (num op e c : Int) (md t : PyData) (l : Int) (r : List PyData) (h : Int) (a : Int) (tk sp0 : PyData) (x : PyData) : zz "token" (.v (.dat x)) (AZ L P num op e c md t l r h a tk sp0) = AZ L P num op e c md t l r h a x sp0 := by kernel_rfl
theorem US (n : Nat) (L P : List PyData) (num op e c : Int) (md t : PyData) (l : Int) (r : List PyData) (h : Int) (a : Int) (tk sp0 : PyData) (K : Bool → St → Out) (σ : St) : tv (ev (rQ n) Gb 92 false zp (AZ L P num op e c md t l r h a tk sp0)) 92 (yI (s2 2)) K σ = K (decide (num.fmod 4 = 0)) σ := by kernel_rfl
theorem UT (n : Nat) (L P : List PyData) (num op e c : Int) (md t : PyData) (l : Int) (r : List PyData) (h : Int) (a : Int) (tk sp0 : PyData) (KN : KR) (σ : St) : xs (rQ n) Gb 92 false zp (AZ L P num op e c md t l r h a tk sp0) (yS (s2 2)) KN σ = upto r a (fun x σ => y3 r (a + 1) (fun y σ => zl .Add x y (fun sp σ => KN (AV L P num op e c md t l r h a tk sp) σ) σ) σ) σ := by kernel_rfl
theorem UU (n : Nat) (L P : List PyData) (num op e c : Int) (md t : PyData) (l : Int) (r : List PyData) (h : Int) (a : Int) (tk sp0 : PyData) (KN : KR) (σ : St) : xs (rQ n) Gb 92 false zp (AZ L P num op e c md t l r h a tk sp0) (uU (s2 2)) KN σ = cond (decide (num.fmod 4 = 1))
  (zK (dV (.list r)) (fun ln σ => zl .Add ln (iV 1) (fun ln σ => zl .Mod (iV (num.fdiv 4)) ln (fun a σ => rA a fun a => upto r a (fun x σ => zl .Add x (dV (.list [tk])) (fun x σ => y3 r a (fun y σ => zl .Add x y (fun sp σ => KN (AV L P num op e c md t l r h a tk sp) σ) σ) σ) σ) σ) σ) σ) σ)
  (cond (decide (num.fmod 4 = 2)) (upto r a (fun x σ => zl .Add x (dV (.list [tk])) (fun x σ => y3 r (a + 1) (fun y σ => zl .Add x y (fun sp σ => KN (AV L P num op e c md t l r h a tk sp) σ) σ) σ) σ) σ)
   (upto r a (fun x σ => t0 r (a + 1) (a + 2) (fun y σ => zl .Add x y (fun x σ => indexK (dV (.list r)) (iV a) (fun z σ => zv z fun z => zl .Add x (dV (.list [z])) (fun x σ => y3 r (a + 2) (fun y σ => zl .Add x y (fun sp σ => KN (AV L P num op e c md t l r h a tk sp) σ) σ) σ) σ) σ) σ) σ) σ)) := by kernel_rfl
theorem UV (n : Nat) (L P : List PyData) (num op e c : Int) (md t : PyData) (l : Int) (r : List PyData) (h : Int) (a : Int) (tk sp : PyData) (K : Bool → St → Out) (σ : St) : tv (ev (rQ n) Gb 91 false zp (AZ L P num op e c md t l r h a tk sp)) 91 (yI (s2 3)) K σ = onB (rQ n "_law_parsed" [dV sp] σ) fun u σ => onB (rQ n "_law_read" [dV sp] σ) fun v σ => zX .NotEq u v K σ := by kernel_rfl
theorem UW (L P : List PyData) (num op e c : Int) (md x : PyData) : zz "made" (.v (.dat x)) (Lr L P num op e c md) = Lr L P num op e c x := by kernel_rfl
theorem UX (L P : List PyData) (num op e c : Int) (x : PyData) : zz "made" (.v (.dat x)) (pa L P num op e c) = Lr L P num op e c x := by kernel_rfl
theorem fI : zN zp "made" = true := by kernel_rfl
theorem fJ : (("made" : Str) == yy) = false := by kernel_rfl
theorem pe (C : Str → List V → St → Out) (k : Nat) (er : Bool) (sc : zm) (ρ : zf) (KN : KR) (σ : St) : xs C Gb (k + 1) er sc ρ [] KN σ = KN ρ σ := rfl
theorem rC (ρ : zf) (k : zf → Out) : fj (some ρ) k = k ρ := rfl
theorem fK (h0 : 0 ≤ i) (h1 : i < P.length) : ∃ p, yr P i = some p ∧ p ∈ P := by
 refine zd ((⟨i.toNat, by lia⟩) : ∃ k : Nat, i = k) fun k W0 => ?_
 obtain rfl := W0
 obtain hk : k < P.length := by lia
 exact zg (P[k]) (ms (List.getElem?_eq_getElem hk)) (List.getElem_mem hk)
theorem fL {c : Int} (h : Pt 130 md) (hP : P.length ≤ 100) (KN : KR) (σ : St) : ∃ md', Pt 40 md' ∧ xs (rQ (n + 5)) Gb 96 false zp (Lr L P num op e c md) [.If (yI (s1 2)) (yS (s1 2)) [] (yi (s1 2)), s1 3] KN σ = KN (Lr L (P ++ [md']) num op e c md') σ := by
 refine yJ (id h) fun t lev row x W0 R => ?_
 refine (W0) ▸ ?_
 have hfit : (zi P.length && true) = true := by rw [zJ (by lia)]; rfl
 have leaf : ∃ md', Pt 40 md' ∧ xs (rQ (n + 5)) Gb 95 false zp (Lr L P num op e c (zn t lev (row.map za) x)) (yS (s1 2)) (fun ρ' => xs (rQ (n + 5)) Gb 95 false zp ρ' [s1 3] KN) σ = KN (Lr L (P ++ [md']) num op e c md') σ := by
  refine ze (xJ (e + c) (k := 7) (by lia)) fun a b => ?_
  refine zb (mX (n + 4) ((e + c).fmod 7) a b σ) fun p ep hp => ?_
  refine zg p ?_ ?_
  ·refine yJ (hp) fun t lev row x W1 R => ?_
   refine (W1) ▸ ?_
   exact ⟨t, lev, row, x, rfl, R.le, R.d, R.ok, by obtain this := R.len; exact Nat.le_trans ‹_› (by decide)⟩
  ·rw [Uk, ep, tT]
   obtain e1 : ([("script", .v (.dat (.list L))), ("pool", .own1 P), ("number", vI num), ("op", vI op), ("e", vI e), ("count", vI c), ("made", .v (dV p))] : zf) = Lr L P num op e c p := rfl
   rw [e1, fv, hfit, zB]
 refine (tO ..).symm ▸ (Uj ..).symm ▸ ?_
 obtain hlen : (row.map za).length ≤ 1000 := by obtain this := R.len; simp; exact Nat.le_trans ‹_› (by decide)
 cases decide (3 < x) with
 | true => refine (cond_true ..).symm ▸ (cond_true ..).symm ▸ ?_; exact leaf
 | false =>
  refine (cond_false ..).symm ▸ (y8 hlen ..).symm ▸ ?_
  obtain eGt : ∀ K : Bool → St → Out, zX .Gt (iV ((row.map za).length : Nat)) (iV 40) K σ = K (decide ((40 : Int) < ((row.map za).length : Nat))) σ := fun K => rfl
  refine (eGt ..).symm ▸ ?_
  by_cases hg : (40 : Int) < ((row.map za).length : Nat)
  ·rw [decide_eq_true hg, cond_true, cond_true]; exact leaf
  ·refine (decide_eq_false hg ..).symm ▸ (cond_false ..).symm ▸ (cond_false ..).symm ▸ (pe ..).symm ▸ (fv ..).symm ▸ (hfit ..).symm ▸ (zB ..).symm ▸ ?_
   exact zg _ (⟨t, lev, row, x, rfl, R.le, R.d, R.ok, by simp at hg; lia⟩) rfl
theorem lf (hl : P.length ≤ 100) (h0 : 0 ≤ i) (h1 : i < P.length) : ∃ f, f ∈ P ∧ ∀ K σ, indexK (dV (.list P)) (iV i) K σ = K (dV f) σ := by
 refine zb (fK h0 h1) fun p e hp => ?_
 exact ⟨p, hp, fun K σ => uT e (Int.le_trans (by decide) h0) (Int.le_trans (Int.le_of_lt h1) (Int.le_trans (Int.ofNat_le.mpr hl) (by decide)))⟩
theorem UY {L x : Int} (h0 : 0 ≤ x) (h1 : x < L) : 0 ≤ L - 1 - x ∧ L - 1 - x < L := ⟨by lia, by lia⟩
theorem fM (hP : ∀ p ∈ P, Pt 40 p) (hne : P ≠ []) (hl : P.length ≤ 100) (h0 : 0 ≤ op) (h13 : op < 13) (K : KV) (σ : St) : ∃ p, Pt 130 p ∧
  chk (!(decide (((P.length : Nat) : Int) = 0))) (indexK (dV (.list P)) (iV (((P.length : Nat) : Int) - 1 - (e.fdiv 3).fmod (P.length : Nat))) (fun f σ =>
   chk (!(decide (((P.length : Nat) : Int) = 0))) (indexK (dV (.list P)) (iV (e.fmod (P.length : Nat))) (fun g σ => chk (!(decide (((P.length : Nat) : Int) = 0))) (indexK (dV (.list P)) (iV ((e.fdiv 2).fmod (P.length : Nat))) (fun h σ => onB (rQ (n + 5) "_law_part" [iV op, iV (e + (P.length : Nat)), f, g, h] σ) K) σ)) σ)) σ) = K (dV p) σ := by
 have hp' : (0 : Int) < ((P.length : Nat) : Int) := Int.ofNat_lt.mpr (List.length_pos_iff.mpr hne)
 have e0 : (!(decide (((P.length : Nat) : Int) = 0))) = true := by rw [decide_eq_false (Int.ne_of_gt hp')]; rfl
 have a := xJ (e.fdiv 3) hp'
 have a := UY a.1 a.2
 have b := xJ e hp'
 have c := xJ (e.fdiv 2) hp'
 refine zo fun R_ k_ => ?_
 refine zb (lf hl a.1 a.2) fun f mf nf => ?_
 refine zb (lf hl b.1 b.2) fun g mg ng => ?_
 refine zb (lf hl c.1 c.2) fun h mh nh => ?_
 refine zb (Ud (n := n) (e := e + (P.length : Nat)) h0 h13 (hP f mf) (hP g mg) (hP h mh) σ) fun p ep hpt => ?_
 refine k_ ⟨p, hpt, ?_⟩
 have ep : rQ (n + 5) "_law_part" [iV op, iV (e + (P.length : Nat)), dV f, dV g, dV h] σ = .ok (dV p) σ := ep
 rw [e0, zB, nf, zB, ng, zB, nh, ep, tT]
theorem UZ {c : Int} (hP : ∀ p ∈ P, Pt 40 p) (hne : P ≠ []) (hl : P.length ≤ 100) (KN : KR) (σ : St) : ∃ md' op' e' c', Pt 40 md' ∧ xs (rQ (n + 5)) Gb 98 false zp (Lr L P num op e c md) b1 KN σ = KN (Lr L (P ++ [md']) num op' e' c' md') σ := by
 refine ze (xJ num (k := 13) (by lia)) fun a0 a1 => ?_
 rw [fo, rB _ _ _ _ _ _ _ _ _ _ _ _ _ ft fu, Ug, y8 (by lia)]
 obtain e1 : ∀ K : PyData → Out, zv (iV (P.length : Nat)) K = K (.int (P.length : Nat)) := fun K => rfl
 refine (e1 ..).symm ▸ (x9 ..).symm ▸ (Uh ..).symm ▸ (rC ..).symm ▸ (q9 _ _ _ _ _ _ _ _ _ _ _ _ fJ fI ..).symm ▸ (Ui ..).symm ▸ ?_
 refine zb (fM (n := n) (e := num.fdiv 13) hP hne hl a0 a1 (fun v σ => xs (rQ (n + 5)) Gb 96 false zp (zz "made" (.v v) (Lr L P num (num.fmod 13) (num.fdiv 13) (P.length : Nat) md)) [.If (yI (s1 2)) (yS (s1 2)) [] (yi (s1 2)), s1 3] KN σ) σ) fun p hp ep => ?_
 refine (ep ..).symm ▸ (UW ..).symm ▸ ?_
 refine zb (fL (n := n) (L := L) (num := num) (op := num.fmod 13) (e := num.fdiv 13) (c := (P.length : Nat)) hp hl KN σ) fun md' h1 h2 => ?_
 exact rF md' _ _ _ h1 h2
theorem U0 (hP : ∀ p ∈ P, Pt 40 p) (hne : P ≠ []) (hl : P.length ≤ 100) (KN : KR) (σ : St) : ∃ md' op' e' c', Pt 40 md' ∧ xs (rQ (n + 5)) Gb 98 false zp (m8 L P num) b1 KN σ = KN (Lr L (P ++ [md']) num op' e' c' md') σ := by
 refine zo fun R_ k_ => ?_
 refine ze (xJ num (k := 13) (by lia)) fun a0 a1 => ?_
 refine k_ ?_
 rw [fo, rB _ _ _ _ _ _ _ _ _ _ _ _ _ ft fu, Un, y8 (by lia)]
 obtain e1 : ∀ K : PyData → Out, zv (iV (P.length : Nat)) K = K (.int (P.length : Nat)) := fun K => rfl
 rw [e1, x9, Uo, rC, q9 _ _ _ _ _ _ _ _ _ _ _ _ fJ fI, Up]
 refine zo fun R_ k_ => ?_
 refine zb (fM (n := n) (e := num.fdiv 13) hP hne hl a0 a1 (fun v σ => xs (rQ (n + 5)) Gb 96 false zp (zz "made" (.v v) (pa L P num (num.fmod 13) (num.fdiv 13) (P.length : Nat))) [.If (yI (s1 2)) (yS (s1 2)) [] (yi (s1 2)), s1 3] KN σ) σ) fun p hp ep => ?_
 refine k_ ?_
 refine (ep ..).symm ▸ (UX ..).symm ▸ ?_
 refine zb (fL (n := n) (L := L) (num := num) (op := num.fmod 13) (e := num.fdiv 13) (c := (P.length : Nat)) hp hl KN σ) fun md' h1 h2 => ?_
 exact rF md' _ _ _ h1 h2
noncomputable def uW (n : Nat) : List PyData → zf → KR → St → Out := forK (zP zp (wo (lA 1))) (fun ρ' => xs (rQ n) Gb 98 false zp ρ' b1)
theorem pf {B : PyData → zf → Option zf} {X : zf → KR → St → Out} {r : List PyData} {ρ ρ' : zf} {KN : KR} (h : B x ρ = some ρ') : forK B X (x :: r) ρ KN σ = X ρ' (fun ρ'' => forK B X r ρ'' KN) σ := by
 rw [forK, h]; rfl
theorem fN {n : Nat} {L : List PyData} (KN : KR) (σ : St) : ∀ (nums : List Int) (P : List PyData) (num op e c : Int) (md : PyData), (∀ p ∈ P, Pt 40 p) → P ≠ [] → P.length + nums.length ≤ 90 →
  ∃ P' num' op' e' c' md', (∀ p ∈ P', Pt 40 p) ∧ P' ≠ [] ∧ P'.length ≤ 100 ∧ uW (n + 5) (nums.map .int) (Lr L P num op e c md) KN σ = KN (Lr L P' num' op' e' c' md') σ
 | [], P, num, op, e, c, md, hP, hne, hl => (pq P num op e c md hP hne (by lia) rfl)
 | x :: nums, P, num, op, e, c, md, hP, hne, hl => by
  simp only [length_cons] at hl
  unfold uW
  refine (map_cons ..).symm ▸ (pf (Uf L P x num op e c md) ..).symm ▸ ?_
  refine zo fun R_ k_ => ?_
  refine yJ (UZ (n := n) (L := L) (num := x) (op := op) (e := e) (c := c) (md := md) hP hne (by lia) (fun ρ'' => uW (n + 5) (nums.map .int) ρ'' KN) σ) fun md' op' e' c' h1 h2 => ?_
  refine pD (fN (n := n) (L := L) KN σ nums (P ++ [md']) x op' e' c' md' (fun p hp => by
   refine zh (mem_append.mp hp) (fun q => ?_) fun q => ?_
   ·exact hP p q
   ·rw [mem_singleton.mp q]; exact h1) (by simp) (by simp; lia)) fun P' num' op2 e2 c2 md2 g1 g2 g3 g4 => ?_
  refine k_ ?_
  exact pq P' num' op2 e2 c2 md2 g1 g2 g3 (h2.trans g4)
theorem U1 (KN : KR) (σ : St) (nums : List Int) (P : List PyData) (hn : nums ≠ []) (hP : ∀ p ∈ P, Pt 40 p) (hne : P ≠ []) (hl : P.length + nums.length ≤ 80) :
  ∃ P' num' op' e' c' md', (∀ p ∈ P', Pt 40 p) ∧ P' ≠ [] ∧ P'.length ≤ 100 ∧ uW (n + 5) (nums.map .int) (ua L P) KN σ = KN (Lr L P' num' op' e' c' md') σ := by
 cases nums with
 | nil => exact absurd rfl hn
 | cons x nums =>
  simp only [length_cons] at hl
  unfold uW
  refine (map_cons ..).symm ▸ (pf (Um L P x) ..).symm ▸ ?_
  refine zo fun R_ k_ => ?_
  refine yJ (U0 (n := n) (L := L) (num := x) hP hne (by lia) (fun ρ'' => uW (n + 5) (nums.map .int) ρ'' KN) σ) fun md' op' e' c' h1 h2 => ?_
  refine pD (fN (n := n) (L := L) KN σ nums (P ++ [md']) x op' e' c' md' (fun p hp => by
   refine zh (mem_append.mp hp) (fun q => ?_) fun q => ?_
   ·exact hP p q
   ·rw [mem_singleton.mp q]; exact h1) (by simp) (by simp; lia)) fun P' num' op2 e2 c2 md2 g1 g2 g3 g4 => ?_
  refine k_ ?_
  exact pq P' num' op2 e2 c2 md2 g1 g2 g3 (h2.trans g4)
theorem lg (r : List Tk) (lo hi : Option Int) : zk (r.map za) lo hi = (zk r lo hi).map za := by
 unfold zk
 exact (length_map ..).symm ▸ List.map_drop ▸ List.map_take ▸ rfl
theorem U2 {x : Tk} (h : x ∈ zk r lo hi) : x ∈ r := List.mem_of_mem_drop (List.mem_of_mem_take h)
theorem lh : (zk r lo hi).length ≤ kms_hi hi r.length - kms_lo lo r.length := by
 unfold zk; exact length_take.symm ▸ Nat.min_le_left ..
theorem fO (h : 0 ≤ a) : kms_lo (some a) n = min a.toNat n := by
 unfold kms_lo; simp only; rw [if_neg (by lia)]
theorem fP (h : 0 ≤ a) : kms_hi (some a) n = min a.toNat n := by
 unfold kms_hi; simp only; rw [if_neg (by lia)]
theorem U3 (h0 : 0 ≤ a) (h1 : a ≤ 1000) (hl : r.length ≤ 1000) : upto (r.map za) a K σ = K (dV (.list ((zk r none (some a)).map za))) σ := by
 unfold upto
 rw [xg (by lia) h1, zB, zJ (by simpa using hl), zB, lg]
theorem U4 (h0 : 0 ≤ a) (h1 : a ≤ 1000) (hl : r.length ≤ 1000) : y3 (r.map za) a K σ = K (dV (.list ((zk r (some a) none).map za))) σ := by
 unfold y3
 rw [xg (by lia) h1, zB, zJ (by simpa using hl), zB, lg]
theorem U5 {b : Int} (h0 : 0 ≤ a) (h1 : a ≤ 1000) (h2 : 0 ≤ b) (h3 : b ≤ 1000) (hl : r.length ≤ 1000) : t0 (r.map za) a b K σ = K (dV (.list ((zk r (some a) (some b)).map za))) σ := by
 unfold t0
 rw [xg (by lia) h1, zB, xg (by lia) h3, zB, zJ (by simpa using hl), zB, lg]
theorem pg : (zk r lo hi).length ≤ r.length := by
 unfold zk
 rw [length_take, List.length_drop]
 exact Nat.le_trans (Nat.min_le_right ..) (Nat.sub_le ..)
theorem li {b : Int} (h : 0 ≤ a) (hb : a ≤ b) : (zk r none (some a)).length + (zk r (some b) none).length ≤ r.length := by
 have q1 := lh (r := r) (lo := none) (hi := some a)
 have q2 := lh (r := r) (lo := some b) (hi := none)
 rw [fP h] at q1
 rw [fO (Int.le_trans h hb)] at q2
 have q3 : min a.toNat r.length ≤ min b.toNat r.length := Nat.le_min.mpr ⟨Nat.le_trans (Nat.min_le_left ..) (Int.toNat_le_toNat hb), Nat.min_le_right ..⟩
 exact Nat.le_trans (Nat.add_le_add (Nat.le_trans q1 (Nat.sub_le ..)) (Nat.le_trans q2 (Nat.sub_le_sub_left q3 _))) (Nat.le_of_eq (Nat.add_sub_of_le (Nat.min_le_right ..)))
theorem U6 (n k : Nat) : min (k + 1) n - min k n ≤ 1 := by
 refine zh (Nat.le_total n k) (fun h => ?_) fun h => ?_
 ·rw [Nat.min_eq_right h, Nat.min_eq_right (Nat.le_succ_of_le h), Nat.sub_self]; exact Nat.zero_le _
 ·rw [Nat.min_eq_left h]; exact Nat.sub_le_iff_le_add'.mpr (Nat.min_le_left ..)
theorem U7 (h : 0 ≤ a) : (zk r (some (a + 1)) (some (a + 2))).length ≤ 1 := by
 rw [show a + 2 = a + 1 + 1 from (Int.add_assoc a 1 1).symm]
 have q := lh (r := r) (lo := some (a + 1)) (hi := some (a + 1 + 1))
 have h1 : 0 ≤ a + 1 := Int.le_add_one h
 rw [fO h1, fP (Int.le_add_one h1), show (a + 1 + 1).toNat = (a + 1).toNat + 1 from Int.toNat_add h1 (by decide)] at q
 exact Nat.le_trans q (U6 ..)
noncomputable def ub (sp : List Tk) : Prop := (∀ t ∈ sp, zL t) ∧ sp.length ≤ 45
theorem fQ {x y : Nat} (h : x + y ≤ n) (hn : n ≤ 40) (hm : m ≤ 2) : x + m + y ≤ 45 := by lia
theorem lj (h0 : 0 ≤ a) (h1 : a ≤ 42) (hl : r.length ≤ 40) : upto (r.map za) a K σ = K (dV (.list ((zk r none (some a)).map za))) σ := U3 h0 (Int.le_trans h1 (by decide)) (Nat.le_trans hl (by decide))
theorem lm (h0 : 0 ≤ a) (h1 : a ≤ 42) (hl : r.length ≤ 40) : y3 (r.map za) a K σ = K (dV (.list ((zk r (some a) none).map za))) σ := U4 h0 (Int.le_trans h1 (by decide)) (Nat.le_trans hl (by decide))
theorem ad40 {a b : List Tk} (h1 : a.length ≤ 90) (h2 : b.length ≤ 40) : zl .Add (dV (.list (a.map za))) (dV (.list (b.map za))) K σ = K (dV (.list ((a ++ b).map za))) σ := m1 (Nat.le_trans (Nat.add_le_add h1 h2) (by decide))
theorem lp {a b : List Tk} (h1 : a.length ≤ n) (h2 : b.length ≤ m) (h : n + m ≤ 90) : (a ++ b).length ≤ 90 := by rw [length_append]; exact Nat.le_trans (Nat.add_le_add h1 h2) h
theorem t4 (h1 : a ≤ n) (hl : n ≤ 40) : a ≤ 40 := Int.le_trans h1 (Int.ofNat_le.mpr hl)
theorem ph {k : Int} (h : a ≤ 40) (hk : k ≤ 2) : a + k ≤ 42 := Int.add_le_add h hk
theorem po {k : Int} (h : 0 ≤ a) (hk : 0 ≤ k) : 0 ≤ a + k := Int.add_nonneg h hk
theorem lq {k : Int} (hk : 0 ≤ k) : a ≤ a + k := Int.le_add_of_nonneg_right hk
section
variable {r : List Tk} {tk : Tk} {a : Int}
theorem uX (hr : ∀ t ∈ r, zL t) (lo hi : Option Int) : ∀ t ∈ zk r lo hi, zL t := fun t h => hr t (U2 h)
theorem fR (hr : ∀ t ∈ r, zL t) (hl : r.length ≤ 40) (h0 : 0 ≤ a) (h1 : a < r.length) (K : KV) (σ : St) : ∃ sp, ub sp ∧
  upto (r.map za) a (fun x σ => y3 (r.map za) (a + 1) (fun y σ => zl .Add x y K σ) σ) σ = K (dV (.list (sp.map za))) σ := by
 have ha := t4 (Int.le_of_lt h1) hl
 refine zg (zk r none (some a) ++ zk r (some (a + 1)) none) (⟨forall_mem_append.mpr ⟨uX hr _ _, uX hr _ _⟩, ?_⟩) (?_)
 ·rw [length_append]; exact Nat.le_trans (li h0 (lq (by decide))) (Nat.le_trans hl (by decide))
 ·rw [lj h0 (Int.le_trans ha (by decide)) hl, lm (po h0 (by decide)) (ph ha (by decide)) hl, ad40 (Nat.le_trans pg (Nat.le_trans hl (by decide))) (Nat.le_trans pg hl)]
theorem fS {b : Int} (hr : ∀ t ∈ r, zL t) (ht : zL tk) (hl : r.length ≤ 40) (h0 : 0 ≤ a) (ha : a ≤ 40) (hb : a ≤ b) (hb2 : b ≤ 42) (K : KV) (σ : St) : ∃ sp, ub sp ∧
  upto (r.map za) a (fun x σ => zl .Add x (dV (.list [za tk])) (fun x σ => y3 (r.map za) b (fun y σ => zl .Add x y K σ) σ) σ) σ = K (dV (.list (sp.map za))) σ := by
 refine zg (zk r none (some a) ++ [tk] ++ zk r (some b) none) (⟨forall_mem_append.mpr ⟨forall_mem_append.mpr ⟨uX hr _ _, forall_mem_singleton.mpr ht⟩, uX hr _ _⟩, ?_⟩) ?_
 ·rw [length_append, length_append]; exact fQ (li h0 hb) hl (show 1 ≤ 2 by decide)
 ·have c : ∀ lo hi, (zk r lo hi).length ≤ 40 := fun lo hi => Nat.le_trans pg hl
  rw [lj h0 (Int.le_trans ha (by decide)) hl, show dV (.list [za tk]) = dV (.list ([tk].map za)) from rfl, ad40 (b := [tk]) (Nat.le_trans (c ..) (by decide)) (show 1 ≤ 40 by decide), lm (Int.le_trans h0 hb) hb2 hl, ad40 (lp (c ..) (Nat.le_refl 1) (by decide)) (c ..)]
theorem U8 (hr : ∀ t ∈ r, zL t) (ht : zL tk) (hl : r.length ≤ 40) (h0 : 0 ≤ a) (h1 : a ≤ r.length) (K : KV) (σ : St) : ∃ sp, ub sp ∧
  upto (r.map za) a (fun x σ => zl .Add x (dV (.list [za tk])) (fun x σ => y3 (r.map za) a (fun y σ => zl .Add x y K σ) σ) σ) σ = K (dV (.list (sp.map za))) σ :=
 fS hr ht hl h0 (t4 h1 hl) (Int.le_refl _) (Int.le_trans (t4 h1 hl) (by decide)) K σ
theorem U9 (hr : ∀ t ∈ r, zL t) (ht : zL tk) (hl : r.length ≤ 40) (h0 : 0 ≤ a) (h1 : a < r.length) (K : KV) (σ : St) : ∃ sp, ub sp ∧
  upto (r.map za) a (fun x σ => zl .Add x (dV (.list [za tk])) (fun x σ => y3 (r.map za) (a + 1) (fun y σ => zl .Add x y K σ) σ) σ) σ = K (dV (.list (sp.map za))) σ :=
 fS hr ht hl h0 (t4 (Int.le_of_lt h1) hl) (lq (by decide)) (ph (t4 (Int.le_of_lt h1) hl) (by decide)) K σ
theorem fT (h0 : 0 ≤ a) (h1 : a < r.length) : ∃ z, yr (r.map za) a = some (za z) ∧ z ∈ r := by
 refine zb (fK (P := r.map za) h0 (by rw [length_map]; exact h1)) fun p e hp => ?_
 refine zb (mem_map.mp hp) fun z hz q => ?_
 exact zg z (q ▸ e) hz
theorem Ta (hr : ∀ t ∈ r, zL t) (hl : r.length ≤ 40) (h0 : 0 ≤ a) (h1 : a < r.length) (K : KV) (σ : St) : ∃ sp, ub sp ∧
  upto (r.map za) a (fun x σ => t0 (r.map za) (a + 1) (a + 2) (fun y σ => zl .Add x y (fun x σ => indexK (dV (.list (r.map za))) (iV a) (fun z σ => zv z fun z => zl .Add x (dV (.list [z])) (fun x σ => y3 (r.map za) (a + 2) (fun y σ => zl .Add x y K σ) σ) σ) σ) σ) σ) σ = K (dV (.list (sp.map za))) σ := by
 refine zb (fT (r := r) h0 h1) fun z ez hz => ?_
 have ha := t4 (Int.le_of_lt h1) hl
 refine (zg (zk r none (some a) ++ (zk r (some (a + 1)) (some (a + 2)) ++ [z]) ++ zk r (some (a + 2)) none) (⟨forall_mem_append.mpr ⟨forall_mem_append.mpr ⟨uX hr _ _, forall_mem_append.mpr ⟨uX hr _ _, forall_mem_singleton.mpr (hr z hz)⟩⟩, uX hr _ _⟩, ?_⟩) (?_))
 ·rw [length_append, length_append, length_append]; exact fQ (li h0 (lq (by decide))) hl (Nat.succ_le_succ (U7 h0))
 ·have c : ∀ lo hi, (zk r lo hi).length ≤ 40 := fun lo hi => Nat.le_trans pg hl
  have k1 : a + 1 ≤ 42 := ph ha (by decide)
  have k2 : a + 2 ≤ 42 := ph ha (by decide)
  have p2 : 0 ≤ a + 2 := po h0 (by decide)
  rw [lj h0 (Int.le_trans ha (by decide)) hl, U5 (po h0 (by decide)) (Int.le_trans k1 (by decide)) p2 (Int.le_trans k2 (by decide)) (Nat.le_trans hl (by decide)), ad40 (Nat.le_trans (c ..) (by decide)) (c ..), uT ez (Int.le_trans (by decide) h0) (Int.le_trans ha (by decide)), x9, show dV (.list [za z]) = dV (.list ([z].map za)) from rfl,
   ad40 (b := [z]) (lp (c ..) (c ..) (by decide)) (show 1 ≤ 40 by decide), lm p2 k2 hl, append_assoc (zk r none (some a)), ad40 (lp (c ..) (show (zk r (some (a + 1)) (some (a + 2)) ++ [z]).length ≤ 41 by rw [length_append]; exact Nat.succ_le_succ (c ..)) (by decide)) (c ..)]
end
theorem fU (h0 : 0 ≤ i) (h1 : i < 22) : ∃ z, yr (uV.map za) i = some (za z) ∧ zL z := by
 obtain hl : uV.length = 22 := rfl
 refine zb (fT (r := uV) h0 (by lia)) fun z e hz => ?_
 exact zg z e (gW (w := uV) (by kernel_rfl) z hz)
theorem Tc {l : List PyData} (h : l.length ≤ 1000) (h0 : 0 < l.length) : zK (dV (.list l)) (fun ln σ => zl .Mod (iV num) ln K σ) σ = K (iV (num.fmod (l.length : Nat))) σ := by
 rw [y8 h]
 show chk (!(decide (((l.length : Nat) : Int) = 0))) (K (iV (num.fmod (l.length : Nat))) σ) = _
 rw [decide_eq_false (by lia)]; rfl
theorem Td {l : List PyData} (h : l.length ≤ 1000) (h0 : 0 < l.length) : zK (dV (.list l)) (fun ln σ => zl .FloorDiv (iV num) ln K σ) σ = K (iV (num.fdiv (l.length : Nat))) σ := by
 rw [y8 h]
 show chk (rR ((l.length : Nat) : Int) && !(decide (((l.length : Nat) : Int) = 0))) (K (iV (num.fdiv (l.length : Nat))) σ) = _
 obtain e : rR ((l.length : Nat) : Int) = true := by
  exact Nat.ble_eq_true_of_le (by lia)
 rw [e, decide_eq_false (by lia)]; rfl
theorem TU {l : List PyData} {G : Int → Out} (h : l.length ≤ 1000) : zK (dV (.list l)) (fun ln σ => zl .Add ln (iV 1) (fun ln σ => zl .Mod (iV num) ln (fun a _ => rA a G) σ) σ) σ = G (num.fmod ((l.length : Nat) + 1)) := by
 rw [y8 h]
 show chk (!(decide (((l.length : Nat) : Int) + 1 = 0))) (G (num.fmod ((l.length : Nat) + 1))) = _
 rw [decide_eq_false (by lia)]; rfl
theorem fV : zN zp "token" = true := by kernel_rfl
theorem fW : (("token" : Str) == yy) = false := by kernel_rfl
theorem Te (K : Bool → St → Out) (σ : St) : zX .NotEq (dV .none) (dV .none) K σ = K false σ := by kernel_rfl
theorem fX {l : List PyData} {K : Bool → St → Out} (h1 : SeqAt.shaped (.tuple l) = true) (h2 : PyData.eqv (.tuple l) (.tuple l) = true) : zX .NotEq (dV (.tuple l)) (dV (.tuple l)) K σ = K false σ := by
 show chk (SeqAt.shaped (.tuple l) && SeqAt.shaped (.tuple l)) (K (!(PyData.eqv (.tuple l) (.tuple l))) σ) = _
 refine (h1 ..).symm ▸ (h2 ..).symm ▸ ?_; rfl
theorem Tf (h : ub w) (hn : 400 ≤ n) (K : Bool → St → Out) (σ : St) :
  (onB (rQ (n + 8) "_law_parsed" [zw w] σ) fun u σ => onB (rQ (n + 8) "_law_read" [zw w] σ) fun v σ => zX .NotEq u v K σ) = K false σ := by
 refine zo fun R_ k_ => ?_
 refine ze (h) fun hok hl => ?_
 refine zb (mQ (n := n) σ hok (by lia) (by lia)) fun u eu hu => ?_
 refine zb ((gN σ w.length w (Nat.le_refl _) (by lia) hok).2 (n + 8) (by lia)) fun v ev hv => ?_
 refine k_ ?_
 rw [eu, tT, ev, tT]
 rcases hu with hu | ⟨rfl, hu⟩
 ·rcases hv with hv | ⟨rfl, hv⟩
  ·obtain e := hu.uniq hv (by lia)
   refine (e) ▸ ?_
   refine ze (hu.shaped hok (by lia)) fun s1 s2 => ?_
   refine zd (hu.tuple) fun l W0 => ?_
   obtain rfl := W0
   exact fX s1 s2
  ·exact absurd hu (hv _)
 ·refine xL hv (fun hv => ?_) fun W1 hv => ?_
  ·exact absurd hv (hu _)
  ·obtain rfl := W1; exact Te K σ
theorem pi {c : Int} {l : Int} {r : List PyData} {tk : PyData} (g : ub w) (hn : 400 ≤ n) (KN : KR) (σ : St) :
  xs (rQ (n + 8)) Gb 92 false zp (AZ L P num op e c md t l r h a tk (.list (w.map za))) [.If (yI (s2 3)) (yS (s2 3)) [] (yi (s2 3))] KN σ = KN (AZ L P num op e c md t l r h a tk (.list (w.map za))) σ := by
 rw [tO, UV]
 obtain e : dV (.list (w.map za)) = zw w := rfl
 rw [e, Tf g hn, cond_false, pe, pe]
noncomputable def pj (r : List PyData) (num : Int) (tk : PyData) (a : Int) (K : Int → V → St → Out) (σ : St) : Out := cond (decide (num.fmod 4 = 1))
  (zK (dV (.list r)) (fun ln σ => zl .Add ln (iV 1) (fun ln σ => zl .Mod (iV (num.fdiv 4)) ln (fun a σ => rA a fun a => upto r a (fun x σ => zl .Add x (dV (.list [tk])) (fun x σ => y3 r a (fun y σ => zl .Add x y (K a) σ) σ) σ) σ) σ) σ) σ)
  (cond (decide (num.fmod 4 = 2)) (upto r a (fun x σ => zl .Add x (dV (.list [tk])) (fun x σ => y3 r (a + 1) (fun y σ => zl .Add x y (K a) σ) σ) σ) σ)
   (upto r a (fun x σ => t0 r (a + 1) (a + 2) (fun y σ => zl .Add x y (fun x σ => indexK (dV (.list r)) (iV a) (fun z σ => zv z fun z => zl .Add x (dV (.list [z])) (fun x σ => y3 r (a + 2) (fun y σ => zl .Add x y (K a) σ) σ) σ) σ) σ) σ) σ))
theorem fY (hr : ∀ t ∈ r, zL t) (ht : zL tk) (hl : r.length ≤ 40) (h0 : 0 ≤ a) (h1 : a < r.length) (K : Int → V → St → Out) (σ : St) :
  ∃ a' sp, ub sp ∧ pj (r.map za) num (za tk) a K σ = K a' (dV (.list (sp.map za))) σ := by
 unfold pj
 obtain hlen : (r.map za).length = r.length := length_map ..
 by_cases c1 : num.fmod 4 = 1
 ·rw [decide_eq_true c1, cond_true]
  refine ze (xJ (num.fdiv 4) (k := ((r.length : Nat) : Int) + 1) (by lia)) fun q0 q1 => ?_
  refine zb (U8 hr ht hl q0 (by (first | lia | omega)) (K ((num.fdiv 4).fmod (((r.length : Nat) : Int) + 1))) σ) fun sp g e => ?_
  refine (yj ((num.fdiv 4).fmod (((r.length : Nat) : Int) + 1)) (sp) (g) (?_))
  rw [← e, y8 (by lia), hlen]
  show chk (!(decide (((r.length : Nat) : Int) + 1 = 0))) _ = _
  rw [decide_eq_false (by lia)]; rfl
 ·rw [decide_eq_false c1, cond_false]
  by_cases c2 : num.fmod 4 = 2
  ·rw [decide_eq_true c2, cond_true]
   refine zb (U9 hr ht hl h0 h1 (K a) σ) fun sp g e => ?_
   exact yj _ sp g e
  ·rw [decide_eq_false c2, cond_false]
   refine zb (Ta hr hl h0 h1 (K a) σ) fun sp g e => ?_
   exact yj _ sp g e
theorem Tg (n : Nat) (L P : List PyData) (num op e c : Int) (md t : PyData) (l : Int) (r : List PyData) (h : Int) (a : Int) (tk : PyData) (KN : KR) (σ : St) : xs (rQ n) Gb 92 false zp (A2 L P num op e c md t l r h a tk) (uU (s2 2)) KN σ = pj r num tk a (fun a sp σ => KN (AV L P num op e c md t l r h a tk sp) σ) σ := UK ..
theorem Th (n : Nat) (L P : List PyData) (num op e c : Int) (md t : PyData) (l : Int) (r : List PyData) (h : Int) (a : Int) (tk sp0 : PyData) (KN : KR) (σ : St) : xs (rQ n) Gb 92 false zp (AZ L P num op e c md t l r h a tk sp0) (uU (s2 2)) KN σ = pj r num tk a (fun a sp σ => KN (AV L P num op e c md t l r h a tk sp) σ) σ := UU ..
theorem fZ {l : List PyData} {K : PyData → PyData → St → Out} (h : l.length ≤ 1000) (h0 : 0 < l.length) : zK (dV (.list l)) (fun ln σ => zl .Mod (iV num) ln (fun x σ => zv x fun x => zK (dV (.list l)) (fun ln σ => zl .FloorDiv (iV num) ln (fun y σ => zv y fun y => K x y σ) σ) σ) σ) σ =
  K (.int (num.fmod (l.length : Nat))) (.int (num.fdiv (l.length : Nat))) σ := by
 rw [Tc h h0]
 show (zK (dV (.list l)) (fun ln σ => zl .FloorDiv (iV num) ln (fun y σ => zv y fun y => K (.int (num.fmod (l.length : Nat))) y σ) σ) σ) = _
 rw [Td h h0]; rfl
structure Rw (r : List Tk) : Prop where
 ok : ∀ t ∈ r, zL t
 lo : 0 < r.length
 hi : r.length ≤ 40
theorem Ti {c : Int} {l : Int} (R : Rw r) (ht : zL tk) (h0 : 0 ≤ a) (h1 : a < r.length) (hn : 400 ≤ n) (KN : KR) (σ : St) :
  ∃ a' sp, xs (rQ (n + 8)) Gb 93 false zp (A2 L P num op e c md t l (r.map za) h a (za tk)) [.If (yI (s2 2)) (yS (s2 2)) (uU (s2 2)) (yi (s2 2)), .If (yI (s2 3)) (yS (s2 3)) [] (yi (s2 3))] KN σ = KN (AZ L P num op e c md t l (r.map za) h a' (za tk) sp) σ := by
 rw [tO, UI]
 by_cases c0 : num.fmod 4 = 0
 ·rw [decide_eq_true c0, cond_true, UJ]
  refine zb (fR R.ok R.hi h0 h1 (fun sp σ => xs (rQ (n + 8)) Gb 92 false zp (AV L P num op e c md t l (r.map za) h a (za tk) sp) [.If (yI (s2 3)) (yS (s2 3)) [] (yi (s2 3))] KN σ) σ) fun sp g ee => ?_
  exact y4 a _ (ee.trans (by rw [pd]; exact pi g hn KN σ))
 ·rw [decide_eq_false c0, cond_false, Tg]
  refine zx (fY (num := num) R.ok ht R.hi h0 h1 (fun a sp σ => xs (rQ (n + 8)) Gb 92 false zp (AV L P num op e c md t l (r.map za) h a (za tk) sp) [.If (yI (s2 3)) (yS (s2 3)) [] (yi (s2 3))] KN σ) σ) fun a' sp g ee => ?_
  exact y4 a' _ (ee.trans (by rw [pd]; exact pi g hn KN σ))
theorem Tj {c : Int} {l : Int} {sp0 : PyData} (R : Rw r) (ht : zL tk) (h0 : 0 ≤ a) (h1 : a < r.length) (hn : 400 ≤ n) (KN : KR) (σ : St) :
  ∃ a' sp, xs (rQ (n + 8)) Gb 93 false zp (AZ L P num op e c md t l (r.map za) h a (za tk) sp0) [.If (yI (s2 2)) (yS (s2 2)) (uU (s2 2)) (yi (s2 2)), .If (yI (s2 3)) (yS (s2 3)) [] (yi (s2 3))] KN σ = KN (AZ L P num op e c md t l (r.map za) h a' (za tk) sp) σ := by
 rw [tO, US]
 by_cases c0 : num.fmod 4 = 0
 ·rw [decide_eq_true c0, cond_true, UT]
  refine zb (fR R.ok R.hi h0 h1 (fun sp σ => xs (rQ (n + 8)) Gb 92 false zp (AV L P num op e c md t l (r.map za) h a (za tk) sp) [.If (yI (s2 3)) (yS (s2 3)) [] (yi (s2 3))] KN σ) σ) fun sp g ee => ?_
  exact y4 a _ (ee.trans (by rw [pd]; exact pi g hn KN σ))
 ·rw [decide_eq_false c0, cond_false, Th]
  refine zx (fY (num := num) R.ok ht R.hi h0 h1 (fun a sp σ => xs (rQ (n + 8)) Gb 92 false zp (AV L P num op e c md t l (r.map za) h a (za tk) sp) [.If (yI (s2 3)) (yS (s2 3)) [] (yi (s2 3))] KN σ) σ) fun a' sp g ee => ?_
  exact y4 a' _ (ee.trans (by rw [pd]; exact pi g hn KN σ))
theorem Tl {c : Int} {l : Int} (R : Rw r) (hn : 400 ≤ n) (KN : KR) (σ : St) :
  ∃ e' a tk sp, xs (rQ (n + 8)) Gb 95 false zp (Lq L P num op e c md t l (r.map za) h) b2 KN σ = KN (AZ L P num op e' c md t l (r.map za) h a tk sp) σ := by
 obtain hlen : (r.map za).length = r.length := length_map ..
 obtain hlo := R.lo
 obtain hhi := R.hi
 refine zo fun R_ k_ => ?_
 refine ze (xJ (num.fdiv 4) (k := ((r.length : Nat) : Int)) (by lia)) fun a0 a1 => ?_
 refine ze (xJ ((num.fdiv 4).fdiv ((r.length : Nat) : Int) + num) (k := 22) (by lia)) fun b0 b1 => ?_
 refine zb (fU b0 b1) fun tk et ht => ?_
 refine k_ ?_
 rw [fq, rB _ _ _ _ _ _ _ _ _ _ _ _ _ fy fA, UE, fZ (by lia) (by lia), x9, UF, rC, q9 _ _ _ _ _ _ _ _ _ _ _ _ fW fV, UG, hlen, uT et (by (first | lia | omega)) (by exact Int.le_trans (Int.le_of_lt ‹_›) (by decide)), UH]
 refine zM (Ti (n := n) (L := L) (P := P) (num := num) (op := op) (e := (num.fdiv 4).fdiv ((r.length : Nat) : Int)) (c := c) (md := md) (t := t) (l := l) (h := h) R ht a0 a1 hn KN σ) fun a' sp ee => ?_
 exact vE _ a' _ sp ee
theorem Tm {c : Int} {l : Int} {aa : Int} {tk0 sp0 : PyData} (R : Rw r) (hn : 400 ≤ n) (KN : KR) (σ : St) :
  ∃ e' a tk sp, xs (rQ (n + 8)) Gb 95 false zp (AZ L P num op e c md t l (r.map za) h aa tk0 sp0) b2 KN σ = KN (AZ L P num op e' c md t l (r.map za) h a tk sp) σ := by
 obtain hlen : (r.map za).length = r.length := length_map ..
 obtain hlo := R.lo
 obtain hhi := R.hi
 refine ze (xJ (num.fdiv 4) (k := ((r.length : Nat) : Int)) (by lia)) fun a0 a1 => ?_
 refine ze (xJ ((num.fdiv 4).fdiv ((r.length : Nat) : Int) + num) (k := 22) (by lia)) fun b0 b1 => ?_
 refine zb (fU b0 b1) fun tk et ht => ?_
 rw [fq, rB _ _ _ _ _ _ _ _ _ _ _ _ _ fy fA, UO, fZ (by lia) (by lia), x9, UP, rC, q9 _ _ _ _ _ _ _ _ _ _ _ _ fW fV, UQ, hlen, uT et (by (first | lia | omega)) (by exact Int.le_trans (Int.le_of_lt ‹_›) (by decide)), UR]
 refine zM (Tj (n := n) (L := L) (P := P) (num := num) (op := op) (e := (num.fdiv 4).fdiv ((r.length : Nat) : Int)) (c := c) (md := md) (t := t) (l := l) (h := h) (sp0 := sp0) R ht a0 a1 hn KN σ) fun a' sp ee => ?_
 exact vE _ a' _ sp ee
noncomputable def t5 (n : Nat) : List PyData → zf → KR → St → Out := forK (zP zp (wo (lA 4))) (fun ρ' => xs (rQ n) Gb 95 false zp ρ' b2)
theorem f0 {n : Nat} {L P : List PyData} {op c : Int} {md t : PyData} {l : Int} {r : List Tk} {h : Int} (R : Rw r) (hn : 400 ≤ n) (KN : KR) (σ : St) : ∀ (nums : List Int) (num e a : Int) (tk sp : PyData),
  ∃ ρ, t5 (n + 8) (nums.map .int) (AZ L P num op e c md t l (r.map za) h a tk sp) KN σ = KN ρ σ
 | [], num, e, a, tk, sp => ⟨_, rfl⟩
 | x :: nums, num, e, a, tk, sp => by
  unfold t5
  refine map_cons.symm ▸ (pf (Ux L P x num op e c md t l (r.map za) h a tk sp) ..).symm ▸ ?_
  refine t7 (Tm (n := n) (L := L) (P := P) (num := x) (op := op) (e := e) (c := c) (md := md) (t := t) (l := l) (h := h) (aa := a) (tk0 := tk) (sp0 := sp) R hn (fun ρ'' => t5 (n + 8) (nums.map .int) ρ'' KN) σ) fun e' a' tk' sp' ee => ?_
  obtain ⟨ρ, e2⟩ := f0 (n := n) (L := L) (P := P) (op := op) (c := c) (md := md) (t := t) (l := l) (h := h) R hn KN σ nums x e' a' tk' sp'
  exact ⟨ρ, ee.trans e2⟩
theorem ed {c : Int} {l : Int} (R : Rw r) (hn : 400 ≤ n) (KN : KR) (σ : St) (nums : List Int) (num e : Int) :
  ∃ ρ, t5 (n + 8) (nums.map .int) (Lq L P num op e c md t l (r.map za) h) KN σ = KN ρ σ := by
 cases nums with
 | nil => exact ⟨_, rfl⟩
 | cons x nums =>
  unfold t5
  refine map_cons.symm ▸ (pf (Uw L P x num op e c md t l (r.map za) h) ..).symm ▸ ?_
  refine t7 (Tl (n := n) (L := L) (P := P) (num := x) (op := op) (e := e) (c := c) (md := md) (t := t) (l := l) (h := h) R hn (fun ρ'' => t5 (n + 8) (nums.map .int) ρ'' KN) σ) fun e' a' tk' sp' ee => ?_
  obtain ⟨ρ, e2⟩ := f0 (n := n) (L := L) (P := P) (op := op) (c := c) (md := md) (t := t) (l := l) (h := h) R hn KN σ nums x e' a' tk' sp'
  exact ⟨ρ, ee.trans e2⟩
theorem eg (l : List Int) (lo hi : Option Int) : zk (l.map PyData.int) lo hi = (zk l lo hi).map .int := by
 unfold zk
 exact (length_map ..).symm ▸ List.map_drop ▸ List.map_take ▸ rfl
theorem ei {l : List Int} : (zk l lo hi).length ≤ l.length := by
 unfold zk; rw [length_take, List.length_drop]; lia
theorem ej (l : List Int) : (l.map PyData.int).isEmpty = l.isEmpty := by cases l <;> rfl
noncomputable abbrev Tn : Stmt := .For (wo (lA 1)) (tZ (lA 1)) b1 [] (yi (lA 1))
noncomputable abbrev pm : Stmt := .Assign [.Tuple (xK (lA 2)) (vA (lA 2)) (wD (lA 2))] (yp (lA 2)) (yi (lA 2))
noncomputable abbrev rD : Stmt := .If (yI (lA 3)) (yS (lA 3)) [] (yi (lA 3))
noncomputable abbrev t6 : Stmt := .For (wo (lA 4)) (tZ (lA 4)) b2 [] (yi (lA 4))
theorem To (n : Nat) (L : List PyData) (rest : List Stmt) (KN : KR) (σ : St) : xs (rQ n) Gb 100 true zp (m7 L) (lA 0 :: rest) KN σ = onOk (rQ n "_law_leaf" [iV 0] σ) fun v σ => zv v fun p => xs (rQ n) Gb 99 true zp (ua L [p]) rest KN σ := by kernel_rfl
theorem Tp (v : Int) (K : PyData → St → Out) (σ : St) (h : z0 v = true) : zl .Mult (iV v) (iV 7) (fun v σ => zl .Add v (iV 2) (fun v σ => zv v fun d => K d σ) σ) σ = K (.int (v * 7 + 2)) σ := by
 show chk (z0 v && z0 7) (K (.int (v * 7 + 2)) σ) = _
 refine h.symm ▸ (xg (i := 7) (by decide) (by decide) ..).symm ▸ ?_; rfl
theorem w4 {c : Int} {l : Int} (R : Rw r) (hn : 400 ≤ n) (hl : ls.length ≤ 63) (KN : KR) (σ : St) :
  xs (rQ (n + 8)) Gb 96 true zp (Lq (ls.map .int) P num op e c md t l (r.map za) h) [t6, lA 5] KN σ = .ok (dV (.bool true)) σ := by
 obtain hL : (ls.map PyData.int).length = ls.length := length_map ..
 obtain hc : (zk ls (some 10) (some 14)).length ≤ 63 := Nat.le_trans ei hl
 obtain hC : ((zk ls (some 10) (some 14)).map PyData.int).length = (zk ls (some 10) (some 14)).length := length_map ..
 rw [fk, Uv, eg, zJ (n := (ls.map PyData.int).length) (by lia), zB, zJ (by lia), zB, zB, ej]
 cases hem : (zk ls (some 10) (some 14)).isEmpty with
 | false =>
  rw [Bool.not_false, cond_true]
  refine zd (ed (n := n) (L := ls.map .int) (P := P) (op := op) (c := c) (md := md) (t := t) (l := l) (h := h) R hn (fun ρ' => xs (rQ (n + 8)) Gb 95 true zp ρ' [lA 5] KN) σ (zk ls (some 10) (some 14)) num e) fun ρ ee => ?_
  exact ee.trans (fw (n + 8) ρ KN σ)
 | true =>
  rw [Bool.not_true, cond_false, y8 (by lia), hL, Tp _ _ _ (xg (by lia) (by lia))]
  generalize ((ls.length : Nat) : Int) * 7 + 2 = z
  refine zd (ed (n := n) (L := ls.map .int) (P := P) (op := op) (c := c) (md := md) (t := t) (l := l) (h := h) R hn (fun ρ' => xs (rQ (n + 8)) Gb 95 true zp ρ' [lA 5] KN) σ [z] num e) fun ρ ee => ?_
  exact ee.trans (fw (n + 8) ρ KN σ)
theorem Tq (K : Bool → St → Out) (σ : St) : zX .IsNot (dV .none) (dV .none) K σ = K false σ := rfl
theorem w3 {c : Int} (R : PtR 40 t lev r) (hn : 400 ≤ n) (hl : ls.length ≤ 63) (KN : KR) (σ : St) :
  xs (rQ (n + 8)) Gb 97 true zp (Lq (ls.map .int) P num op e c md t (lev : Nat) (r.map za) h) [rD, t6, lA 5] KN σ = .ok (dV (.bool true)) σ := by
 have hd := R.d.at (Nat.zero_le _) R.le
 obtain hlen := R.len
 refine zb (mQ (n := n) σ R.ok (by lia) (by lia)) fun u eu hu => ?_
 refine zb (mQ (n := n) (w := []) σ (fun t h => nomatch h) (by simp; exact Nat.le_trans (Nat.le_add_left ..) ‹_›) (by simp)) fun z ez hz => ?_
 obtain eu : rQ (n + 8) "_law_parsed" [dV (.list (r.map za))] σ = .ok (.dat u) σ := eu
 obtain ez : rQ (n + 8) "_law_parsed" [dV (.list [])] σ = .ok (.dat z) σ := ez
 obtain hzn : z = .none := by
  refine xL hz (fun hz => ?_) fun hz _ => ?_
  ·obtain this := hz.pos; simp at this
  ·exact hz
 obtain hut : u = t := by
  refine xL hu (fun hu => ?_) fun _ hu => ?_
  ·exact hu.uniq hd (by lia)
  ·exact absurd hd (hu _)
 subst hzn hut
 obtain ⟨s1, s2⟩ := hd.shaped R.ok (by lia)
 refine zd (hd.tuple) fun ts W0 => ?_
 obtain rfl := W0
 rw [tO, Uu, eu, xV, fX s1 s2, cond_false, ez, xV, Tq, cond_false, cond_false, pe]
 exact w4 ⟨R.ok, hd.pos, R.len⟩ hn hl KN σ
theorem w2 {c : Int} (hP : ∀ p ∈ P, Pt 40 p) (hne : P ≠ []) (hn : 400 ≤ n) (hl : ls.length ≤ 63) (KN : KR) (σ : St) :
  xs (rQ (n + 8)) Gb 98 true zp (Lr (ls.map .int) P num op e c md) [pm, rD, t6, lA 5] KN σ = .ok (dV (.bool true)) σ := by
 refine yJ (hP _ (List.getLast_mem hne)) fun t lev r x ep R => ?_
 obtain el : P.getLast? = some (zn t lev (r.map za) x) := by rw [List.getLast?_eq_some_getLast hne, ep]
 rw [rB _ _ _ _ _ _ _ _ _ _ _ _ _ Ur Us, Uq, uT (qW el) (by lia) (by lia), x9, Ut, rC]
 exact w3 R hn hl KN σ
theorem w1 (hp : Pt 40 p) (hl : ls.length ≤ 63) (KN : KR) (σ : St) :
  xs (rQ 600) Gb 99 true zp (ua (ls.map .int) [p]) [Tn, pm, rD, t6, lA 5] KN σ = .ok (dV (.bool true)) σ := by
 obtain hL : (ls.map PyData.int).length = ls.length := length_map ..
 obtain hc : (zk ls none (some 10)).length ≤ 63 := Nat.le_trans ei hl
 obtain hC : ((zk ls none (some 10)).map PyData.int).length = (zk ls none (some 10)).length := length_map ..
 obtain go : ∀ nums : List Int, nums ≠ [] → nums.length ≤ 63 → uW 600 (nums.map .int) (ua (ls.map .int) [p]) (fun ρ' => xs (rQ 600) Gb 98 true zp ρ' [pm, rD, t6, lA 5] KN) σ = .ok (dV (.bool true)) σ := fun nums h1 h2 => by
  refine pD (U1 (n := 595) (L := ls.map .int) (fun ρ' => xs (rQ 600) Gb 98 true zp ρ' [pm, rD, t6, lA 5] KN) σ nums [p] h1 (fun q hq => by rw [mem_singleton.mp hq]; exact hp) (by simp) (by simp; lia)) fun P' num' op' e' c' md' g1 g2 g3 g4 => ?_
  exact g4.trans (w2 (n := 592) g1 g2 (by lia) hl KN σ)
 rw [fk, Ul, eg, zJ (n := (ls.map PyData.int).length) (by lia), zB, zJ (by lia), zB, zB, ej]
 cases hem : (zk ls none (some 10)).isEmpty with
 | false =>
  rw [Bool.not_false, cond_true]
  exact go _ (fun q => by rw [q] at hem; exact ff hem.symm) hc
 | true =>
  rw [Bool.not_true, cond_false]
  exact go [4, 31, 9] (by trivial) (by trivial)
theorem Tr (l : List Int) (h : l.length ≤ 63) : hW l := by
 show xs (rQ 600) Gb 100 true zp (m7 (l.map .int)) m6 K0 [] = .ok (dV (.bool true)) []
 refine zb (mX 599 0 (by lia) (by lia) []) fun p ep hp => ?_
 refine yJ (hp) fun t lev row x W0 R => ?_
 obtain rfl := W0
 obtain ep : rQ 600 "_law_leaf" [iV 0] [] = .ok (dV (zn t lev (row.map za) x)) [] := ep
 rw [Ue, To, ep, xV, x9]
 exact w1 ⟨t, lev, row, x, rfl, R.le, R.d, R.ok, by obtain this := R.len; exact Nat.le_trans ‹_› (by decide)⟩ h K0 []
end Mine
end
section
open PySem PySem.W PyProof.Rows PySem.Calls PySem.Spec
set_option maxRecDepth 100000
namespace Mine
section
local macro_rules | `(tactic| k_qdec) => `(tactic| decide +kernel)
set_option tactic.hygienic true in
set_option maxHeartbeats 0 in
theorem law_holds : PySem.Challenge.rw_jk0033_01.Holds := by
 w_on
 refine holds_law eC fun said => ?_
 refine holds_open (q := vw) (loose := rN) (Xt := rO) (XP := XL vw []) (Yf := wq.obs) (Ya := wq.val) (YP := wq.says) (N := 3240)
  left wq.of wq.keeps (fun s e => xl_of s (Bool.and_eq_true_iff.mp e).1) XL.keeps (by rfl) (by rfl) (by rfl)
  (fun s e => recFacts_of (Bool.and_eq_true_iff.mp e).2) (by rfl) (by first | assumption | decide +kernel) (by decide +kernel) ⟨rfl, rfl, rfl, rfl, rfl, by decide +kernel⟩ ?hw ?hc
 case hw => w_witness2
 case hc =>
  clear said
  k_go0
  rename (kk.heap_1 _).In _ => KX
  rename Top _ _ _ _ _ _ => T
  rename Heap.CodeRec _ _ _ => hcd
  rename Reads _ _ (PyData.list _) _ => r0
  rename ¬ _ => hlen
  rename Fr _ _ _ _ => F
  rename _ = #[] => hg
  obtain ⟨c, oc, vs, tq, hc1, hc2, hc3, _⟩ := hcd
  cases hc1
  refine Y4 ⟨KX, _, _, topRead_of T⟩ (by kernel_rfl) (by kernel_rfl) rfl F rfl r0 hc2 hc3 rfl (Tr _ (by (first | lia | omega))) fun s' es ks => ?_
  refine ⟨.inl ⟨.bool true, .bool true, [], rfl, ?_, .bool true, ?_, ?_⟩, ks, ?_, ?_⟩
  ·intro cls; first | rfl | kernel_rfl | exact raisesW_false (by intro x hx; cases hx) cls
  ·first | rfl | kernel_rfl
  ·exact fun _ => ⟨nodup_nil, fun a h => nomatch h⟩
  ·rw [es]
  ·rw [es]; exact hg
end
end Mine
end
theorem PySem.Challenge.cw_jk0033_01_holds : PySem.Challenge.rw_jk0033_01.Holds := by
  exact Mine.law_holds

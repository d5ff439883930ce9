import PyProof.Rows.All
import KE.KAnyBase
import KE.KDictIter
import KE.KDictList
import KE.KDictObj
import KE.KIsNot
import KE.KPar
import KE.KxPercent
import KE.KSuper
import Lean
import PySem.Challenge.RW_te0054_01
set_option tactic.hygienic false
set_option maxRecDepth 100000
set_option linter.all false
set_option Elab.async false
set_option maxHeartbeats 4000000
open PySem PySem.W PySem.Spec PySem.Calls PyProof.Rows
namespace Mine.Internal
noncomputable abbrev cV := Str -> Option Value
noncomputable abbrev cY := Value -> Shared -> Prop
variable {E : cY} {b : Bool} {v : Value} {Er : cY} {i : Int} {qual : Str} {eW : Value} {dV : Value} {apos : Pos} {dx : Addr} {Cl : Addr} {fI : Addr} {np : Pos} {kvs : List (Int × Value)} {cp : Pos} {ka : Addr} {ko : Obj} {j : Int} {p3 : Pos}
section
variable {α : Sort _} {β : Sort _} {γ : Sort _} {δ : Sort _} {ε : Sort _} {ζ : Sort _} {η : Sort _} {θ : Sort _} {κ : Sort _} {R : Prop}
theorem qA {A B C : Prop} (h : A /\ B /\ C) (f : A -> B -> C -> R) : R := f h.1 h.2.1 h.2.2
theorem Ht {A B C D : Prop} (h : A /\ B /\ C /\ D) (f : A -> B -> C -> D -> R) : R := f h.1 h.2.1 h.2.2.1 h.2.2.2
theorem IL {A B C D E : Prop} (h : A /\ B /\ C /\ D /\ E) (f : A -> B -> C -> D -> E -> R) : R := f h.1 h.2.1 h.2.2.1 h.2.2.2.1 h.2.2.2.2
theorem AJ {A B C D E F G H I J : Prop} (h : A /\ B /\ C /\ D /\ E /\ F /\ G /\ H /\ I /\ J) (f : A -> B -> C -> D -> E -> F -> G -> H -> I -> J -> R) : R := f h.1 h.2.1 h.2.2.1 h.2.2.2.1 h.2.2.2.2.1 h.2.2.2.2.2.1 h.2.2.2.2.2.2.1 h.2.2.2.2.2.2.2.1 h.2.2.2.2.2.2.2.2.1 h.2.2.2.2.2.2.2.2.2
theorem aR {A B : α -> Prop} (h : ∃ x, A x /\ B x) (f : ∀ x, A x -> B x -> R) : R := h.elim fun x h => f x h.1 h.2
theorem fO {A B C : α -> Prop} (h : ∃ x, A x /\ B x /\ C x) (f : ∀ x, A x -> B x -> C x -> R) : R := h.elim fun x h => f x h.1 h.2.1 h.2.2
theorem Ut {A B C D : α -> Prop} (h : ∃ x, A x /\ B x /\ C x /\ D x) (f : ∀ x, A x -> B x -> C x -> D x -> R) : R := h.elim fun x h => f x h.1 h.2.1 h.2.2.1 h.2.2.2
theorem Xc {A B C D E : α -> Prop} (h : ∃ x, A x /\ B x /\ C x /\ D x /\ E x) (f : ∀ x, A x -> B x -> C x -> D x -> E x -> R) : R := h.elim fun x h => f x h.1 h.2.1 h.2.2.1 h.2.2.2.1 h.2.2.2.2
theorem Cr {A : α -> β -> Prop} (h : ∃ x y, A x y) (f : ∀ x y, A x y -> R) : R := h.elim fun x h => h.elim fun y h => f x y h
theorem Pd {A B : α -> β -> Prop} (h : ∃ x y, A x y /\ B x y) (f : ∀ x y, A x y -> B x y -> R) : R := h.elim fun x h => h.elim fun y h => f x y h.1 h.2
theorem pT {A B C : α -> β -> Prop} (h : ∃ x y, A x y /\ B x y /\ C x y) (f : ∀ x y, A x y -> B x y -> C x y -> R) : R := h.elim fun x h => h.elim fun y h => f x y h.1 h.2.1 h.2.2
theorem Pf {A B C D : α -> β -> Prop} (h : ∃ x y, A x y /\ B x y /\ C x y /\ D x y) (f : ∀ x y, A x y -> B x y -> C x y -> D x y -> R) : R := h.elim fun x h => h.elim fun y h => f x y h.1 h.2.1 h.2.2.1 h.2.2.2
theorem IZ {A B C D E : α -> β -> Prop} (h : ∃ x y, A x y /\ B x y /\ C x y /\ D x y /\ E x y) (f : ∀ x y, A x y -> B x y -> C x y -> D x y -> E x y -> R) : R := h.elim fun x h => h.elim fun y h => f x y h.1 h.2.1 h.2.2.1 h.2.2.2.1 h.2.2.2.2
theorem DV {A B C D E F : α -> β -> Prop} (h : ∃ x y, A x y /\ B x y /\ C x y /\ D x y /\ E x y /\ F x y) (f : ∀ x y, A x y -> B x y -> C x y -> D x y -> E x y -> F x y -> R) : R := h.elim fun x h => h.elim fun y h => f x y h.1 h.2.1 h.2.2.1 h.2.2.2.1 h.2.2.2.2.1 h.2.2.2.2.2
theorem CO {A : α -> β -> γ -> Prop} (h : ∃ x y z, A x y z) (f : ∀ x y z, A x y z -> R) : R := h.elim fun x h => h.elim fun y h => h.elim fun z h => f x y z h
theorem wZ {A B : α -> β -> γ -> Prop} (h : ∃ x y z, A x y z /\ B x y z) (f : ∀ x y z, A x y z -> B x y z -> R) : R := h.elim fun x h => h.elim fun y h => h.elim fun z h => f x y z h.1 h.2
theorem Pt {A B C : α -> β -> γ -> Prop} (h : ∃ x y z, A x y z /\ B x y z /\ C x y z) (f : ∀ x y z, A x y z -> B x y z -> C x y z -> R) : R := h.elim fun x h => h.elim fun y h => h.elim fun z h => f x y z h.1 h.2.1 h.2.2
theorem EB {A B C D : α -> β -> γ -> Prop} (h : ∃ x y z, A x y z /\ B x y z /\ C x y z /\ D x y z) (f : ∀ x y z, A x y z -> B x y z -> C x y z -> D x y z -> R) : R := h.elim fun x h => h.elim fun y h => h.elim fun z h => f x y z h.1 h.2.1 h.2.2.1 h.2.2.2
theorem Mj {A B C D E : α -> β -> γ -> Prop} (h : ∃ x y z, A x y z /\ B x y z /\ C x y z /\ D x y z /\ E x y z) (f : ∀ x y z, A x y z -> B x y z -> C x y z -> D x y z -> E x y z -> R) : R := h.elim fun x h => h.elim fun y h => h.elim fun z h => f x y z h.1 h.2.1 h.2.2.1 h.2.2.2.1 h.2.2.2.2
theorem Vc {A : α -> β -> γ -> δ -> Prop} (h : ∃ x y z u, A x y z u) (f : ∀ x y z u, A x y z u -> R) : R := h.elim fun x h => h.elim fun y h => h.elim fun z h => h.elim fun u h => f x y z u h
theorem IT {A B C : α -> β -> γ -> δ -> Prop} (h : ∃ x y z u, A x y z u /\ B x y z u /\ C x y z u) (f : ∀ x y z u, A x y z u -> B x y z u -> C x y z u -> R) : R := h.elim fun x h => h.elim fun y h => h.elim fun z h => h.elim fun u h => f x y z u h.1 h.2.1 h.2.2
theorem GQ {A B C D E F : α -> β -> γ -> δ -> Prop} (h : ∃ x y z u, A x y z u /\ B x y z u /\ C x y z u /\ D x y z u /\ E x y z u /\ F x y z u) (f : ∀ x y z u, A x y z u -> B x y z u -> C x y z u -> D x y z u -> E x y z u -> F x y z u -> R) : R := h.elim fun x h => h.elim fun y h => h.elim fun z h => h.elim fun u h => f x y z u h.1 h.2.1 h.2.2.1 h.2.2.2.1 h.2.2.2.2.1 h.2.2.2.2.2
theorem Df {A B C D : α -> β -> γ -> δ -> ε -> Prop} (h : ∃ x y z u v, A x y z u v /\ B x y z u v /\ C x y z u v /\ D x y z u v) (f : ∀ x y z u v, A x y z u v -> B x y z u v -> C x y z u v -> D x y z u v -> R) : R := h.elim fun x h => h.elim fun y h => h.elim fun z h => h.elim fun u h => h.elim fun v h => f x y z u v h.1 h.2.1 h.2.2.1 h.2.2.2
theorem KJ {A B C D E F G H : α -> β -> γ -> δ -> ε -> Prop} (h : ∃ x y z u v, A x y z u v /\ B x y z u v /\ C x y z u v /\ D x y z u v /\ E x y z u v /\ F x y z u v /\ G x y z u v /\ H x y z u v) (f : ∀ x y z u v, A x y z u v -> B x y z u v -> C x y z u v -> D x y z u v -> E x y z u v -> F x y z u v -> G x y z u v -> H x y z u v -> R) : R := h.elim fun x h => h.elim fun y h => h.elim fun z h => h.elim fun u h => h.elim fun v h => f x y z u v h.1 h.2.1 h.2.2.1 h.2.2.2.1 h.2.2.2.2.1 h.2.2.2.2.2.1 h.2.2.2.2.2.2.1 h.2.2.2.2.2.2.2
theorem fL {A B C : Prop} (a : A) (b : B) (c : C) : A /\ B /\ C := ⟨a, b, c⟩
theorem II {A B C D : Prop} (a : A) (b : B) (c : C) (d : D) : A /\ B /\ C /\ D := ⟨a, b, c, d⟩
theorem eO {A B : α -> Prop} (x : α) (a : A x) (b : B x) : ∃ x, A x /\ B x := ⟨x, a, b⟩
theorem nF {A B C : α -> Prop} (x : α) (a : A x) (b : B x) (c : C x) : ∃ x, A x /\ B x /\ C x := ⟨x, a, b, c⟩
theorem KY {A B C D : α -> Prop} (x : α) (a : A x) (b : B x) (c : C x) (d : D x) : ∃ x, A x /\ B x /\ C x /\ D x := ⟨x, a, b, c, d⟩
theorem IK {A : α -> β -> Prop} (x : α) (y : β) (a : A x y) : ∃ x y, A x y := ⟨x, y, a⟩
theorem GS {A B : α -> β -> Prop} (x : α) (y : β) (a : A x y) (b : B x y) : ∃ x y, A x y /\ B x y := ⟨x, y, a, b⟩
theorem pO {A B C : α -> β -> Prop} (x : α) (y : β) (a : A x y) (b : B x y) (c : C x y) : ∃ x y, A x y /\ B x y /\ C x y := ⟨x, y, a, b, c⟩
theorem Zv {A B C D : α -> β -> Prop} (x : α) (y : β) (a : A x y) (b : B x y) (c : C x y) (d : D x y) : ∃ x y, A x y /\ B x y /\ C x y /\ D x y := ⟨x, y, a, b, c, d⟩
theorem Wv {A B C D E : α -> β -> Prop} (x : α) (y : β) (a : A x y) (b : B x y) (c : C x y) (d : D x y) (e : E x y) : ∃ x y, A x y /\ B x y /\ C x y /\ D x y /\ E x y := ⟨x, y, a, b, c, d, e⟩
theorem zS {A B C D E F : α -> β -> Prop} (x : α) (y : β) (a : A x y) (b : B x y) (c : C x y) (d : D x y) (e : E x y) (f : F x y) : ∃ x y, A x y /\ B x y /\ C x y /\ D x y /\ E x y /\ F x y := ⟨x, y, a, b, c, d, e, f⟩
theorem KV {A : α -> β -> γ -> Prop} (x : α) (y : β) (z : γ) (a : A x y z) : ∃ x y z, A x y z := ⟨x, y, z, a⟩
theorem La {A B : α -> β -> γ -> Prop} (x : α) (y : β) (z : γ) (a : A x y z) (b : B x y z) : ∃ x y z, A x y z /\ B x y z := ⟨x, y, z, a, b⟩
theorem Vp {A B C : α -> β -> γ -> Prop} (x : α) (y : β) (z : γ) (a : A x y z) (b : B x y z) (c : C x y z) : ∃ x y z, A x y z /\ B x y z /\ C x y z := ⟨x, y, z, a, b, c⟩
theorem EG {A B C D : α -> β -> γ -> Prop} (x : α) (y : β) (z : γ) (a : A x y z) (b : B x y z) (c : C x y z) (d : D x y z) : ∃ x y z, A x y z /\ B x y z /\ C x y z /\ D x y z := ⟨x, y, z, a, b, c, d⟩
theorem Vu {A B C D E : α -> β -> γ -> Prop} (x : α) (y : β) (z : γ) (a : A x y z) (b : B x y z) (c : C x y z) (d : D x y z) (e : E x y z) : ∃ x y z, A x y z /\ B x y z /\ C x y z /\ D x y z /\ E x y z := ⟨x, y, z, a, b, c, d, e⟩
theorem HM {A B C D : α -> β -> γ -> δ -> Prop} (x : α) (y : β) (z : γ) (u : δ) (a : A x y z u) (b : B x y z u) (c : C x y z u) (d : D x y z u) : ∃ x y z u, A x y z u /\ B x y z u /\ C x y z u /\ D x y z u := ⟨x, y, z, u, a, b, c, d⟩
theorem BV {A B C D E F : α -> β -> γ -> δ -> Prop} (x : α) (y : β) (z : γ) (u : δ) (a : A x y z u) (b : B x y z u) (c : C x y z u) (d : D x y z u) (e : E x y z u) (f : F x y z u) : ∃ x y z u, A x y z u /\ B x y z u /\ C x y z u /\ D x y z u /\ E x y z u /\ F x y z u := ⟨x, y, z, u, a, b, c, d, e, f⟩
theorem GH {A B C D E F G H I : α -> β -> γ -> δ -> Prop} (x : α) (y : β) (z : γ) (u : δ) (a : A x y z u) (b : B x y z u) (c : C x y z u) (d : D x y z u) (e : E x y z u) (f : F x y z u) (g : G x y z u) (h : H x y z u) (i : I x y z u) : ∃ x y z u, A x y z u /\ B x y z u /\ C x y z u /\ D x y z u /\ E x y z u /\ F x y z u /\ G x y z u /\ H x y z u /\ I x y z u := ⟨x, y, z, u, a, b, c, d, e, f, g, h, i⟩
theorem lP {A B C D : α -> β -> γ -> δ -> ε -> Prop} (x : α) (y : β) (z : γ) (u : δ) (v : ε) (a : A x y z u v) (b : B x y z u v) (c : C x y z u v) (d : D x y z u v) : ∃ x y z u v, A x y z u v /\ B x y z u v /\ C x y z u v /\ D x y z u v := ⟨x, y, z, u, v, a, b, c, d⟩
theorem KO {A B C D E F G H : α -> β -> γ -> δ -> ε -> Prop} (x : α) (y : β) (z : γ) (u : δ) (v : ε) (a : A x y z u v) (b : B x y z u v) (c : C x y z u v) (d : D x y z u v) (e : E x y z u v) (f : F x y z u v) (g : G x y z u v) (h : H x y z u v) : ∃ x y z u v, A x y z u v /\ B x y z u v /\ C x y z u v /\ D x y z u v /\ E x y z u v /\ F x y z u v /\ G x y z u v /\ H x y z u v := ⟨x, y, z, u, v, a, b, c, d, e, f, g, h⟩
theorem CE {A B C D E F G H I J : α -> β -> γ -> δ -> ε -> ζ -> η -> θ -> κ -> Prop} (x : α) (y : β) (z : γ) (u : δ) (v : ε) (s : ζ) (t : η) (w : θ) (p : κ) (a : A x y z u v s t w p) (b : B x y z u v s t w p) (c : C x y z u v s t w p) (d : D x y z u v s t w p) (e : E x y z u v s t w p) (f : F x y z u v s t w p) (g : G x y z u v s t w p) (h : H x y z u v s t w p) (i : I x y z u v s t w p) (j : J x y z u v s t w p) : ∃ x y z u v s t w p, A x y z u v s t w p /\ B x y z u v s t w p /\ C x y z u v s t w p /\ D x y z u v s t w p /\ E x y z u v s t w p /\ F x y z u v s t w p /\ G x y z u v s t w p /\ H x y z u v s t w p /\ I x y z u v s t w p /\ J x y z u v s t w p := ⟨x, y, z, u, v, s, t, w, p, a, b, c, d, e, f, g, h, i, j⟩
end
section
open Sem (wp)
noncomputable def cD {α : Type} : Sem α -> Prop
 | .pure _ => True
 | .raise _ => True
 | .unsupported _ => True
 | .finish _ => True
 | .rule _ k => cD (k ())
 | .at _ k => cD (k ())
 | .load _ _ k => ∀ o, cD (k o)
 | .update _ _ f k => (∀ o, (f o).dict = o.dict) /\ cD (k ())
 | .loadIfAlive _ k => ∀ o, cD (k o)
 | .point _ k => cD (k ())
 | .alloc _ k => ∀ a, cD (k a)
 | .fresh k => ∀ t, cD (k t)
 | .ask k => ∀ x, cD (k x)
 | .stack k => ∀ x, cD (k x)
 | .handled _ k => ∀ x, cD (k x)
 | _ => False
theorem cD.bind {α β : Type} {f : α -> Sem β} (hf : ∀ a, cD (f a)) {m : Sem α} (h : cD m) : cD (m.bind f) := by
 induction m with
 | pure a => exact hf a
 | raise | unsupported | finish => trivial
 | rule _ k ih => exact ih () h
 | «at» _ k ih => exact ih () h
 | point _ k ih => exact ih () h
 | update _ _ f k ih => exact ⟨h.1, ih () h.2⟩
 | load _ _ k ih => exact fun o => ih o (h o)
 | loadIfAlive _ k ih => exact fun o => ih o (h o)
 | alloc _ k ih => exact fun o => ih o (h o)
 | fresh k ih => exact fun o => ih o (h o)
 | ask k ih => exact fun o => ih o (h o)
 | stack k ih => exact fun o => ih o (h o)
 | handled _ k ih => exact fun o => ih o (h o)
 | _ => exact h.elim
def BA (h h' : Heap) : Prop := ∀ b o, h.get? b = some o -> ∃ o', h'.get? b = some o' /\ o'.dict = o.dict
def BD (h h' : Heap) : Prop := ∀ b o o', h.get? b = some o -> h'.get? b = some o' -> o'.dict = o.dict
def cP (e : Addr) (d : Option Addr) (h : Heap) : Prop := ∃ o, h.objs[e]? = some o /\ o.dict = d
theorem cP.update {e : Addr} {d : Option Addr} {h : Heap} (x : cP e d h) {a : Addr} {f : Obj -> Obj} (hf : ∀ o, (f o).dict = o.dict) : cP e d (h.update a f) := by
 refine aR x fun o ho hd => ?_
 by_cases q : a = e
 ·subst q;refine ⟨f o, ?_, (hf o).trans hd⟩;show (h.objs.modify a f)[a]? = _;rw [Array.getElem?_modify, if_pos rfl, ho]; rfl
 ·refine ⟨o, ?_, hd⟩;show (h.objs.modify a f)[e]? = _;rw [Array.getElem?_modify, if_neg q]; exact ho
theorem cP.push {e : Addr} {d : Option Addr} {h : Heap} (x : cP e d h) (o : Obj) : cP e d (h.push o) := by
 refine aR x fun o' ho hd => ?_;refine ⟨o', ?_, hd⟩;show (h.objs.push o)[e]? = _;rw [Array.getElem?_push]
 split
 ·rename_i q
  rw [q, Array.getElem?_eq_none (Nat.le_refl _)] at ho; cases ho
 ·exact ho
theorem cP.of_get {e : Addr} {d : Option Addr} {h : Heap} {o : Obj} (ho : h.get? e = some o) (hd : o.dict = d) : cP e d h := by
 exact ⟨o, (Heap.get?_some_iff.mp ho).1, hd⟩
theorem cP.get {e : Addr} {d : Option Addr} {h : Heap} (x : cP e d h) {o : Obj} (ho : h.get? e = some o) : o.dict = d := by
 refine aR x fun o' h1 h2 => ?_;refine aR (cP.of_get ho rfl) fun UY h3 h4 => ?_;rw [h1] at h3; cases h3;exact h4.symm.trans h2
theorem Sm {α : Type} {M : Model} {Γ : PySem.Ctx} {e : Addr} {d : Option Addr} {Q : α -> Pos -> Shared -> Prop} {E : Value -> Pos -> Shared -> Prop} {t : Sem α} : ∀ {p : Pos} {s : Shared}, cD t -> cP e d s.heap -> wp M Γ t Q E p s ->
  wp M Γ t (fun a p s' => Q a p s' /\ cP e d s'.heap) (fun x p s' => E x p s' /\ cP e d s'.heap) p s := by
 induction t with
 | pure a => exact fun U x h => ⟨h, x⟩
 | raise a => exact fun U x h => ⟨h, x⟩
 | unsupported | finish => exact fun U U h => h.elim
 | rule _ k ih => exact fun S x h => ih () S x h
 | «at» _ k ih => exact fun S x h => ih () S x h
 | point _ k ih => exact fun S x h => ih () S x h
 | update _ _ f k ih => exact fun S x h => ⟨h.1, ih () S.2 (x.update S.1) h.2⟩
 | load _ _ k ih => exact fun S x h => let ⟨o, a, b⟩ := h; ⟨o, a, ih o (S o) x b⟩
 | loadIfAlive _ k ih => exact fun S x h => ih _ (S _) x h
 | alloc o k ih => exact fun S x h => ih _ (S _) (x.push o) h
 | fresh k ih => exact fun S x h => ih _ (S _) x h
 | ask k ih => exact fun S x h => ih _ (S _) x h
 | stack k ih => exact fun S x h => ih _ (S _) x h
 | handled _ k ih => exact fun S x h => ih _ (S _) x h
 | _ => exact fun S => S.elim
theorem Cq {α : Type} {M : Model} {A : Around} {e : Addr} {d : Option Addr} {Q : α -> Shared -> Prop} {t : Sem α} {s : Shared} (S : cD t) (x : cP e d s.heap) (h : wpAny M A t Q E s) :
  wpAny M A t (fun a s' => Q a s' /\ cP e d s'.heap) (fun v s' => E v s' /\ cP e d s'.heap) s := fun Γ p SQ => Sm S x (h Γ p SQ)
theorem jE (v : Value) (i : Nat) : cD (field v i) := by
 induction v <;> try trivial
 intro o;show cD (Sem.bind (match o.data with | .fields vs => Pure.pure vs | _ => unsupported "internal:no-fields") _)
 refine cD.bind (fun vs => ?_) ?_
 ·show cD (match vs[i]? with | some x => Pure.pure x | none => unsupported "internal:no-such-field")
  cases vs[i]? <;> trivial
 ·generalize o.data = d;cases d <;> trivial
theorem sJ (f : Array Value -> Array Value) (o : Obj) : (Obj.mapFields f o).dict = o.dict := by
 obtain ⟨c, d, da, s⟩ := o;induction da <;> rfl
theorem cD.ite {α : Type} {c : Prop} [Decidable c] {a b : Sem α} (ha : cD a) (hb : cD b) : cD (if c then a else b) := by split <;> assumption
theorem kK (v : Value) (i : Nat) (x : Value) : cD (setField v i x) := by
 induction v <;> try trivial
 intro o;show cD (match o.data with | .fields vs => if i < vs.size then update _ (Obj.mapFields (·.setIfInBounds i x)) else unsupported "internal:no-such-field" | _ => unsupported "internal:write-to-non-record")
 generalize o.data = d;cases d with
 | fields vs => exact cD.ite ⟨fun o => sJ _ o, trivial⟩ trivial
 | _ => trivial
theorem gP (v : Value) (f : Option Addr) : cD (setFlight v f) := by
 unfold setFlight;refine cD.bind (fun a => ?_) (jE v 1)
 split
 ·exact kK _ _ _
 ·trivial
theorem vB (env : Env) (i : Bool) (l : List Env) : cD (keptBack env i l) := by
 induction l with
 | nil =>
  unfold keptBack;refine cD.ite trivial ?_;exact fun x => trivial
 | cons c r => unfold keptBack; trivial
theorem mR (env : Env) (l : List Env) : cD (behindIsImport env l) := by
 unfold behindIsImport;refine cD.ite trivial (cD.ite trivial ?_);exact cD.bind (f := fun x => Pure.pure (x == Value.none)) (fun U => trivial) (jE _ _)
theorem sN : ∀ l, cD (readyFrames l)
 | [] => trivial
 | env :: outer => by
  unfold readyFrames;cases env.frame with
  | none => trivial
  | some f =>
   intro o;refine cD.ite trivial ?_;refine cD.bind (fun i => ?_) (mR env outer);refine cD.bind (fun b => ?_) (vB env i outer);refine ⟨fun o => rfl, ?_⟩;exact sN outer
theorem xR (env : Env) : cD (PySem.frameOf env) := by
 unfold PySem.frameOf;refine cD.bind (fun l => ?_) (fun x => trivial);refine cD.bind (fun r => ?_) ?_
 ·induction r <;> trivial
 ·generalize l.dropWhile _ = l';induction l' with
  | nil => trivial
  | cons e r => exact cD.bind (f := fun U => Pure.pure (e.frame.map Value.ref)) (fun U => trivial) (sN _)
theorem tO (ty : String) (vs : List Value) : cD (newFields ty vs) := by
 unfold newFields newObj;refine cD.ite trivial ?_;exact fun a => trivial
theorem nY (f : Addr) (b : Bool) : cD (entryPlaceOf f b) := by
 intro st;show cD (match st.find? (fun (c, _) => c.env?.bind (·.frame) == some f) with | some (_, pos) => _ | none => _)
 rcases st.find? _ with x | ⟨x, y⟩ <;> trivial
theorem jM (e : Value) (env : Env) : cD (noteFrame e env) := by
 unfold noteFrame;cases env.frame with
 | none => trivial
 | some f =>
  have tail : ∀ head, cD (do setField e 1 (← EntryCells.newEntry head (← PySem.frameOf env) .none (rawInt f) .none (← entryPlaceOf f (head != .none))) : Sem Unit) := fun head =>
   cD.bind (fun fr => cD.bind (fun pl => cD.bind (fun en => kK _ _ _) (tO _ _)) (nY _ _)) (xR env)
  refine cD.bind (fun head => ?_) (jE e 1);refine cD.ite ?_ (tail head);refine cD.bind (fun x => ?_) (jE head 3);show cD (if (x == rawInt f) = true then Pure.pure () else _);refine cD.ite trivial ?_;exact cD.bind (fun U => tail head) (kK head 3 .none)
theorem wX (env : Env) (e : Value) : cD (leaving env e) := cD.bind (fun U => gP e none) (jM e env)
end
section
open Sem (wp)
def HJ (base : Heap) (l : List Env) (e : Addr) (cls a0 : Value) (h : Heap) : Prop :=
 base.StaysIn h /\ base.get? e = none /\ h.FunFrames base l /\ ∃ oe vs, h.get? e = some oe /\ oe.cls = cls /\ oe.data = .fields vs /\ vs[0]? = some a0 /\ vs[1]? = some .none
def XW (base : Heap) (l : List Env) (e : Addr) (cls a0 : Value) (L : Addr) (h : Heap) : Prop :=
 Heap.FlyingW base l e cls a0 h \/ Heap.HeldW base l e cls a0 L h \/ HJ base l e cls a0 h
section
variable {M : Model} {A : Around} {s : Shared}
theorem sF {base : Heap} {env : Env} {outer : List Env} {L e : Addr} {cls a0 : Value} {Q : Unit -> Shared -> Prop}
  (Pp : A.frames = some (env :: outer)) (hf : env.frame = some L) (x : XW base (env :: outer) e cls a0 L s.heap)
  (hQ : ∀ h', Heap.HeldW base (env :: outer) e cls a0 L h' -> s.heap.UpToSlots h' -> Q () { s with heap := h' }) : wpAny M A (noteFrame (.ref e) env) Q E s := by
 rcases x with x | x | x
 ·exact wpAny_looks_onW Pp hf x hQ
 ·exact wpAny_noteFrame_againW hf x.2.2.2 (hQ s.heap x (.refl _))
 ·obtain ⟨HN, Zi, hl, oe, vs, he, rfl, hd, h0, h1⟩ := x;unfold noteFrame;simp only [hf];refine wpAny_bind (wpAny_field he hd h1 ?_);rw [if_neg (by decide)];exact wpAny_entryW Pp hl hf he HN Zi hd (Array.getElem?_eq_some_iff.mp h1).1 h0 fun h' ⟨k1, k2, k3, k4⟩ => hQ h' ⟨k1, Zi, k2, k3⟩ k4
theorem Hf {base : Heap} {l : List Env} {L e : Addr} {cls a0 : Value} {Q : Unit -> Shared -> Prop} (x : Heap.HeldW base l e cls a0 L s.heap)
  (hQ : ∀ h', Heap.HeldW base l e cls a0 L h' -> s.heap.UpToSlots h' -> Q () { s with heap := h' }) :
  wpAny M A (do
   if (← field (.ref e) 1) == .none then unsupported "frame.own-activation:exception-without-traceback"
   setFlight (.ref e) (some L)) Q E s := by
 obtain ⟨HN, Zi, hl, oe, vs, T, oT, ts, he, Ip, hd, h1, OH, NV, hT, FH, h3⟩ := x;have CI : 3 < ts.size := (Array.getElem?_eq_some_iff.mp h3).1;have other : ∀ b, b ≠ T -> (s.heap.update T (Obj.mapFields (·.setIfInBounds 3 ((some L).elim Value.none fun f => rawInt f)))).get? b = s.heap.get? b :=
  fun b hb => Heap.get?_update_other _ _ (Ne.symm hb)
 have zP : ∀ b o, s.heap.get? b = some o -> (∀ vs, o.data ≠ .fields vs) -> b ≠ T := fun b o hb DT q => by
  rw [q, hT] at hb; injection hb with hb; subst hb; exact DT ts FH
 refine wpAny_bind (wpAny_field he hd h1 ?_);rw [if_neg (by simp)];show wpAny M A (setFlight (.ref e) (some L)) Q E s;unfold setFlight;refine wpAny_bind (wpAny_field he hd h1 ?_);rw [if_pos (show (Value.ref T != Value.none) = true from by simp)];refine wpAny_setField hT FH CI (hQ _ ⟨fun b o HC => (other b fun q => by rw [q, OH] at HC; cases HC).trans (HN b o HC), Zi,
  hl.of_keeps fun b o hb DT => ⟨o, (other b (zP b o hb DT)).trans hb, rfl⟩, ?_⟩ fun b o hb DT => ⟨o.slots, (other b (zP b o hb DT)).trans hb⟩)
 exact ⟨oe, vs, T, _, _, (other e (Ne.symm NV)).trans he, Ip, hd, h1, OH, NV, Heap.get?_update_self _ hT (Obj.isFreed_of_fields (Obj.data_mapFields FH _)), Obj.data_mapFields FH _, by simp [CI]⟩
theorem Hq (v : Value) (f : Option Addr) : cD (do
   if (← field v 1) == .none then unsupported "frame.own-activation:exception-without-traceback"
   setFlight v f : Sem Unit) := by
 refine cD.bind (fun a => ?_) (jE v 1);refine cD.ite ?_ (gP v f);exact trivial
theorem gC {M : Model} {A : Around} {e : Addr} {d : Option Addr} {t : Sem Unit} {s : Shared} {P : Heap -> Prop} (S : cD t) (x : cP e d s.heap) (h : ∀ {Q : Unit -> Shared -> Prop}, (∀ h', P h' -> Q () { s with heap := h' }) -> wpAny M A t Q (fun U U => False) s) {T : Unit -> Shared -> Prop}
  (k : ∀ h', P h' -> cP e d h' -> T () { s with heap := h' }) : wpAny M A t T E s :=
 wpAny_mono (Cq S x (h (Q := fun U s' => ∃ h', s' = { s with heap := h' } /\ P h') fun h' p => ⟨h', rfl, p⟩)) (fun a s' z => by obtain ⟨⟨h', rfl, p⟩, hd⟩ := z; exact k h' p hd) fun U U z => z.1.elim
def xN (base : Heap) (l : List Env) (e L : Addr) (cls a0 : Value) (h h' : Heap) : Prop := Heap.HeldW base l e cls a0 L h' /\ h.UpToSlots h'
def yI (base : Heap) (l : List Env) (e : Addr) (cls a0 : Value) (h h' : Heap) : Prop := Heap.FlyingW base l e cls a0 h' /\ h.UpToSlots h'
end
end
section
set_option genInjectivity false
set_option genSizeOf false
noncomputable abbrev bB := List (Addr × Obj)
noncomputable abbrev St (s : Shared) (h : Heap) (t : Tok) : Shared := { s with heap := h, toks := t }
def Sub (G G' : bB) : Prop := ∀ p ∈ G, p ∈ G'
theorem Sub.refl (G : bB) : Sub G G := fun U z => z
theorem Sub.trans {G G' G2 : bB} (a : Sub G G') (b : Sub G' G2) : Sub G G2 := fun p h => b p (a p h)
inductive V where
 | none
 | bool (b : Bool)
 | int (i : Int)
 | str (s : Str)
 | glob (v : Value)
 | inst (C : Addr) (ns : List Str) (vs : List V)
 | tup (vs : List V)
 | lst (vs : List V)
 | self
 | toks
 | rC
 | rK
 deriving Inhabited
noncomputable abbrev V.sel {α : Type} (v : V) (d : α) (n : α := d) (b : Bool -> α := fun U => d) (i : Int -> α := fun U => d) (s : Str -> α := fun U => d) (g : Value -> α := fun U => d) (o : Addr -> List Str -> List V -> α := fun U U U => d) (t l : List V -> α := fun U => d) (k : α := d) : α :=
 @V.casesOn (fun U => α) v n b i s g o t l d k d d
structure bZ where
 aS : Addr
 dS : Addr
 aT : Addr
 aI : Addr
noncomputable abbrev mZ (vals : List Value) : Obj := { cls := .type "tuple", data := .seq vals.toArray }
class inductive eJ : List DictEntry -> List Str -> List Value -> Prop
 | nil : eJ [] [] []
 | cons {e : DictEntry} {es : List DictEntry} {n : Str} {ns : List Str} {vs : List Value} (t : Tok) (hk : e.key = .str n t) (r : eJ es ns vs) : eJ (e :: es) (n :: ns) (e.val :: vs)
mutual
inductive VR (ρ : bZ) (G : bB) : V -> Value -> Prop
 | none : VR ρ G .none .none
 | bool {b : _} : VR ρ G (.bool b) (.bool b)
 | int {i t : _} : VR ρ G (.int i) (.int i t)
 | str {s t : _} : VR ρ G (.str s) (.str s t)
 | glob {v : _} : VR ρ G (.glob v) v
 | inst {C x dx ns vs es n vals : _} : (x, instObj C dx) ∈ G -> (dx, dictOf es n) ∈ G -> eJ es ns vals -> cA ρ G vs vals -> VR ρ G (.inst C ns vs) (.ref x)
 | An {C x dx ns vs es n vals ws sl : _} : (x, ({ cls := .ref C, dict := some dx, data := .fields ws, slots := sl } : Obj)) ∈ G -> (dx, dictOf es n) ∈ G -> eJ es ns vals -> cA ρ G vs vals -> VR ρ G (.inst C ns vs) (.ref x)
 | tup {a vs vals : _} : (a, mZ vals) ∈ G -> cA ρ G vs vals -> VR ρ G (.tup vs) (.ref a)
 | lst {a vs vals n : _} : (a, W.listOf vals.toArray n) ∈ G -> cA ρ G vs vals -> VR ρ G (.lst vs) (.ref a)
 | self : VR ρ G .self (.ref ρ.aS)
 | toks : VR ρ G .toks (.ref ρ.aT)
 | rC : VR ρ G .rC (.ref ρ.aI)
 | rK {v : _} : VR ρ G .rK v
inductive cA (ρ : bZ) (G : bB) : List V -> List Value -> Prop
 | nil : cA ρ G [] []
 | cons {v val vs vals : _} : VR ρ G v val -> cA ρ G vs vals -> cA ρ G (v :: vs) (val :: vals)
end
theorem VR.mono {ρ : bZ} {G G' : bB} (h : Sub G G') {v : V} {val : Value} (x : VR ρ G v val) : VR ρ G' v val :=
 VR.rec (motive_1 := fun v val U => VR ρ G' v val) (motive_2 := fun vs vals U => cA ρ G' vs vals) .none .bool .int .str .glob (fun a b c U d => .inst (h _ a) (h _ b) c d) (fun a b c U d => .An (h _ a) (h _ b) c d) (fun a U d => .tup (h _ a) d) (fun a U d => .lst (h _ a) d) .self .toks .rC .rK .nil (fun U U a b => .cons a b) x
inductive Wc (i : Int) : Value -> Prop
 | int {t : _} : Wc i (.int i t)
inductive Vw (x : Str) : Value -> Prop
 | str {t : _} : Vw x (.str x t)
inductive Aj (ρ : bZ) (G : bB) (C : Addr) (ns : List Str) (vs : List V) : Value -> Prop
 | inst {x dx es n vals : _} (h1 : (x, instObj C dx) ∈ G) (h2 : (dx, dictOf es n) ∈ G) (h3 : eJ es ns vals) (h4 : cA ρ G vs vals) : Aj ρ G C ns vs (.ref x)
 | An {x dx es n vals ws sl : _} (h1 : (x, ({ cls := .ref C, dict := some dx, data := .fields ws, slots := sl } : Obj)) ∈ G) (h2 : (dx, dictOf es n) ∈ G) (h3 : eJ es ns vals) (h4 : cA ρ G vs vals) : Aj ρ G C ns vs (.ref x)
inductive Vy (ρ : bZ) (G : bB) (vs : List V) : Value -> Prop
 | tup {a vals : _} (h1 : (a, mZ vals) ∈ G) (h2 : cA ρ G vs vals) : Vy ρ G vs (.ref a)
inductive Vs (ρ : bZ) (G : bB) (vs : List V) : Value -> Prop
 | lst {a vals n : _} (h1 : (a, W.listOf vals.toArray n) ∈ G) (h2 : cA ρ G vs vals) : Vs ρ G vs (.ref a)
inductive Hw (v : Value) : Value -> Prop
 | eq : Hw v v
def VO (ρ : bZ) (G : bB) (v : V) (val : Value) : Prop :=
 match v with
 | .none => Hw .none val
 | .bool b => Hw (.bool b) val
 | .int i => Wc i val
 | .str x => Vw x val
 | .glob v => Hw v val
 | .inst C ns vs => Aj ρ G C ns vs val
 | .tup vs => Vy ρ G vs val
 | .lst vs => Vs ρ G vs val
 | .self => Hw (.ref ρ.aS) val
 | .toks => Hw (.ref ρ.aT) val
 | .rC => Hw (.ref ρ.aI) val
 | .rK => True
theorem VR.out {ρ : bZ} {G : bB} {v : V} {val : Value} (h : VR ρ G v val) : VO ρ G v val :=
 VR.casesOn (motive_1 := fun v val U => VO ρ G v val) h Hw.eq Hw.eq Wc.int Vw.str Hw.eq (fun a b c d => Aj.inst a b c d) (fun a b c d => Aj.An a b c d) (fun a b => Vy.tup a b) (fun a b => Vs.lst a b) Hw.eq Hw.eq Hw.eq trivial
inductive CY : List Value -> Prop
 | nil : CY []
inductive Tt (ρ : bZ) (G : bB) (v : V) (vs : List V) : List Value -> Prop
 | cons {val vals : _} (a : VR ρ G v val) (b : cA ρ G vs vals) : Tt ρ G v vs (val :: vals)
def AP (ρ : bZ) (G : bB) (vs : List V) (vals : List Value) : Prop :=
 match vs with
 | [] => CY vals
 | v :: r => Tt ρ G v r vals
theorem cA.out {ρ : bZ} {G : bB} {vs : List V} {vals : List Value} (h : cA ρ G vs vals) : AP ρ G vs vals :=
 cA.casesOn (motive_2 := fun vs vals U => AP ρ G vs vals) h .nil fun a b => .cons a b
theorem cA.mono {ρ : bZ} {G G' : bB} (h : Sub G G') {vs : List V} {vals : List Value} (x : cA ρ G vs vals) : cA ρ G' vs vals := by
 induction vs generalizing vals with
 | nil => induction x.out; exact .nil
 | cons v vs ih => induction x.out with | cons a b => exact .cons (a.mono h) (ih b)
theorem cA.append {ρ : bZ} {G : bB} {vs : List V} {vals : List Value} {ws : List V} {CP : List Value} (a : cA ρ G vs vals) (b : cA ρ G ws CP) : cA ρ G (vs ++ ws) (vals ++ CP) := by
 induction vs generalizing vals with
 | nil => induction a.out; exact b
 | cons v vs ih => induction a.out with | cons x y => exact .cons x (ih y)
theorem cA.length {ρ : bZ} {G : bB} {vs : List V} {vals : List Value} (a : cA ρ G vs vals) : vals.length = vs.length := by
 induction vs generalizing vals with
 | nil => induction a.out; rfl
 | cons v vs ih => induction a.out with | cons x y => exact congrArg Nat.succ (ih y)
structure Sc where
 buf : Str
 ptr : Int
 index : Int
 line : Int
 col : Int
 done : Bool
 aA : Int
 tokens : List V
 taken : Int
 indent : Int
 aG : List Int
 allow : Bool
 keys : List (Int × V)
 cQ : Addr
 iW : Obj
noncomputable def aD : List Str := ["name", "stream", "stream_pointer", "eof", "buffer", "pointer", "raw_buffer", "raw_decode", "encoding", "index", "line", "column", "done", "flow_level", "tokens", "tokens_taken", "indent", "indents", "allow_simple_key", "possible_simple_keys"]
inductive LV where
 | un
 | val (v : V)
 | ml (vs : List V)
 | cell (c : Addr) (v : Option V)
 deriving Inhabited
noncomputable abbrev aF := List (Str × LV)
structure Gl where
 prog : Program
 w : World
 K : Frag
 p : Program
 loose : List Str
 Kq : ExcName -> Option Value
 mg : Str -> Option Value
 mb : Str -> Option Value
structure Cx where
 cn : Str
 cs : Scope
 L : Addr
 a : Addr
 Bu : Value
 cl : List (Str × Addr)
 h₀ : Heap
 base : Heap
 outer : List Env
 A₀ : Around
 A : Around
noncomputable def Cx.env (C : Cx) : Env := envX C.cn C.cs C.L C.a C.Bu C.cl
structure fM (g : Gl) (D : Nat) (C : Cx) : Prop where
 below : Below C.A₀ C.base C.outer C.h₀
 fK : g.K.In C.h₀
 top : Top g.p g.loose g.Kq g.mg g.mb C.h₀
 kind : C.cs.kind = .function
 frames : C.A.frames = some (C.env :: C.outer)
 dep : C.A.depth + D < recursionLimit
 CG : C.A.units + 8 * D < cLine
inductive uM (ρ : bZ) (G : bB) : Option V -> Option Value -> Prop
 | none : uM ρ G none none
 | some {v val : _} : VR ρ G v val -> uM ρ G (some v) (some val)
theorem uM.mono {ρ : bZ} {G G' : bB} (k : Sub G G') {v : Option V} {val : Option Value} (h : uM ρ G v val) : uM ρ G' v val := by
 induction h with
 | none => exact .none
 | some h => exact .some (h.mono k)
inductive Mk (ρ : bZ) (G : bB) (v : V) : Option Value -> Prop
 | some {val : _} (h : VR ρ G v val) : Mk ρ G v (some val)
inductive Kp : Option Value -> Prop
 | none : Kp none
def KR (ρ : bZ) (G : bB) (v : Option V) (ov : Option Value) : Prop :=
 match v with
 | none => Kp ov
 | some v => Mk ρ G v ov
theorem uM.out {ρ : bZ} {G : bB} {v : Option V} {ov : Option Value} (h : uM ρ G v ov) : KR ρ G v ov := by
 induction h with
 | none => exact .none
 | some a => exact .some a
inductive Xf : bB -> Prop
 | un : Xf []
inductive Od (ρ : bZ) (G : bB) (m : cV) (x : Str) (v : V) : bB -> Prop
 | val {val : _} (a : m x = some val) (b : VR ρ G v val) : Od ρ G m x v []
inductive Xv (ρ : bZ) (G : bB) (m : cV) (x : Str) (vs : List V) : bB -> Prop
 | ml {a n : _} {vals : List Value} (h1 : m x = some (.ref a)) (h2 : cA ρ G vs vals) : Xv ρ G m x vs [(a, W.listOf vals.toArray n)]
inductive Dj (ρ : bZ) (G : bB) (c : Addr) (v : Option V) : bB -> Prop
 | cell {ov : _} {o : Obj} (a : o.data = .cell ov) (b : uM ρ G v ov) : Dj ρ G c v [(c, o)]
def qS (ρ : bZ) (G : bB) (m : cV) (x : Str) (lv : LV) (o : bB) : Prop :=
 match lv with
 | .un => Xf o
 | .val v => Od ρ G m x v o
 | .ml vs => Xv ρ G m x vs o
 | .cell c v => Dj ρ G c v o
section
variable {ρ : bZ} {G : bB} {m : cV} {x : Str}
theorem qS.un : qS ρ G m x .un [] := Xf.un
theorem qS.val {v : V} {val : Value} (a : m x = some val) (b : VR ρ G v val) : qS ρ G m x (.val v) [] := Od.val a b
theorem qS.ml {vs : List V} {a : Addr} {n : Nat} {vals : List Value} (h1 : m x = some (.ref a)) (h2 : cA ρ G vs vals) : qS ρ G m x (.ml vs) [(a, W.listOf vals.toArray n)] := Xv.ml h1 h2
theorem qS.cell {c : Addr} {v : Option V} {ov : Option Value} {o : Obj} (a : o.data = .cell ov) (b : uM ρ G v ov) : qS ρ G m x (.cell c v) [(c, o)] := Dj.cell a b
theorem qS.out {lv : LV} {o : bB} (h : qS ρ G m x lv o) : qS ρ G m x lv o := h
end
class inductive bH (ρ : bZ) (G : bB) (m : cV) : aF -> bB -> Prop
 | nil : bH ρ G m [] []
 | cons {x lv r o os : _} (h : qS ρ G m x lv o) (k : bH ρ G m r os) : bH ρ G m ((x, lv) :: r) (o ++ os)
section
variable {ρ : bZ} {G : bB} {m : cV} {x : Str} {r : aF} {os : bB}
theorem bH.un (k : bH ρ G m r os) : bH ρ G m ((x, .un) :: r) os := .cons .un k
theorem bH.val {v : V} {val : Value} (a : m x = some val) (b : VR ρ G v val) (k : bH ρ G m r os) : bH ρ G m ((x, .val v) :: r) os := .cons (.val a b) k
theorem bH.ml {vs : List V} {a : Addr} {n : Nat} {vals : List Value} (h1 : m x = some (.ref a)) (h2 : cA ρ G vs vals) (k : bH ρ G m r os) : bH ρ G m ((x, .ml vs) :: r) ((a, W.listOf vals.toArray n) :: os) := .cons (.ml h1 h2) k
theorem bH.cell {c : Addr} {v : Option V} {ov : Option Value} {o : Obj} (a : o.data = .cell ov) (b : uM ρ G v ov) (k : bH ρ G m r os) : bH ρ G m ((x, .cell c v) :: r) ((c, o) :: os) := .cons (.cell a b) k
theorem qS.cons {lv : LV} {o : bB} (h : qS ρ G m x lv o) (k : bH ρ G m r os) : bH ρ G m ((x, lv) :: r) (o ++ os) := .cons h k
end
inductive PU (ρ : bZ) (G : bB) (m : cV) (x : Str) (lv : LV) (r : aF) (os : bB) : Prop
 | mk (o uU : bB) (e : os = o ++ uU) (h : qS ρ G m x lv o) (k : bH ρ G m r uU)
theorem bH.Jm {ρ : bZ} {G : bB} {m : cV} {x : Str} {lv : LV} {r : aF} {os : bB} (h : bH ρ G m ((x, lv) :: r) os) : PU ρ G m x lv r os := by
 cases h with
 | cons h k => exact ⟨_, _, rfl, h, k⟩
theorem bH.append {ρ : bZ} {G : bB} {m : cV} {l1 l2 : aF} {o1 o2 : bB} (h : bH ρ G m l1 o1) (k : bH ρ G m l2 o2) : bH ρ G m (l1 ++ l2) (o1 ++ o2) := by
 induction h with
 | nil => exact k
 | cons h _ ih => rw [List.append_assoc]; exact .cons h ih
class inductive nB (ρ : bZ) (G : bB) : List (Int × Value) -> List (Int × V) -> Prop
 | nil : nB ρ G [] []
 | cons {j w v es r : _} (a : VR ρ G v w) (b : nB ρ G es r) : nB ρ G ((j, w) :: es) ((j, v) :: r)
structure Ql (ρ : bZ) (G : bB) (ka aK : Addr) (ko oK : Obj) (kvs : List (Int × Value)) (ks : List (Int × V)) : Prop where
 ea : aK = ka
 eo : oK = ko
 sm : (aK == sysModules) = false
 dk : ∀ prog w, oK.IsDictOf (intKind prog w) kvs
 kv : nB ρ G kvs ks
noncomputable def Fe (sc : Sc) (aK : Addr) : List V := [.str "<unicode string>", .none, .int 0, .bool true, .str sc.buf, .int sc.ptr, .none, .none, .none, .int sc.index, .int sc.line, .int sc.col, .bool sc.done, .int sc.aA, .toks, .int sc.taken, .int sc.indent, .rC, .bool sc.allow, .glob (.ref aK)]
noncomputable def MO (ρ : bZ) (es : List DictEntry) (n : Nat) (vT : List Value) (nT : Nat) (tI : List Value) (nI : Nat) (aK : Addr) (eK : Obj) : bB := [(ρ.dS, dictOf es n), (ρ.aT, W.listOf vT.toArray nT), (ρ.aI, W.listOf tI.toArray nI), (aK, eK)]
inductive OU (ρ : bZ) (G : bB) (sc : Sc) (l : bB) : Prop
 | mk (es : List DictEntry) (n : Nat) (vals vT : List Value) (nT nI : Nat) (aK : Addr) (eK : Obj) (nK : List (Int × Value)) (tI : List Value) (el : l = [(ρ.dS, dictOf es n), (ρ.aT, W.listOf vT.toArray nT), (ρ.aI, W.listOf tI.toArray nI), (aK, eK)])
   (hS : (ρ.aS, instObj 1048 ρ.dS) ∈ G) (hE : eJ es aD vals) (hI : cA ρ G (sc.aG.map V.int) tI) (hT : cA ρ G sc.tokens vT) (hK : Ql ρ G sc.cQ aK sc.iW eK nK sc.keys) (hV : cA ρ G (Fe sc aK) vals)
noncomputable def Gr (ρ : bZ) (G : bB) : Option Sc -> bB -> Prop
 | none, l => l = []
 | some sc, l => OU ρ G sc l
inductive KA (C : Cx) (ρ : bZ) (G fo : bB) (σ : Option Sc) (m : cV) (loc : aF) (h : Heap) : Prop
 | mk (ls os : bB) (a : Gr ρ G σ ls) (b : bH ρ G m loc os) (c : News C.h₀ C.L h (ls ++ (os ++ (fo ++ G)))) (d : ((ls ++ (os ++ (fo ++ G))).map (·.1)).Nodup)
structure bJ (C : Cx) (ρ : bZ) (G fo : bB) (σ : Option Sc) (m : cV) (loc : aF) (h : Heap) : Prop where
 ex : KA C ρ G fo σ m loc h
 fr : Fr C.h₀ C.L h m
 nd : (loc.map (·.1)).Nodup
structure uG where
 cls : Addr
 ns : List Str
 vs : List V
inductive JQ (C : Cx) (ρ : bZ) (G fo : bB) (σ : Option Sc) (m : cV) (loc : aF) (x : uG) (ev : Value) (h : Heap) : Prop
 | mk (e dx : Addr) (a0 : Value) (es : List DictEntry) (n : Nat) (vals : List Value) (ls os : bB) (B : Heap) (he : ev = .ref e) (hd : cP e (some dx) h) (hE : eJ es x.ns vals) (hv : cA ρ G x.vs vals) (hs : Gr ρ G σ ls) (hl : bH ρ G m loc os)
  (hn : (((dx, dictOf es n) :: (ls ++ (os ++ (fo ++ G)))).map (·.1)).Nodup) (hB : C.base.StaysIn B) (hq : ∀ q ∈ (dx, dictOf es n) :: (ls ++ (os ++ (fo ++ G))), B.get? q.1 = some q.2 /\ C.h₀.get? q.1 = none /\ q.1 ≠ C.L)
  (fl : XW B (C.env :: C.outer) e (.ref x.cls) a0 C.L h)
structure Bl (C : Cx) (ρ : bZ) (G fo : bB) (σ : Option Sc) (m : cV) (loc : aF) (x : uG) (ev : Value) (h : Heap) : Prop where
 ex : JQ C ρ G fo σ m loc x ev h
 up : C.h₀.UpToSlots h
 ns : h.Ns C.L m
 nd : (loc.map (·.1)).Nodup
section
variable (C : Cx) (ρ : bZ) (G fo : bB)
def Zh (m : cV) (s : Shared) (Q : V -> aF -> Option Sc -> Prop) (Qr : cY) : Prop := ∀ v aC aW G' val h' aN, Q v aC aW -> Sub G G' -> VR ρ G' v val -> bJ C ρ G' fo aW m aC h' -> Qr val (St s h' aN)
def uI (m : cV) (s : Shared) (X : uG -> aF -> Option Sc -> Prop) (Er : cY) : Prop := ∀ x aC aW G' ev h' aN, X x aC aW -> Sub G G' -> Bl C ρ G' fo aW m aC x ev h' -> Er ev (St s h' aN)
def Zc (m : cV) (s : Shared) (Q : Bool -> aF -> Option Sc -> Prop) (Qr : Bool -> Shared -> Prop) : Prop := ∀ b aC aW G' h' aN, Q b aC aW -> Sub G G' -> bJ C ρ G' fo aW m aC h' -> Qr b (St s h' aN)
def rH (s : Shared) (X : uG -> aF -> Option Sc -> Prop) (Er : cY) : Prop := ∀ x aC aW G' m' ev h' aN, X x aC aW -> Sub G G' -> Bl C ρ G' fo aW m' aC x ev h' -> Er ev (St s h' aN)
def Yw (m : cV) (loc : aF) (s : Shared) (Q : V -> Option Sc -> Prop) (Qr : cY) : Prop := ∀ v aW G' val h' aN, Q v aW -> Sub G G' -> VR ρ G' v val -> bJ C ρ G' fo aW m loc h' -> Qr val (St s h' aN)
def Vg (m : cV) (loc : aF) (s : Shared) (X : uG -> Option Sc -> Prop) (Er : cY) : Prop := ∀ x aW G' ev h' aN, X x aW -> Sub G G' -> Bl C ρ G' fo aW m loc x ev h' -> Er ev (St s h' aN)
end
section
variable {C : Cx} {ρ : bZ} {G G' fo : bB} {m : cV} {s : Shared} {h : Heap} {t : Tok}
theorem Zh.step {Q : V -> aF -> Option Sc -> Prop} {Qr : cY} (q : Zh C ρ G fo m s Q Qr) (k : Sub G G') : Zh C ρ G' fo m (St s h t) Q Qr := fun v l s' G2 val h2 t2 y1 y2 y3 y4 => q v l s' G2 val h2 t2 y1 (k.trans y2) y3 y4
theorem uI.step {X : uG -> aF -> Option Sc -> Prop} (q : uI C ρ G fo m s X Er) (k : Sub G G') : uI C ρ G' fo m (St s h t) X Er := fun v l s' G2 val h2 t2 y1 y2 y3 => q v l s' G2 val h2 t2 y1 (k.trans y2) y3
theorem Zc.step {Q : Bool -> aF -> Option Sc -> Prop} {Qr : Bool -> Shared -> Prop} (q : Zc C ρ G fo m s Q Qr) (k : Sub G G') : Zc C ρ G' fo m (St s h t) Q Qr := fun v l s' G2 h2 t2 y1 y2 y3 => q v l s' G2 h2 t2 y1 (k.trans y2) y3
theorem rH.step {X : uG -> aF -> Option Sc -> Prop} (q : rH C ρ G fo s X Er) (k : Sub G G') : rH C ρ G' fo (St s h t) X Er := fun v l s' G2 m2 val h2 t2 y1 y2 y3 => q v l s' G2 m2 val h2 t2 y1 (k.trans y2) y3
theorem rH.at {X : uG -> aF -> Option Sc -> Prop} (q : rH C ρ G fo s X Er) : uI C ρ G fo m s X Er := fun x l s' G2 => q x l s' G2 m
theorem Yw.step {loc : aF} {Q : V -> Option Sc -> Prop} {Qr : cY} (q : Yw C ρ G fo m loc s Q Qr) (k : Sub G G') : Yw C ρ G' fo m loc (St s h t) Q Qr := fun v s' G2 val h2 t2 y1 y2 y3 y4 => q v s' G2 val h2 t2 y1 (k.trans y2) y3 y4
end
@[irreducible] def EW (g : Gl) (D : Nat) (C : Cx) (ρ : bZ) (X : uG -> aF -> Option Sc -> Prop) (e : Expr) (loc : aF) (σ : Option Sc) (Q : V -> aF -> Option Sc -> Prop) : Prop :=
 fM g D C -> ∀ G fo m s, bJ C ρ G fo σ m loc s.heap -> ∀ (Qr : cY) (Er : cY),
  Zh C ρ G fo m s Q Qr -> uI C ρ G fo m s X Er ->
  wpAny (model g.prog g.w) C.A (eval e C.env) Qr Er s
theorem EW.of {g : Gl} {D : Nat} {C : Cx} {ρ : bZ} {X : uG -> aF -> Option Sc -> Prop} {e : Expr} {loc : aF} {σ : Option Sc} {Q : V -> aF -> Option Sc -> Prop} (h :
 fM g D C -> ∀ G fo m s, bJ C ρ G fo σ m loc s.heap -> ∀ (Qr : cY) (Er : cY),
  Zh C ρ G fo m s Q Qr -> uI C ρ G fo m s X Er ->
  wpAny (model g.prog g.w) C.A (eval e C.env) Qr Er s) : EW g D C ρ X e loc σ Q := by delta EW; exact h
theorem EW.out {g : Gl} {D : Nat} {C : Cx} {ρ : bZ} {X : uG -> aF -> Option Sc -> Prop} {e : Expr} {loc : aF} {σ : Option Sc} {Q : V -> aF -> Option Sc -> Prop} (h : EW g D C ρ X e loc σ Q) :
 fM g D C -> ∀ G fo m s, bJ C ρ G fo σ m loc s.heap -> ∀ (Qr : cY) (Er : cY),
  Zh C ρ G fo m s Q Qr -> uI C ρ G fo m s X Er ->
  wpAny (model g.prog g.w) C.A (eval e C.env) Qr Er s := by delta EW at h; exact h
inductive Fl where
 | next | brk | cont
 | ret (v : V)
noncomputable abbrev nG := V -> aF -> Option Sc -> Prop
noncomputable abbrev dD := Fl -> aF -> Option Sc -> Prop
noncomputable abbrev dW := uG -> aF -> Option Sc -> Prop
noncomputable abbrev lR := Bool -> aF -> Option Sc -> Prop
noncomputable abbrev kP := uG -> Option Sc -> Prop
noncomputable abbrev jZ := V -> Option Sc -> Prop
noncomputable abbrev bQ := Option Sc
inductive Te (ρ : bZ) (G : bB) : Fl -> Flow -> Prop
 | next : Te ρ G .next .next
 | brk : Te ρ G .brk .brk
 | cont : Te ρ G .cont .cont
 | ret {v val : _} : VR ρ G v val -> Te ρ G (.ret v) (.ret val)
inductive Sl (f : Flow) : Flow -> Prop
 | eq : Sl f f
inductive Uk (ρ : bZ) (G : bB) (v : V) : Flow -> Prop
 | ret {val : _} (h : VR ρ G v val) : Uk ρ G v (.ret val)
def TF (ρ : bZ) (G : bB) (f : Fl) (fv : Flow) : Prop :=
 match f with
 | .next => Sl .next fv
 | .brk => Sl .brk fv
 | .cont => Sl .cont fv
 | .ret v => Uk ρ G v fv
theorem Te.out {ρ : bZ} {G : bB} {f : Fl} {fv : Flow} (h : Te ρ G f fv) : TF ρ G f fv := by
 induction h with
 | next => exact .eq
 | brk => exact .eq
 | cont => exact .eq
 | ret a => exact .ret a
def Lx (C : Cx) (ρ : bZ) (G fo : bB) (s : Shared) (Q : dD) (Qr : Flow -> Shared -> Prop) : Prop := ∀ f aC aW G' m' fv h' aN, Q f aC aW -> Sub G G' -> Te ρ G' f fv -> bJ C ρ G' fo aW m' aC h' -> Qr fv (St s h' aN)
theorem Lx.step {C : Cx} {ρ : bZ} {G G' fo : bB} {s : Shared} {h : Heap} {t : Tok} {Q : dD} {Qr : Flow -> Shared -> Prop} (q : Lx C ρ G fo s Q Qr) (k : Sub G G') : Lx C ρ G' fo (St s h t) Q Qr := fun v l s' G2 m2 val h2 t2 y1 y2 y3 y4 => q v l s' G2 m2 val h2 t2 y1 (k.trans y2) y3 y4
@[irreducible] def Sj (g : Gl) (D : Nat) (C : Cx) (ρ : bZ) (X : dW) (t : Sem Flow) (loc : aF) (σ : bQ) (Q : dD) : Prop :=
 fM g D C -> ∀ G fo m s, bJ C ρ G fo σ m loc s.heap -> ∀ (Qr : Flow -> Shared -> Prop) (Er : cY),
  Lx C ρ G fo s Q Qr -> rH C ρ G fo s X Er ->
  wpAny (model g.prog g.w) C.A t Qr Er s
theorem Sj.of {g : Gl} {D : Nat} {C : Cx} {ρ : bZ} {X : dW} {t : Sem Flow} {loc : aF} {σ : bQ} {Q : dD} (h :
 fM g D C -> ∀ G fo m s, bJ C ρ G fo σ m loc s.heap -> ∀ (Qr : Flow -> Shared -> Prop) (Er : cY),
  Lx C ρ G fo s Q Qr -> rH C ρ G fo s X Er ->
  wpAny (model g.prog g.w) C.A t Qr Er s) : Sj g D C ρ X t loc σ Q := by delta Sj; exact h
theorem Sj.out {g : Gl} {D : Nat} {C : Cx} {ρ : bZ} {X : dW} {t : Sem Flow} {loc : aF} {σ : bQ} {Q : dD} (h : Sj g D C ρ X t loc σ Q) :
 fM g D C -> ∀ G fo m s, bJ C ρ G fo σ m loc s.heap -> ∀ (Qr : Flow -> Shared -> Prop) (Er : cY),
  Lx C ρ G fo s Q Qr -> rH C ρ G fo s X Er ->
  wpAny (model g.prog g.w) C.A t Qr Er s := by delta Sj at h; exact h
noncomputable abbrev iB (g : Gl) (D : Nat) (C : Cx) (ρ : bZ) (X : dW) (st : Stmt) := Sj g D C ρ X (exec st C.env)
noncomputable abbrev SW (g : Gl) (D : Nat) (C : Cx) (ρ : bZ) (X : dW) (b : List Stmt) := Sj g D C ρ X (execs b C.env)
@[irreducible] def Br (g : Gl) (D : Nat) (ρ : bZ) (X : kP) (f : Addr) (args : List V) (kws : List (Str × V)) (σ : bQ) (Q : jZ) : Prop :=
 ∀ (C : Cx), fM g (D + 1) C -> C.A.handled = none -> ∀ G fo m loc s vals cT, bJ C ρ G fo σ m loc s.heap -> cA ρ G args vals -> cA ρ G (kws.map (·.2)) cT -> ∀ (Qr : cY) (Er : cY),
  Yw C ρ G fo m loc s Q Qr -> Vg C ρ G fo m loc s X Er ->
  wpAny (model g.prog g.w) C.A (call (.ref f) vals ((kws.map (·.1)).zip cT)) Qr Er s
theorem Br.of {g : Gl} {D : Nat} {ρ : bZ} {X : kP} {f : Addr} {args : List V} {kws : List (Str × V)} {σ : bQ} {Q : jZ} (h :
 ∀ (C : Cx), fM g (D + 1) C -> C.A.handled = none -> ∀ G fo m loc s vals cT, bJ C ρ G fo σ m loc s.heap -> cA ρ G args vals -> cA ρ G (kws.map (·.2)) cT -> ∀ (Qr : cY) (Er : cY),
  Yw C ρ G fo m loc s Q Qr -> Vg C ρ G fo m loc s X Er ->
  wpAny (model g.prog g.w) C.A (call (.ref f) vals ((kws.map (·.1)).zip cT)) Qr Er s) : Br g D ρ X f args kws σ Q := by delta Br; exact h
theorem Br.out {g : Gl} {D : Nat} {ρ : bZ} {X : kP} {f : Addr} {args : List V} {kws : List (Str × V)} {σ : bQ} {Q : jZ} (h : Br g D ρ X f args kws σ Q) :
 ∀ (C : Cx), fM g (D + 1) C -> C.A.handled = none -> ∀ G fo m loc s vals cT, bJ C ρ G fo σ m loc s.heap -> cA ρ G args vals -> cA ρ G (kws.map (·.2)) cT -> ∀ (Qr : cY) (Er : cY),
  Yw C ρ G fo m loc s Q Qr -> Vg C ρ G fo m loc s X Er ->
  wpAny (model g.prog g.w) C.A (call (.ref f) vals ((kws.map (·.1)).zip cT)) Qr Er s := by delta Br at h; exact h
abbrev FW (g : Gl) (D : Nat) (ρ : bZ) (X : kP) (f : Addr) (args : List V) (σ : bQ) (Q : jZ) : Prop := Br g D ρ X f args [] σ Q
theorem bH.get {ρ : bZ} {G : bB} {m : cV} {x : Str} {v : V} {loc : aF} {os : bB} (h : bH ρ G m loc os) (e : (x, LV.val v) ∈ loc) : ∃ val, m x = some val /\ VR ρ G v val := by
 induction h with
 | nil => exact (List.not_mem_nil e).elim
 | cons h _ ih =>
  rcases List.mem_cons.mp e with q | e
  ·cases q;induction h.out with
   | val a b => exact (eO _ a b)
  ·exact ih e
theorem qS.mono {ρ : bZ} {G G' : bB} {m : cV} (k : Sub G G') {x : Str} {lv : LV} {o : bB} (h : qS ρ G m x lv o) : qS ρ G' m x lv o := by
 cases lv with
 | un => exact h
 | val v => induction h.out with | val a b => exact .val a (b.mono k)
 | ml vs => induction h.out with | ml a b => exact .ml a (b.mono k)
 | cell c v => induction h.out with | cell a b => exact .cell a (b.mono k)
theorem bH.mono {ρ : bZ} {G G' : bB} {m : cV} (k : Sub G G') {loc : aF} {os : bB} (h : bH ρ G m loc os) : bH ρ G' m loc os := by
 induction h with
 | nil => exact .nil
 | cons h _ ih => exact .cons (h.mono k) ih
section rules
variable {g : Gl} {D : Nat} {C : Cx} {ρ : bZ} {X : dW} {loc : aF} {σ : bQ}
theorem EW.name {x : Str} {pos : Pos} {v : V} {Q : _} (hv : (x, LV.val v) ∈ loc) (h : Q v loc σ) (hx : (envX C.cn C.cs C.L C.a C.Bu C.cl).kindOf x = some .local) (hd : (x == ("__debug__" : Str)) = false) :
  EW g D C ρ X (.Name x pos) loc σ Q := by
 refine .of fun ok G fo m s I Qr Er q _ => ?_;obtain ⟨ls, os, a, b, c, d⟩ := I.ex;refine aR (b.get hv) fun val e1 e2 => ?_;refine nameX_L I.fr e1 ?_ ok.kind hx hd;exact q v loc σ G val s.heap s.toks h (fun U z => z) e2 I
theorem EW.int {i : Int} {k : Nat} {pos : Pos} {Q : _} (h : Q (.int i) loc σ) : EW g D C ρ X (.Constant (.int i) k pos) loc σ Q := by
 refine .of fun ok G fo m s I Qr Er q _ => ?_;exact wpAny_Constant_int (q _ loc σ G _ s.heap _ h (fun U z => z) .int I)
theorem EW.str {x : Str} {k : Nat} {pos : Pos} {Q : _} (h : Q (.str x) loc σ) : EW g D C ρ X (.Constant (.str x) k pos) loc σ Q := by
 refine .of fun ok G fo m s I Qr Er q _ => ?_;exact wpAny_Constant_str (q _ loc σ G _ s.heap _ h (fun U z => z) .str I)
theorem EW.none {k : Nat} {pos : Pos} {Q : _} (h : Q .none loc σ) : EW g D C ρ X (.Constant .none k pos) loc σ Q := by
 refine .of fun ok G fo m s I Qr Er q _ => ?_;exact wpAny_Constant_none (q _ loc σ G _ s.heap s.toks h (fun U z => z) .none I)
theorem EW.bool {b : Bool} {k : Nat} {pos : Pos} {Q : _} (h : Q (.bool b) loc σ) : EW g D C ρ X (.Constant (.bool b) k pos) loc σ Q := by
 refine .of fun ok G fo m s I Qr Er q _ => ?_;exact wpAny_Constant_bool (q _ loc σ G _ s.heap s.toks h (fun U z => z) .bool I)
theorem EW.mono {e : Expr} {Q Q' : nG} (h : EW g D C ρ X e loc σ Q) (k : ∀ v l s, Q v l s -> Q' v l s) : EW g D C ρ X e loc σ Q' := by
 refine .of fun ok G fo m s I Qr Er q qe => ?_;exact h.out ok G fo m s I Qr Er (fun v l' s' G' val h' aN z => q v l' s' G' val h' aN (k _ _ _ z)) qe
end rules
end
variable {G : bB} {Q : nG} {G' : bB} {ρ : bZ} {ws : List V} {os : bB} {X : V -> V -> Prop} {g : Gl} {σ : bQ} {fo : bB} {l' : aF} {aC : aF} {iI : List V} {ls : bB} {ob : Ob} {ks : List (Int × V)} {z : Z} {ρ' : bZ} {got : List V} {fd : FD}
section
section rules
variable {D : Nat} {C : Cx} {X : dW} {loc : aF}
theorem EW.seq1 {e : Expr} (h : EW g D C ρ X e loc σ Q) (ok : fM g D C) {G fo m s : _} (I : bJ C ρ G fo σ m loc s.heap) {t : cY}
  (qe : uI C ρ G fo m s X Er)
  (k : ∀ v aC aW G' val h' aN, Q v aC aW -> Sub G G' -> VR ρ G' v val -> bJ C ρ G' fo aW m aC h' ->
   uI C ρ G' fo m (St s h' aN) X Er -> t val (St s h' aN)) :
  wpAny (model g.prog g.w) C.A (eval e C.env) t Er s :=
 h.out ok G fo m s I _ _ (fun v aC aW G' val h' aN z1 z2 z3 z4 => k v aC aW G' val h' aN z1 z2 z3 z4 (qe.step z2)) qe
theorem EW.rE {l r : Expr} {R : V -> V -> aF -> bQ -> Prop} (h : EW g D C ρ X l loc σ (fun a bP fE => EW g D C ρ X r bP fE (fun b bG fV => R a b bG fV))) (ok : fM g D C) {G fo m s : _} (I : bJ C ρ G fo σ m loc s.heap)
  {t : Value -> Value -> Shared -> Prop}
  (qe : uI C ρ G fo m s X Er)
  (k : ∀ a b aC aW G' av bv h' aN, R a b aC aW -> Sub G G' -> VR ρ G' a av -> VR ρ G' b bv -> bJ C ρ G' fo aW m aC h' ->
   uI C ρ G' fo m (St s h' aN) X Er -> t av bv (St s h' aN)) :
  wpAny (model g.prog g.w) C.A (eval l C.env) (fun av s1 => wpAny (model g.prog g.w) C.A (eval r C.env) (fun bv s2 => t av bv s2) Er s1) Er s := by
 refine EW.seq1 h ok I qe fun a bP fE G1 av h1 dB z1 z2 z3 z4 gU => ?_;refine EW.seq1 z1 ok (s := (St s h1 dB)) z4 gU fun b bG fV G2 bv h2 eM y1 y2 y3 y4 mU => ?_;exact k a b bG fV G2 av bv h2 eM y1 (fun p hp => y2 p (z2 p hp)) (z3.mono y2) y3 y4 mU
theorem EW.binop {l r : Expr} {op : Operator} {pos : Pos}
  (h : EW g D C ρ X l loc σ (fun a bP fE => EW g D C ρ X r bP fE (fun b bG fV =>
   ∀ (G : bB) (s : Shared) (av bv : Value), VR ρ G a av -> VR ρ G b bv -> ∀ (T : cY) (E : cY), (∀ v val tk, Q v bG fV -> VR ρ G v val -> T val { s with toks := tk }) -> wpAny (model g.prog g.w) C.A (binaryOp op av bv) T E s))) :
  EW g D C ρ X (.BinOp l op r pos) loc σ Q := by
 refine .of fun ok G fo m s I Qr Er q qe => ?_;refine wpAny_BinOp (EW.rE h ok I qe fun a b aC aW G' av bv h' aN z1 z2 z3 z4 z5 U => ?_);exact z1 G' _ av bv z3 z4 _ _ fun v val tk y1 y2 => q v aC aW G' val h' tk y1 z2 y2 z5
inductive BF (f : Int -> Int -> Int) (Q : nG) (a b : V) (l : aF) (s : bQ) : Prop
 | mk (i j : Int) (ha : a = .int i) (hb : b = .int j) (h : Q (.int (f i j)) l s)
noncomputable def Bx (g : Gl) (D : Nat) (C : Cx) (ρ : bZ) (X : dW) (r : Expr) (R : V -> V -> aF -> bQ -> Prop) : V -> aF -> bQ -> Prop := fun a l s => EW g D C ρ X r l s (R a)
theorem EW.add {l r : Expr} {pos : Pos} (h : EW g D C ρ X l loc σ (Bx g D C ρ X r (BF (· + ·) Q))) :
  EW g D C ρ X (.BinOp l .Add r pos) loc σ Q := by
 refine EW.binop (h.mono fun a l1 s1 z => z.mono fun b l2 s2 z => ?_);obtain ⟨i, j, rfl, rfl, zz⟩ := z;intro G s av bv ha hb T E k;induction ha.out; induction hb.out
 exact PyProof.Rows.add_int (k _ _ _ zz .int)
theorem EW.sub {l r : Expr} {pos : Pos} (h : EW g D C ρ X l loc σ (Bx g D C ρ X r (BF (· - ·) Q))) :
  EW g D C ρ X (.BinOp l .Sub r pos) loc σ Q := by
 refine EW.binop (h.mono fun a l1 s1 z => z.mono fun b l2 s2 z => ?_);obtain ⟨i, j, rfl, rfl, zz⟩ := z;intro G s av bv ha hb T E k;induction ha.out; induction hb.out
 exact PyProof.Rows.sub_int (k _ _ _ zz .int)
inductive AD (Q : nG) (a b : V) (l : aF) (s : bQ) : Prop
 | mk (x y : Str) (ha : a = .str x) (hb : b = .str y) (hz : x.length + y.length <= sizeLine) (h : Q (.str (x ++ y)) l s)
theorem EW.tA {l r : Expr} {pos : Pos} (h : EW g D C ρ X l loc σ (Bx g D C ρ X r (AD Q))) :
  EW g D C ρ X (.BinOp l .Add r pos) loc σ Q := by
 refine EW.binop (h.mono fun a l1 s1 z => z.mono fun b l2 s2 z => ?_);obtain ⟨x, y, rfl, rfl, hz, zz⟩ := z;intro G s av bv ha hb T E k;induction ha.out; induction hb.out
 exact PyProof.Rows.add_str (fun t tk => k _ _ _ zz .str) hz
theorem EW.cmp {l r : Expr} {op : CmpOp} {pos : Pos} (hm : behindInMarks op r = false)
  (h : EW g D C ρ X l loc σ (fun a bP fE => EW g D C ρ X r bP fE (fun b bG fV =>
   ∀ (G : bB) (s : Shared) (av bv : Value), VR ρ G a av -> VR ρ G b bv -> ∀ (T : cY) (E : cY), (∀ v val tk, Q v bG fV -> VR ρ G v val -> T val { s with toks := tk }) -> wpAny (model g.prog g.w) C.A (compareOp op av bv) T E s))) :
  EW g D C ρ X (.Compare l [op] [r] pos) loc σ Q := by
 refine .of fun ok G fo m s I Qr Er q qe => ?_;refine wpAny_Compare1 (EW.rE h ok I qe fun a b aC aW G' av bv h' aN z1 z2 z3 z4 z5 U => ?_) hm;exact z1 G' _ av bv z3 z4 _ _ fun v val tk y1 y2 => q v aC aW G' val h' tk y1 z2 y2 z5
@[irreducible] def BW (g : Gl) (D : Nat) (C : Cx) (ρ : bZ) (X : dW) (e : Expr) (loc : aF) (σ : bQ) (Q : lR) : Prop :=
 fM g D C -> ∀ G fo m s whole, bJ C ρ G fo σ m loc s.heap -> whole = eval e C.env -> ∀ (Qr : Bool -> Shared -> Prop) (Er : cY),
  Zc C ρ G fo m s Q Qr -> uI C ρ G fo m s X Er ->
  wpAny (model g.prog g.w) C.A (isTrue e C.env whole) Qr Er s
theorem BW.of {D : Nat} {C : Cx} {X : dW} {e : Expr} {loc : aF} {Q : lR} (h :
 fM g D C -> ∀ G fo m s whole, bJ C ρ G fo σ m loc s.heap -> whole = eval e C.env -> ∀ (Qr : Bool -> Shared -> Prop) (Er : cY),
  Zc C ρ G fo m s Q Qr -> uI C ρ G fo m s X Er ->
  wpAny (model g.prog g.w) C.A (isTrue e C.env whole) Qr Er s) : BW g D C ρ X e loc σ Q := by delta BW; exact h
theorem BW.out {D : Nat} {C : Cx} {X : dW} {e : Expr} {loc : aF} {Q : lR} (h : BW g D C ρ X e loc σ Q) :
 fM g D C -> ∀ G fo m s whole, bJ C ρ G fo σ m loc s.heap -> whole = eval e C.env -> ∀ (Qr : Bool -> Shared -> Prop) (Er : cY),
  Zc C ρ G fo m s Q Qr -> uI C ρ G fo m s X Er ->
  wpAny (model g.prog g.w) C.A (isTrue e C.env whole) Qr Er s := by delta BW at h; exact h
theorem BW.mono {e : Expr} {Q Q' : lR} (h : BW g D C ρ X e loc σ Q) (k : ∀ v l s, Q v l s -> Q' v l s) : BW g D C ρ X e loc σ Q' := by
 refine .of fun ok G fo m s w I e Qr Er q qe => ?_;exact h.out ok G fo m s w I e Qr Er (fun v l' s' G' h' aN z => q v l' s' G' h' aN (k _ _ _ z)) qe
theorem BW.cmp {l r : Expr} {op : CmpOp} {pos : Pos} {Q : lR} (hm : behindInMarks op r = false)
  (h : EW g D C ρ X l loc σ (fun a bP fE => EW g D C ρ X r bP fE (fun b bG fV =>
   ∀ (G : bB) (s : Shared) (av bv : Value), VR ρ G a av -> VR ρ G b bv -> ∀ (T : cY) (E : cY), (∀ c tk, Q c bG fV -> T (.bool c) { s with toks := tk }) -> wpAny (model g.prog g.w) C.A (compareOp op av bv) T E s))) :
  BW g D C ρ X (.Compare l [op] [r] pos) loc σ Q := by
 refine .of fun ok G fo m s w I _ Qr Er q qe => ?_;refine wpAny_isTrue_Compare1 (EW.rE h ok I qe fun a b aC aW G' av bv h' aN z1 z2 z3 z4 z5 U => ?_) hm;exact z1 G' _ av bv z3 z4 _ _ fun c tk y1 => wpAny_truthy_bool (q c aC aW G' h' tk y1 z2 z5)
theorem BW.not {e : Expr} {pos : Pos} {Q : lR} (h : BW g D C ρ X e loc σ (fun b l s => Q (!b) l s)) : BW g D C ρ X (.UnaryOp .Not e pos) loc σ Q := by
 refine .of fun ok G fo m s w I _ Qr Er q qe => ?_;show wpAny _ _ (do return !(← isTrue e C.env (eval e C.env))) _ _ _;refine wpAny_bind (h.out ok G fo m s _ I rfl _ _ (fun b aC aW G' h' aN z1 z2 z3 => ?_) qe);exact wpAny_pure (q _ _ _ _ _ _ z1 z2 z3)
theorem BW.oY {e : Expr} {pos : Pos} {Q : lR} (h : BW g D C ρ X e loc σ Q) : BW g D C ρ X (.BoolOp .And [e] pos) loc σ Q := by
 refine .of fun ok G fo m s w I _ Qr Er q qe => ?_;show wpAny _ _ (do match BoolOp.And, ← isTrue e C.env (eval e C.env) with | .And, false => pure false | .Or, true => pure true | _, _ => allTrue .And [] C.env) _ _ _
 refine wpAny_bind (h.out ok G fo m s _ I rfl _ _ (fun b aC aW G' h' aN z1 z2 z3 => ?_) qe);induction b with
 | false => exact wpAny_pure (q _ _ _ _ _ _ z1 z2 z3)
 | true => exact wpAny_pure (q _ _ _ _ _ _ z1 z2 z3)
structure zN (g : Gl) (D : Nat) (C : Cx) (ρ : bZ) (X : dW) (r : Expr) (Q : lR) (b : Bool) (l : aF) (s : bQ) : Prop where
 f : b = false -> Q false l s
 t : b = true -> BW g D C ρ X r l s Q
structure zB (g : Gl) (D : Nat) (C : Cx) (ρ : bZ) (X : dW) (r : Expr) (Q : lR) (b : Bool) (l : aF) (s : bQ) : Prop where
 t : b = true -> Q true l s
 f : b = false -> BW g D C ρ X r l s Q
theorem BW.jH {e e' : Expr} {r : List Expr} {pos : Pos} {Q : lR} (h : BW g D C ρ X e loc σ (zN g D C ρ X (.BoolOp .And (e' :: r) pos) Q)) :
  BW g D C ρ X (.BoolOp .And (e :: e' :: r) pos) loc σ Q := by
 refine .of fun ok G fo m s w I _ Qr Er q qe => ?_;show wpAny _ _ (do match BoolOp.And, ← isTrue e C.env (eval e C.env) with | .And, false => pure false | .Or, true => pure true | _, _ => allTrue .And (e' :: r) C.env) _ _ _
 refine wpAny_bind (h.out ok G fo m s _ I rfl _ _ (fun b aC aW G' h' aN z1 z2 z3 => ?_) qe);induction b with
 | false => exact wpAny_pure (q _ _ _ _ _ _ (z1.f rfl) z2 z3)
 | true => exact (z1.t rfl).out ok G' fo m (St s h' aN) _ z3 rfl Qr Er (q.step z2) (qe.step z2)
theorem BW.Ie {e : Expr} {pos : Pos} {Q : lR} (h : BW g D C ρ X e loc σ Q) : BW g D C ρ X (.BoolOp .Or [e] pos) loc σ Q := by
 refine .of fun ok G fo m s w I _ Qr Er q qe => ?_;show wpAny _ _ (do match BoolOp.Or, ← isTrue e C.env (eval e C.env) with | .And, false => pure false | .Or, true => pure true | _, _ => allTrue .Or [] C.env) _ _ _
 refine wpAny_bind (h.out ok G fo m s _ I rfl _ _ (fun b aC aW G' h' aN z1 z2 z3 => ?_) qe);induction b with
 | false => exact wpAny_pure (q _ _ _ _ _ _ z1 z2 z3)
 | true => exact wpAny_pure (q _ _ _ _ _ _ z1 z2 z3)
theorem BW.yT {e e' : Expr} {r : List Expr} {pos : Pos} {Q : lR} (h : BW g D C ρ X e loc σ (zB g D C ρ X (.BoolOp .Or (e' :: r) pos) Q)) :
  BW g D C ρ X (.BoolOp .Or (e :: e' :: r) pos) loc σ Q := by
 refine .of fun ok G fo m s w I _ Qr Er q qe => ?_;show wpAny _ _ (do match BoolOp.Or, ← isTrue e C.env (eval e C.env) with | .And, false => pure false | .Or, true => pure true | _, _ => allTrue .Or (e' :: r) C.env) _ _ _
 refine wpAny_bind (h.out ok G fo m s _ I rfl _ _ (fun b aC aW G' h' aN z1 z2 z3 => ?_) qe);induction b with
 | true => exact wpAny_pure (q _ _ _ _ _ _ (z1.t rfl) z2 z3)
 | false => exact (z1.f rfl).out ok G' fo m (St s h' aN) _ z3 rfl Qr Er (q.step z2) (qe.step z2)
theorem SW.nil {Q : dD} (h : Q .next loc σ) : SW g D C ρ X [] loc σ Q := by
 refine .of fun ok G fo m s I Qr Er q _ => ?_;exact wpAny_execs_nil (q .next loc σ G m .next s.heap s.toks h (fun U z => z) .next I)
noncomputable def lO (g : Gl) (D : Nat) (C : Cx) (ρ : bZ) (X : dW) (r : List Stmt) (Q : dD) : Fl -> aF -> bQ -> Prop
 | .next, l, s => SW g D C ρ X r l s Q
 | .brk, l, s => Q .brk l s
 | .cont, l, s => Q .cont l s
 | .ret v, l, s => Q (.ret v) l s
theorem SW.cons {st : Stmt} {r : List Stmt} {Q : dD} (h : iB g D C ρ X st loc σ (lO g D C ρ X r Q)) : SW g D C ρ X (st :: r) loc σ Q := by
 refine .of fun ok G fo m s I Qr Er q qe => ?_;refine wpAny_execs_cons (h.out ok G fo m s I _ _ (fun f aC aW G' m' fv h' aN z1 z2 z3 z4 => ?_) qe);induction z3 with
 | next => exact z1.out ok G' fo m' (St s h' aN) z4 Qr Er (q.step z2) (qe.step z2)
 | brk => exact q .brk aC aW G' m' _ h' aN z1 z2 .brk z4
 | cont => exact q .cont aC aW G' m' _ h' aN z1 z2 .cont z4
 | ret hv => exact q (.ret _) aC aW G' m' _ h' aN z1 z2 (.ret hv) z4
structure yJ (g : Gl) (D : Nat) (C : Cx) (ρ : bZ) (X : dW) (body orelse : List Stmt) (Q : dD) (b : Bool) (l : aF) (s : bQ) : Prop where
 t : b = true -> SW g D C ρ X body l s Q
 f : b = false -> SW g D C ρ X orelse l s Q
theorem SW.nN {test : Expr} {body orelse : List Stmt} {pos : Pos} {Q : dD}
  (h : BW g D C ρ X test loc σ (yJ g D C ρ X body orelse Q)) : iB g D C ρ X (.If test body orelse pos) loc σ Q := by
 refine .of fun ok G fo m s I Qr Er q qe => ?_;refine wpAny_If (h.out ok G fo m s _ I rfl _ _ (fun b aC aW G' h' aN z1 z2 z3 => ?_) qe.at);induction b with
 | true => exact (z1.t rfl).out ok G' fo m (St s h' aN) z3 Qr Er (q.step z2) (qe.step z2)
 | false => exact (z1.f rfl).out ok G' fo m (St s h' aN) z3 Qr Er (q.step z2) (qe.step z2)
noncomputable def GG (Q : dD) : V -> aF -> bQ -> Prop := fun v => Q (.ret v)
theorem SW.ret {e : Expr} {pos : Pos} {Q : dD} (h : EW g D C ρ X e loc σ (GG Q)) : iB g D C ρ X (.Return (some e) pos) loc σ Q := by
 refine .of fun ok G fo m s I Qr Er q qe => ?_;exact wpAny_Return_some (h.out ok G fo m s I _ _ (fun v aC aW G' val h' aN z1 z2 z3 z4 => q (.ret v) aC aW G' m _ h' aN z1 z2 (.ret z3) z4) qe.at)
theorem SW.AI {pos : Pos} {Q : dD} (h : Q (.ret .none) loc σ) : iB g D C ρ X (.Return none pos) loc σ Q := by
 refine .of fun ok G fo m s I Qr Er q qe => ?_;exact wpAny_Return_none (q (.ret .none) loc σ G m _ s.heap s.toks h (.refl _) (.ret .none) I)
theorem SW.brk {pos : Pos} {Q : dD} (h : Q .brk loc σ) : iB g D C ρ X (.Break pos) loc σ Q := by
 refine .of fun ok G fo m s I Qr Er q qe => ?_;exact wpAny_Break (q .brk loc σ G m _ s.heap s.toks h (.refl _) .brk I)
theorem SW.cont {pos : Pos} {Q : dD} (h : Q .cont loc σ) : iB g D C ρ X (.Continue pos) loc σ Q := by
 refine .of fun ok G fo m s I Qr Er q qe => ?_;exact wpAny_Continue (q .cont loc σ G m _ s.heap s.toks h (.refl _) .cont I)
end rules
end
section
class inductive cK (x : Str) (lv : LV) : aF -> aF -> Prop
 | head {v r : _} : cK x lv ((x, v) :: r) ((x, lv) :: r)
 | tail {y v r r' : _} : cK x lv r r' -> cK x lv ((y, v) :: r) ((y, v) :: r')
theorem cK.names {x : Str} {lv : LV} {l : aF} (h : cK x lv l l') : l'.map (·.1) = l.map (·.1) := by
 induction h with
 | head => rfl
 | tail _ ih => exact congrArg (_ :: ·) ih
theorem cK.mem {x : Str} {lv : LV} {l : aF} (h : cK x lv l l') : x ∈ l.map (·.1) := by
 induction h with
 | head => exact .head _
 | tail _ ih => exact .tail _ ih
noncomputable abbrev mT (m : cV) (x : Str) (v : Value) : Str -> Option Value := fun y => if y = x then some v else m y
theorem qS.other {m m' : cV} {y : Str} (e : m' y = m y) {lv : LV} {o : bB} (h : qS ρ G m y lv o) : qS ρ G m' y lv o := by
 cases lv with
 | un => exact h
 | val v => induction h.out with | val a b => exact .val (e.trans a) b
 | ml vs => induction h.out with | ml a b => exact .ml (e.trans a) b
 | cell c v => exact h
theorem bH.other {ρ : bZ} {G : bB} {m m' : cV} {x : Str} (hm : ∀ y, y ≠ x -> m' y = m y) {loc : aF} {os : bB} (h : bH ρ G m loc os) (n : x ∉ loc.map (·.1)) : bH ρ G m' loc os := by
 induction h with
 | nil => exact .nil
 | cons h _ ih => exact .cons (h.other (hm _ fun z => n (z ▸ .head _))) (ih fun z => n (.tail _ z))
theorem tF {m : cV} {x : Str} : ∀ y, y ≠ x -> mT m x v y = m y := fun y h => if_neg h
theorem vI {m : cV} {x : Str} : mT m x v x = some v := if_pos rfl
inductive SG (ρ : bZ) (G : bB) (m : cV) (x : Str) (loc : aF) (os : bB) (v : LV) : Prop
 | mk (l1 l2 : aF) (o1 o o2 : bB) (e : loc = l1 ++ (x, v) :: l2) (eo : os = o1 ++ (o ++ o2)) (h1 : bH ρ G m l1 o1) (h : qS ρ G m x v o) (h2 : bH ρ G m l2 o2) (n1 : x ∉ l1.map (·.1)) (n2 : x ∉ l2.map (·.1))
theorem bH.at {m : cV} {x : Str} {v : LV} {loc : aF} (h : bH ρ G m loc os) (e : (x, v) ∈ loc) (nd : (loc.map (·.1)).Nodup) : SG ρ G m x loc os v := by
 induction loc generalizing os with
 | nil => cases e
 | cons p r ih =>
  obtain ⟨o, uU, rfl, hx, k⟩ := h.Jm;obtain ⟨n1, n2⟩ := List.nodup_cons.mp nd
  rcases List.mem_cons.mp e with q | e
  ·subst q;exact ⟨[], r, [], o, uU, rfl, rfl, .nil, hx, k, List.not_mem_nil, n1⟩
  ·obtain ⟨l1, l2, o1, o', o2, rfl, rfl, a, b, c, d, f⟩ := ih k e n2;exact ⟨p :: l1, l2, o ++ o1, o', o2, rfl, (List.append_assoc ..).symm, hx.cons a, b, c, fun z => (List.mem_cons.mp z).elim (fun q => n1 (q ▸ List.mem_map_of_mem (f := (·.1)) e)) d, f⟩
theorem cK.PM {x : Str} {lv : LV} {l : aF} (u : cK x lv l l') : ∃ v, (x, v) ∈ l := by
 induction u with
 | head => exact ⟨_, .head _⟩
 | tail _ ih => exact ih.imp fun U z => .tail _ z
theorem cK.inv {x : Str} {lv : LV} {p : Str × LV} {l : aF} (u : cK x lv (p :: l) l') : (p.1 = x /\ l' = (x, lv) :: l) \/ ∃ l2, l' = p :: l2 /\ cK x lv l l2 := by
 cases u with
 | head => exact .inl ⟨rfl, rfl⟩
 | tail u => exact .inr (eO _ rfl u)
theorem cK.at {x : Str} {lv v : LV} {l2 : aF} (h2 : x ∉ l2.map (·.1)) {l1 : aF} (u : cK x lv (l1 ++ (x, v) :: l2) l') (h : x ∉ l1.map (·.1)) : l' = l1 ++ (x, lv) :: l2 := by
 induction l1 generalizing l' with
 | nil => exact u.inv.elim (fun e => e.2) fun ⟨_, _, u⟩ => (h2 u.mem).elim
 | cons p l1 ih =>
  rcases u.inv with ⟨e, _⟩ | ⟨l3, e, u⟩
  ·exact (h (e ▸ .head _)).elim
  ·rw [e]; exact congrArg _ (ih u fun z => h (.tail _ z))
theorem bH.put {m m' : cV} {x : Str} {lv : LV} {o' : bB} (hm : ∀ y, y ≠ x -> m' y = m y) (hv : qS ρ G m' x lv o') {loc : aF} (u : cK x lv loc aC) (h : bH ρ G m loc os) (nd : (loc.map (·.1)).Nodup) :
  ∃ o1 o o2, os = o1 ++ (o ++ o2) /\ bH ρ G m' aC (o1 ++ (o' ++ o2)) := by
 obtain ⟨w, hw⟩ := u.PM;obtain ⟨l1, l2, o1, o, o2, rfl, rfl, h1, hx, h2, n1, n2⟩ := h.at hw nd;rw [u.at n2 n1];exact (La o1 o o2 rfl ((h1.other hm n1).append (hv.cons (h2.other hm n2))))
theorem bH.Js {m : cV} {x : Str} {v : V} {val : Value} (hv : VR ρ G v val) {loc : aF} (u : cK x (.val v) loc aC) (h : bH ρ G m loc os) (nd : (loc.map (·.1)).Nodup) : ∃ uU, bH ρ G (mT m x val) aC uU /\ uU.Sublist os := by
 refine wZ (h.put tF (.val vI hv) u nd) fun o1 o o2 cN k => ?_;subst cN;exact (eO _ k ((List.Sublist.refl o1).append (List.sublist_append_right o o2)))
theorem bY {h₀ h : Heap} {L : Addr} {a b : bB} (N : News h₀ L h b) (s : ∀ p ∈ a, p ∈ b) : News h₀ L h a := fun p hp => N p (s p hp)
theorem dJ {a b : bB} (n : (b.map (·.1)).Nodup) (s : a.Sublist b) : (a.map (·.1)).Nodup := n.sublist (s.map _)
theorem bJ.Js {C : Cx} {ρ : bZ} {G fo : bB} {σ : bQ} {m : cV} {loc aC : aF} {h h' : Heap} {x : Str} {v : V} {val : Value} (I : bJ C ρ G fo σ m loc h) (u : cK x (.val v) loc aC) (hv : VR ρ G v val)
  (F : Fr C.h₀ C.L h' (mT m x val)) (N : ∀ news, News C.h₀ C.L h news -> News C.h₀ C.L h' news) : bJ C ρ G fo σ (mT m x val) aC h' := by
 obtain ⟨⟨ls, os, a, b, c, d⟩, _, nd⟩ := I;refine aR (b.Js hv u nd) fun uU b' sb => ?_;have sl : (ls ++ (uU ++ (fo ++ G))).Sublist (ls ++ (os ++ (fo ++ G))) := (List.Sublist.refl _).append (sb.append (.refl _));exact ⟨⟨ls, uU, a, b', N _ (bY c sl.subset), dJ d sl⟩, F, by rw [u.names]; exact nd⟩
section rules
variable {D : Nat} {C : Cx} {X : dW} {loc : aF}
theorem eG {x : Str} (ok : fM g D C) (hx : (envX C.cn C.cs C.L C.a C.Bu C.cl).kindOf x = some .local) {G fo m s : _} (I : bJ C ρ G fo σ m loc s.heap) {v : V} {val : Value} (hv : VR ρ G v val) (u : cK x (.val v) loc aC)
  {Q : Unit -> Shared -> Prop} (k : ∀ h' aN, bJ C ρ G fo σ (mT m x val) aC h' -> Q () (St s h' aN)) : wpAny (model g.prog g.w) C.A (storeName C.env x val) Q E s := by
 obtain ⟨ls, os, a, b, c, d⟩ := I.ex;refine wpAny_storeName_local hx I.fr.ns (fun h' hn hs => ?_) (by show (C.cs.kind == .class || (C.cs.kind == .module && C.L != mainGlobals)) = false; rw [ok.kind]; rfl);exact k h' _ (I.Js u hv (I.fr.set hn hs) fun news N => N.set hs)
inductive NU (x : Str) (Q : dD) (v : V) (l : aF) (s : bQ) : Prop
 | mk (l' : aF) (u : cK x (.val v) l l') (h : Q .next l' s)
theorem SW.assign {x : Str} {p pos : Pos} {e : Expr} {Q : dD} (hs : swapsWith e (some (.Name x p)) pos.line C.env = pure false) (hx : (envX C.cn C.cs C.L C.a C.Bu C.cl).kindOf x = some .local)
  (h : EW g D C ρ X e loc σ (NU x Q)) : iB g D C ρ X (.Assign [.Name x p] e pos) loc σ Q := by
 refine .of fun ok G fo m s I Qr Er q qe => ?_;refine wpAny_Assign_Name (h.out ok G fo m s I _ _ (fun v aC aW G' val h' aN z1 z2 z3 z4 => ?_) qe.at) hs;obtain ⟨l', u, z⟩ := z1;exact eG ok hx (s := (St s h' aN)) z4 z3 u fun h2 t2 I2 => q .next l' aW G' _ .next h2 t2 z z2 .next I2
theorem SW.aug {x : Str} {p pos : Pos} {op : Operator} {e : Expr} {v : V} {Q : dD} (hx : (envX C.cn C.cs C.L C.a C.Bu C.cl).kindOf x = some .local) (hv : (x, LV.val v) ∈ loc)
  (h : EW g D C ρ X e loc σ (fun b l s => ∀ (G : bB) (eB : Shared) (av bv : Value), VR ρ G v av -> VR ρ G b bv -> ∀ (T : cY) (E : cY),
   (∀ r val tk, (∃ l', cK x (.val r) l l' /\ Q .next l' s) -> VR ρ G r val -> T val { eB with toks := tk }) -> wpAny (model g.prog g.w) C.A (inplaceOp op av bv) T E eB)) : iB g D C ρ X (.AugAssign (.Name x p) op e pos) loc σ Q := by
 refine .of fun ok G fo m s I Qr Er q qe => ?_;obtain ⟨ls, os, a, b, c, d⟩ := I.ex;refine aR (b.get hv) fun av e1 e2 => ?_;refine wpAny_AugAssign_Name (wpAny_loadName_local ok.kind hx I.fr.ns e1 ?_);refine h.out ok G fo m s I _ _ (fun b aC aW G' bv h' aN z1 z2 z3 z4 => ?_) qe.at;refine z1 G' _ av bv (e2.mono z2) z3 _ _ fun r val tk y1 y2 => ?_;refine aR y1 fun l' u z => ?_;exact eG ok hx (s := (St s h' tk)) z4 y2 u fun h2 t2 I2 => q .next l' aW G' _ .next h2 t2 z z2 .next I2
inductive DG (x : Str) (f : Int -> Int) (Q : dD) (b : V) (l : aF) (s : bQ) : Prop
 | mk (j : Int) (hb : b = .int j) (l' : aF) (u : cK x (.val (.int (f j))) l l') (h : Q .next l' s)
theorem SW.Cs {x : Str} {p pos : Pos} {e : Expr} {Q : dD} (hx : (envX C.cn C.cs C.L C.a C.Bu C.cl).kindOf x = some .local) (hv : (x, LV.val (.int i)) ∈ loc)
  (h : EW g D C ρ X e loc σ (DG x (i + ·) Q)) : iB g D C ρ X (.AugAssign (.Name x p) .Add e pos) loc σ Q := by
 refine SW.aug hx hv (h.mono fun b l s z => ?_);obtain ⟨j, rfl, l2, u, z⟩ := z;intro G s av bv ha hb T E k;induction ha.out; induction hb.out
 exact PyProof.Rows.iadd_int (k _ _ _ (eO l2 u z) .int)
theorem SW.Xa {x : Str} {p pos : Pos} {e : Expr} {Q : dD} (hx : (envX C.cn C.cs C.L C.a C.Bu C.cl).kindOf x = some .local) (hv : (x, LV.val (.int i)) ∈ loc)
  (h : EW g D C ρ X e loc σ (DG x (i - ·) Q)) : iB g D C ρ X (.AugAssign (.Name x p) .Sub e pos) loc σ Q := by
 refine SW.aug hx hv (h.mono fun b l s z => ?_);obtain ⟨j, rfl, l2, u, z⟩ := z;intro G s av bv ha hb T E k;induction ha.out; induction hb.out
 exact PyProof.Rows.isub_int (k _ _ _ (eO l2 u z) .int)
noncomputable def V.small (v : V) : Bool := v.sel false true (fun U => true) (fun U => true) (fun U => true)
def Wn (P : Prop) (val : Value) : Prop :=
 match val with
 | .ref _ => False
 | _ => P
theorem yC {P : Prop} {v : V} {val : Value} (hu : v.small = true) (h : VR ρ G v val) (p : P) : Wn P val := by
 cases v with
 | none => induction h.out; exact p
 | bool b => induction h.out; exact p
 | int i => induction h.out; exact p
 | str s => induction h.out; exact p
 | _ => exact (Bool.false_ne_true hu).elim
structure IB (Q : dD) (v : V) (l : aF) (s : bQ) : Prop where
 sm : v.small = true
 h : Q .next l s
theorem SW.expr {e : Expr} {pos : Pos} {Q : dD} (hi : interactive C.env = false) (hs : swapsWith e none pos.line C.env = pure false)
  (h : EW g D C ρ X e loc σ (IB Q)) : iB g D C ρ X (.Expr e pos) loc σ Q := by
 refine .of fun ok G fo m s I Qr Er q qe => ?_;refine wpAny_Expr (h.out ok G fo m s I _ _ (fun v aC aW G' val h' aN z1 z2 z3 z4 => ?_) qe.at) hi hs;exact yC z1.sm z3 (q .next aC aW G' m _ h' aN z1.h z2 .next z4)
end rules
end
inductive IV (g : Gl) (f : Addr) (qual : Str) (params : Arguments) (body : List Stmt) (scope : Scope) (dV eW : Value) : Prop
 | mk (oc od name kV doc pm an ct Bv : _) (e : g.K.lookup f = some ⟨oc, od, .func (fnOf name qual params body scope dV kV doc pm an eW ct), Bv⟩)
structure xM (g : Gl) (f : Addr) (qual : Str) (params : Arguments) (body : List Stmt) (scope : Scope) (dV eW : Value) : Prop where
 lk : IV g f qual params body scope dV eW
 cd : codeIn g.K eW qual = true
 co : scope.isCoroutine = false
 gen : scope.isGenerator = false
 kd : scope.kind = .function
 cell : ∀ x ∈ scope.names, x.2 ≠ .cell
noncomputable def iC : List Str -> List V -> List Str -> aF
 | [], _, r => r.map fun n => (n, .un)
 | n :: ns, vs, r =>
  match vs with
  | v :: vs => (n, .val v) :: iC ns vs r
  | [] => r.map fun n => (n, .un)
theorem mY {ns : List Str} {vs : List V} {r : List Str} (h : ns.length = vs.length) : (iC ns vs r).map (·.1) = ns ++ r := by
 induction ns generalizing vs with
 | nil =>
  show (r.map fun n => (n, LV.un)).map (·.1) = r;rw [List.map_map]; exact List.map_id r
 | cons n ns ih =>
  induction vs with
  | nil => cases h
  | cons v vs => exact congrArg (n :: ·) (ih (Nat.succ.inj h))
theorem yG {ρ : bZ} {G : bB} {m : cV} : ∀ r : List Str, bH ρ G m (r.map fun n => (n, LV.un)) []
 | [] => .nil
 | _ :: r => .un (yG r)
theorem wB {m : cV} {ns : List Str} {vs : List V} {vals : List Value} {r : List Str} (a : cA ρ G vs vals) (h : ns.length = vs.length) (k : ∀ p ∈ ns.zip vals, m p.1 = some p.2) : bH ρ G m (iC ns vs r) [] := by
 induction ns generalizing vs vals with
 | nil => exact yG r
 | cons n ns ih =>
  induction vs with
  | nil => exact yG r
  | cons v vs => induction a.out with | cons x y => exact .val (k (n, _) (.head _)) x (ih y (Nat.succ.inj h) fun p hp => k p (.tail _ hp))
theorem iF {l : List (Str × Value)} {x : Str} (n : (l.map (·.1)).Nodup) (h : (x, v) ∈ l) : l.lookup x = some v := by
 induction l with
 | nil => cases h
 | cons p r ih =>
  rw [List.lookup_cons]
  rcases List.mem_cons.mp h with q | q
  ·rw [← q]; simp only [beq_self_eq_true]
  ·have hx : ¬ x = p.1 := fun z => (List.nodup_cons.mp n).1 (List.mem_map.mpr ⟨_, q, z⟩);rw [beq_eq_false_iff_ne.mpr hx];exact ih (List.nodup_cons.mp n).2 q
theorem kC {ns : List Str} {vals : List Value} (h : ns.length = vals.length) : (ns.zip vals).map (·.1) = ns := List.map_fst_zip (Nat.le_of_eq h)
noncomputable def iJ (C : Cx) (qual : Str) (scope : Scope) (L' f : Addr) (eW : Value) (h : Heap) : Cx :=
 { cn := qual, cs := scope, L := L', a := f, Bu := eW, cl := [], h₀ := h, base := C.base, outer := C.env :: C.outer, A₀ := C.A, A := C.A.deeper (envOf qual scope L' f eW) }
section
variable {D : Nat}
theorem fM.mono {D D' : Nat} {C : Cx} (h : fM g D' C) (le : D <= D') : fM g D C := ⟨h.below, h.fK, h.top, h.kind, h.frames, by have := h.dep; lia, by have := h.CG; lia⟩
theorem pM {C : Cx} {scope : Scope} {L' f : Addr} {h : Heap} (ok : fM g (D + 1) C) (B : Below C.A C.base (C.env :: C.outer) h) (X : g.K.In h) (T : Top g.p g.loose g.Kq g.mg g.mb h) (hk : scope.kind = .function) :
  fM g D (iJ C qual scope L' f eW h) := by
 refine ⟨B, X, T, hk, Around.frames_deeper ok.frames, ?_, ?_⟩
 ·show C.A.depth + 1 + D < _;have := ok.dep; lia
 ·show C.A.units + 3 + 8 * D < _;have := ok.CG; lia
theorem Pz {C : Cx} {scope : Scope} {L' f : Addr} {h : Heap} {m m' : cV} {loc : aF} {x : uG} {ev : Value} {s : Shared} {M : Model} {Q : Unit -> Shared -> Prop}
  (hA : C.A.frames = some (C.env :: C.outer)) (F : Fr C.h₀ C.L h m) (hl : bH ρ G m loc os) (nd : (loc.map (·.1)).Nodup)
  (y : Bl (iJ C qual scope L' f eW h) ρ G (os ++ fo) σ m' aC x ev s.heap)
  (k : ∀ h' aN, Bl C ρ G fo σ m loc x ev h' -> Q () (St s h' aN)) :
  wpAny M (C.A.deeper (envOf qual scope L' f eW)) (leaving (envOf qual scope L' f eW) ev) Q E s := by
 obtain ⟨⟨e, dx, a0, es, n, vals, ls, uU, B, rfl, hd, he, hv, hs, Xg, hn, hB, hq, fl⟩, up, ns, Ng⟩ := y;refine gC (P := yI B (C.env :: C.outer) e (.ref x.cls) a0 s.heap) (wX _ _) hd (fun k => ?_) fun h' p' BP => ?_
 ·unfold leaving;refine wpAny_bind (sF (L := L') (Around.frames_deeper hA) rfl fl fun h1 RO up1 => ?_);exact wpAny_landsW (s := { s with heap := h1 }) RO fun h' vL OS => k h' ⟨⟨vL.1, vL.2.1, vL.2.2.1.2.2, vL.2.2.2⟩, up1.trans OS⟩
 refine k h' s.toks ⟨⟨e, dx, a0, es, n, vals, ls, os, B, rfl, BP, he, hv, hs, hl, ?_, hB, ?_, .inl p'.1⟩, ?_, ?_, nd⟩
 ·refine hn.sublist (List.Sublist.map _ (List.Sublist.cons₂ _ ((List.Sublist.refl _).append ?_)));rw [← List.append_assoc os fo G];exact List.sublist_append_right uU _
 ·intro q Yg;have hm : q ∈ (dx, dictOf es n) :: (ls ++ (uU ++ ((os ++ fo) ++ G))) := by
   simp only [List.mem_cons, List.mem_append] at Yg ⊢
   rcases Yg with h | h | h | h | h <;> simp [h]
  refine qA (hq q hm) fun b1 b2 b3 => ?_;have b2 : h.get? q.1 = none := b2;refine ⟨b1, ?_, fun z => ?_⟩
  ·cases e1 : C.h₀.get? q.1 with
   | none => rfl
   | some o => rw [F.keep _ _ e1] at b2; cases b2
  ·refine wZ F.ns fun oL U U hL U => ?_;rw [z, hL] at b2; cases b2
 ·exact (Heap.UpToSlots.of_keeps F.keep).trans ((show h.UpToSlots s.heap from up).trans p'.2)
 ·exact p'.2.ns ((show h.UpToSlots s.heap from up).ns F.ns)
noncomputable def eC (Q : jZ) : Fl -> aF -> bQ -> Prop
 | .ret v, _, s => Q v s
 | .next, _, s => Q .none s
 | .brk, _, _ => False
 | .cont, _, _ => False
theorem fM.room {D : Nat} {C : Cx} (ok : fM g D C) : C.A.depth < recursionLimit := Nat.lt_of_le_of_lt (Nat.le_add_right _ _) ok.dep
theorem Br.intro {X : kP} {f : Addr} {args : List V} {kws : List (Str × V)} {Q : jZ} {params : Arguments} {body : List Stmt} {scope : Scope} {names others : List Str} {cR : List Value}
  (fn : xM g f qual params body scope dV eW) (hn : (names ++ others).Nodup) (hlen : names.length = ((args ++ kws.map (·.2)) ++ iI).length) (yU : ∀ ρ G, cA ρ G iI cR)
  (hb : ∀ (vals cT : List Value), vals.length = args.length -> cT.length = kws.length -> ∀ s : Shared, g.K.In s.heap -> ∀ name kV doc pm an ct, BindsTo s (fnOf name qual params body scope dV kV doc pm an eW ct) ⟨vals, (kws.map (·.1)).zip cT⟩ (names.zip ((vals ++ cT) ++ cR)))
  (sH : ∀ x ∈ names, scope.names.lookup x = some .local)
  (h : ∀ (C' : Cx), C'.cs = scope -> C'.cl = [] -> C'.cn = qual -> C'.a = f -> C'.Bu = eW -> C'.A.handled = none -> SW g D C' ρ (fun x U s => X x s) body (iC names ((args ++ kws.map (·.2)) ++ iI) others) σ (eC Q)) :
  Br g D ρ X f args kws σ Q := by
 refine .of fun C ok hh G fo m loc s xW cT I Lc MQ Qr Er q qe => ?_;obtain ⟨vals, Ua⟩ : ∃ vals, vals = xW ++ cT := ⟨_, rfl⟩;have uE : cA ρ G (args ++ kws.map (·.2)) vals := Ua ▸ Lc.append MQ;obtain ⟨⟨ls, os, a, b, c, d⟩, F, nd⟩ := I;obtain ⟨oc, od, name, kV, doc, pm, an, ct, Bv, lk⟩ := fn.lk;have Bq := uE.length;have hz : names.length = (vals ++ cR).length := by
  rw [hlen, List.length_append, List.length_append (as := vals), Bq, (yU ρ G).length]
 refine wpAny_call (code_def ok.below F ok.fK c ok.top ok.frames rfl ok.kind lk fn.cd ok.room (show BindsTo s (fnOf name qual params body scope dV kV doc pm an eW ct) ⟨xW, (kws.map (·.1)).zip cT⟩ (names.zip (vals ++ cR)) from by rw [Ua]; exact hb xW cT Lc.length (by rw [MQ.length, List.length_map]) s (ok.fK.keeps F.keep) name kV doc pm an ct) (fun y hy => sH _ ?_) (fun hp L' iZ Fg F' N' B' X' T' => ?_) fn.co fn.gen fn.kd fn.cell)
 ·have := List.mem_map_of_mem (f := (·.1)) hy
  rwa [kC hz] at this
 ·have JW : names.Nodup := (List.nodup_append.mp hn).1;have Pg : ∀ p ∈ names.zip (vals ++ cR), (names.zip (vals ++ cR)).reverse.lookup p.1 = some p.2 := fun p hp => iF (by
   rw [List.map_reverse, kC hz]; exact List.pairwise_reverse.mpr (JW.imp fun h => h.symm)) (List.mem_reverse.mpr hp)
  have I' : bJ (iJ C qual scope L' f eW hp) ρ G (os ++ fo) σ (fun y => (names.zip (vals ++ cR)).reverse.lookup y) (iC names ((args ++ kws.map (·.2)) ++ iI) others) iZ := by
   refine ⟨⟨ls, [], a, wB (uE.append (yU ρ G)) hlen Pg, ?_, ?_⟩, F', ?_⟩
   ·rw [List.nil_append, List.append_assoc]; exact N'
   ·rw [List.nil_append, List.append_assoc]; exact d
   ·rw [mY hlen]; exact hn
  refine (h (iJ C qual scope L' f eW hp) rfl rfl rfl rfl rfl hh).out (pM ok B' X' T' fn.kd) G (os ++ fo) _ _ I' _ _ (fun fl aC aW G' m' fv h' aN z1 z2 z3 z4 => ?_) (fun x aC aW G' m' ev h' aN z1 z2 z3 => ?_)
  ·obtain ⟨⟨Yo, uU, a', b', c', d'⟩, F2, Ng⟩ := z4;have sl : (Yo ++ (os ++ (fo ++ G'))).Sublist (Yo ++ (uU ++ ((os ++ fo) ++ G'))) := (List.Sublist.refl _).append (by rw [List.append_assoc os fo G']; exact List.sublist_append_right uU _);have key : ∀ v val, Q v aW -> VR ρ G' v val -> LeaveK C.h₀ C.L m hp (fun r s' => match r with | .ok (.ret v) => Qr v s' | .ok _ => False | .error e => Er e s') val (St s h' aN) := fun v val hq hv =>
    ⟨L', m', Yo ++ (os ++ (fo ++ G')), F2, bY c' sl.subset, fun kF kN => q v aW G' val h' aN hq z2 hv ⟨⟨Yo, os, a', b.mono z2, kN, dJ d' sl⟩, kF, nd⟩⟩
   induction z3 with
   | next => exact key .none .none z1 .none
   | brk => exact z1.elim
   | cont => exact z1.elim
   | ret hv => exact key _ _ z1 hv
  ·exact Pz (s := (St s h' aN)) (G := G') ok.frames Fg (b.mono z2) nd z3 (fun ID Ye y => qe x aW G' ev ID Ye z1 z2 y)
end
theorem tQ {n : Str} {t : Tok} : Value.isStr (.str n t) n = true := by simp [Value.isStr]
theorem sA {n name : Str} {t : Tok} (h : n ≠ name) : Value.isStr (.str n t) name = false := by simpa [Value.isStr] using h
theorem Rc {e : DictEntry} {n : Str} {t : Tok} (hk : e.key = .str n t) {es : List DictEntry} : (e :: es).any (·.refKey) = es.any (·.refKey) := by
 rw [List.any_cons, show e.refKey = false from by simp [DictEntry.refKey, hk]]; rfl
theorem vE {e : DictEntry} {n name : Str} {t : Tok} {es : List DictEntry} (hk : e.key = .str n t) (hn : n ≠ name) : getL name (e :: es) = getL name es := by
 unfold getL;rw [List.find?_cons, hk, sA hn, Rc hk]
theorem Hm {e : DictEntry} {n : Str} {t : Tok} {es : List DictEntry} (hk : e.key = .str n t) : getL n (e :: es) = some (some e.val) := by
 unfold getL;rw [List.find?_cons, hk, tQ]
theorem jK {name : Str} {es : List DictEntry} {ns : List Str} {vals : List Value} (h : eJ es ns vals) (nd : ns.Nodup) (hm : (name, v) ∈ ns.zip vals) : getL name es = some (some v) := by
 induction h with
 | nil => cases hm
 | cons t hk r ih =>
  obtain ⟨n1, n2⟩ := List.nodup_cons.mp nd
  rcases List.mem_cons.mp hm with q | q
  ·cases q; exact Hm hk
  ·exact (vE hk fun z => n1 (z ▸ (List.of_mem_zip q).1)).trans (ih n2 q)
theorem fX {name : Str} {es : List DictEntry} {ns : List Str} {vals : List Value} (h : eJ es ns vals) (hm : name ∉ ns) : getL name es = some none := by
 induction h with
 | nil => rfl
 | cons t hk r ih => exact (vE hk fun z => hm (z ▸ .head _)).trans (ih fun z => hm (.tail _ z))
structure lF (g : Gl) (C : Addr) (name : Str) (f : Addr) : Prop where
 pg : plainGet g.K C name = true
 fi : findIn g.K (.ref C) name = some (some (.ref f))
 fn : isFn g.K (.ref f) = true
 kp : keepIn g.K (.ref f) = true
noncomputable def eA (sc : Sc) : List V := [.str "<unicode string>", .none, .int 0, .bool true, .str sc.buf, .int sc.ptr, .none, .none, .none, .int sc.index, .int sc.line, .int sc.col, .bool sc.done, .int sc.aA, .toks, .int sc.taken, .int sc.indent, .rC, .bool sc.allow]
theorem eP : aD.Nodup := by decide +kernel
inductive Bz (ρ : bZ) (G : bB) (sc : Sc) (h : Heap) : Prop
 | mk (es : List DictEntry) (n : Nat) (vals : List Value) (IA : InstAt h ρ.aS (instObj 1048 ρ.dS) 1048 (some (dictOf es n))) (hE : eJ es aD vals) (hV : cA ρ G (Fe sc sc.cQ) vals)
theorem bJ.view {C : Cx} {sc : Sc} {m : cV} {loc : aF} {h : Heap} (I : bJ C ρ G fo (some sc) m loc h) : Bz ρ G sc h := by
 obtain ⟨ls, os, a, b, c, d⟩ := I.ex;obtain ⟨es, n, vals, vT, nT, nI, aK, eK, nK, tI, rfl, hS, hE, hI, hT, hK, hV⟩ := a;have e := hK.ea;subst e;exact ⟨es, n, vals, InstAt.of_news c (List.mem_append_right _ (List.mem_append_right _ (List.mem_append_right _ hS))) (.head _), hE, hV⟩
def IP (o : Expr) (name : Str) (apos pos : Pos) (args : List Expr) (env : Env) : Prop := ∃ pl, eval (.Call (.Attribute o name apos) args [] pos) env = (do
   let ov ← eval o env
   standAt apos.atName
   let (f, first) ← holding [ov] (getMethod ov name pl)
   callWith pos f first (backTo pos (starEach args env)) [])
noncomputable def noStar : List Expr -> Bool
 | [] => true
 | e :: r => e.ctorIdx != 22 && noStar r
noncomputable def By (e : Expr) : Bool := e.ctorIdx != 16
noncomputable def MG (o : Expr) (apos pos : Pos) (args : List Expr) : Option Nat := bif By o && (apos.endLine == pos.line && (noStar args && Nat.blt args.length 30)) then some 0 else none
def bS (o : Expr) (name : Str) (apos pos : Pos) (args : List Expr) (env : Env) : Prop := ∃ n, MG o apos pos args = some n
def aH (pos : Pos) (args : List Expr) (env : Env) : Prop := noStar args = true
theorem Ji {e : Expr} {r : List Expr} {env : Env} (h : (e.ctorIdx != 22) = true) : starEach (e :: r) env = (false, eval e env) :: starEach r env := by
 cases e <;> first | rfl | exact nomatch h
theorem qQ : ∀ {args : List Expr} {env : Env}, noStar args = true -> starEach args env = args.map fun e => (false, eval e env)
 | [], _, _ => rfl
 | e :: r, env, h =>
  have h := (Bool.and_eq_true _ _).mp h
  (Ji h.1).trans (congrArg (_ :: ·) (qQ h.2))
theorem aH.eq {pos : Pos} {args : List Expr} {env : Env} (h : aH pos args env) : backTo pos (starEach args env) = args.map fun e => (false, eval e env) := by
 rw [qQ h];unfold backTo;rw [List.map_map]
 rfl
theorem Ef {o : Expr} {name : Str} {env : Env} {m : Sem Value} (h : By o = true) : attributeBase o name env m = m := by
 cases o <;> first | rfl | exact nomatch h
theorem bS.eq {o : Expr} {name : Str} {apos pos : Pos} {args : List Expr} {env : Env} (h : bS o name apos pos args env) : IP o name apos pos args env := by
 obtain ⟨n, h⟩ := h;unfold MG at h;cases e : (By o && (apos.endLine == pos.line && (noStar args && Nat.blt args.length 30))) with
 | false => rw [e] at h; cases h
 | true =>
 obtain ⟨h1, e⟩ := (Bool.and_eq_true _ _).mp e;obtain ⟨h2, e⟩ := (Bool.and_eq_true _ _).mp e;obtain ⟨h3, h4⟩ := (Bool.and_eq_true _ _).mp e;refine ⟨do return (← importBound o env).getD true, ?_⟩;have hs := aH.eq (pos := pos) (env := env) h3;have GY : (backTo pos (starEach args env)).all (!·.1) = true := by
  rw [hs, List.all_map];exact List.all_eq_true.mpr fun U U => rfl
 have hn : args.length + 0 + 0 < 30 := Nat.le_of_ble_eq_true h4;have hf : methodCallForm (args.length + 0) (backTo pos (starEach args env)) [] = true := by
  unfold methodCallForm;rw [GY];exact decide_eq_true hn
 rw [arm_eval_Call, Ef h1];unfold methodCall methodCallPos calleeOf;show (do
  let ov ← eval o env
  standAt apos.atName
  let (f, first) ← holding [ov] (if methodCallForm (args.length + 0) (backTo pos (starEach args env)) [] then getMethod ov name (do return (← importBound o env).getD true) else do pure (← getAttr ov name true, []))
  let Ri ← (if !methodCallForm (args.length + 0) (backTo pos (starEach args env)) [] || apos.endLine == pos.line then pure pos else _)
  callWith Ri f first (backTo pos (starEach args env)) []) = _
 rw [hf, h2]
 rfl
section
variable {D : Nat} {C : Cx} {X : dW} {loc : aF}
noncomputable def AW (g : Gl) (D : Nat) (C : Cx) (ρ : bZ) (X : dW) : List Expr -> aF -> bQ -> (List V -> aF -> bQ -> Prop) -> Prop
 | [], loc, σ, Q => Q [] loc σ
 | e :: r, loc, σ, Q => EW g D C ρ X e loc σ (fun v l s => AW g D C ρ X r l s (fun vs => Q (v :: vs)))
theorem AW.run {args : List Expr} {loc : aF} {Q : List V -> aF -> bQ -> Prop} (h : AW g D C ρ X args loc σ Q) (ok : fM g D C) {G fo m s : _} (I : bJ C ρ G fo σ m loc s.heap) {t : List Value -> Shared -> Prop}
  (qe : uI C ρ G fo m s X Er)
  (k : ∀ vs aC aW G' vals h' aN, Q vs aC aW -> Sub G G' -> cA ρ G' vs vals -> bJ C ρ G' fo aW m aC h' ->
   uI C ρ G' fo m (St s h' aN) X Er -> t vals (St s h' aN)) :
  wpAny (model g.prog g.w) C.A (spliced (args.map fun e => (false, eval e C.env))) t Er s := by
 induction args generalizing loc σ Q G s t with
 | nil => exact spliced_nil (k [] loc σ G [] s.heap s.toks h (.refl _) .nil I qe)
 | cons e r ih =>
  refine spliced_cons (EW.seq1 h ok I qe fun v bP fE G1 val h1 dB z1 z2 z3 z4 gU => ?_);refine ih z1 (s := (St s h1 dB)) z4 gU fun vs bG fV G2 vals h2 eM y1 y2 y3 y4 mU => ?_;exact k (v :: vs) bG fV G2 (val :: vals) h2 eM y1 (z2.trans y2) (.cons (z3.mono y2) y3) y4 mU
theorem dN {pos : Pos} {f : Value} {first : List Value} {args : List Expr} {Q : cY} {s : Shared} (hs : aH pos args C.env) (hk : keepIn g.K f = true)
  (h : wpAny (model g.prog g.w) C.A (spliced (args.map fun e => (false, eval e C.env))) (fun vals eB => g.K.In eB.heap /\ wpAny (model g.prog g.w) C.A (call f (first ++ vals)) Q E eB) E s) :
  wpAny (model g.prog g.w) C.A (callWith pos f first (backTo pos (starEach args C.env)) []) Q E s := by
 have hs := hs.eq;rw [hs];refine callWith_of (P := g.K.In) ?_ (keeps_K hk) ?_
 ·induction args with
  | nil => rfl
  | cons e r ih =>
   simp [List.any_map, Function.comp_def]
 ·induction args with
  | nil =>
   unfold evalArgs;show wpAny _ _ (spliced [] >>= _) _ _ _;refine wpAny_bind (wpAny_mono h (fun vs eB z => ?_) fun U U z => z);refine wpAny_bind (wpAny_pure ?_);refine wpAny_holding ?_;simp only [List.all_nil, if_true, List.map_nil, List.filterMap_nil];refine wpAny_bind (wpAny_evalAll_nil ?_);exact wpAny_bind (wpAny_pure (wpAny_pure z))
  | cons e r => exact evalArgs_plain h
theorem EW.Ab {D' : Nat} {o : Expr} {name : Str} {pos : Pos} {args : List Expr} {f : Addr} (hh : C.A.handled = Option.none) (hm : lF g 1048 name f) (hn : name ∉ aD) (hD : D' + 1 <= D) (he : bS o name apos pos args C.env) (hs : aH pos args C.env)
  (h : EW g D C ρ X o loc σ (fun v l s => v = .self /\ s.isSome /\ AW g D C ρ X args l s (fun vs l' s' => FW g D' ρ (fun x s => X x l' s) f (.self :: vs) s' (fun r s2 => Q r l' s2)))) :
  EW g D C ρ X (.Call (.Attribute o name apos) args [] pos) loc σ Q := by
 refine .of fun ok G fo m s I Qr Er q qe => ?_;obtain ⟨pl, he⟩ := he.eq;refine MethodCall_ (EW.seq1 h ok I qe fun v bP fE G1 val h1 dB z1 z2 z3 z4 gU => ?_) he;obtain ⟨rfl, tU, z⟩ := z1;induction z3.out
 obtain ⟨sc, rfl⟩ := Option.isSome_iff_exists.mp tU;obtain ⟨es, n, vals, IA, hE, -⟩ := z4.view;refine method_inst (s := (St s h1 dB)) z4.fr ok.fK IA hm.pg hm.fi hm.fn (fX hE hn) ?_;refine dN hs hm.kp ?_;refine AW.run z ok (s := (St s h1 dB)) z4 gU fun vs bG fV G2 vals2 h2 eM y1 y2 y3 y4 mU => ?_;refine ⟨ok.fK.keeps y4.fr.keep, ?_⟩;exact y1.out C (ok.mono hD) hh G2 fo m bG (St s h2 eM) _ [] y4 (.cons .self y3) .nil Qr Er
  (fun v aW G' val h' aN w1 w2 w3 w4 => q v bG aW G' val h' aN w1 (fun p hp => w2 p (y2 p (z2 p hp))) w3 w4)
  (fun x aW G' ev h' aN w1 w2 w3 => mU x bG aW G' ev h' aN w1 w2 w3)
end
noncomputable def vD (K : Frag) (C : Addr) : Bool := findIn K (.ref C) "__getattribute__" == some (some (.builtin "BaseException.__getattribute__")) && (findIn K (.ref C) "__getattr__" == some Option.none && mroIn K C (.type "BaseException") == some true)
section
variable {prog : Program} {w : World} {A : Around} {s : Shared} {K : Frag} {x C : Addr} {ox : Obj} {od : Option Obj} {name : Str} {expr : Bool} {Q : cY}
theorem Qd (X : K.In s.heap) (I : InstAt s.heap x ox C od) (hb : mroIn K C (.type "BaseException") = some true) (hf : findObj K C od name = some (.value v)) {tk : Tok} {R : Result -> Shared -> Prop} (h : R (.ok (.ret v)) s) :
  codeAny (model prog w) A (.call (.builtin "BaseException.__getattribute__") ⟨[.ref x, .str name tk], []⟩) R s := by
 have L0 := I.type (M := model prog w);have L1 := looks_find (M := model prog w) X I hf;refine codeAny_call_builtin F.attr_Exception.ga.plain F.entry_bexc_ga ?_;have hk : builtinKind "BaseException.__getattribute__" = some .slot := by decide +kernel
 have De : splitId "BaseException.__getattribute__" = some ("BaseException", "__getattribute__") := by decide +kernel
 have JU := looks_mroIn (M := model prog w) X hb;have ha := F.args_bexc_ga (.ref x) (.str name tk);simp only [checkBuiltinCall, hk, De];refine wpAny_bind ?_;unfold isInstance;refine wpAny_bind (L0.here (JU.here ?_));obtain ⟨hh, g, d, t, os⟩ := s;rw [if_neg (by decide)];unfold Builtin.«object.__getattribute__»
 repeat (first | (with_reducible refine L0.here ?_) | (with_reducible refine L1.here ?_) | wp_step)
 exact h
theorem Eb (X : K.In s.heap) (I : InstAt s.heap x ox C od) (hp : vD K C = true) (hf : findObj K C od name = some (.value v)) (hh : handedIn v = true) (h : Q v { s with toks := s.toks + 1 }) : wpAny (model prog w) A (getAttr (.ref x) name expr) Q E s := by
 obtain ⟨h1, hp⟩ := (Bool.and_eq_true _ _).mp hp;obtain ⟨h2, hp⟩ := (Bool.and_eq_true _ _).mp hp;have L0 := I.type (M := model prog w);have L1 := looks_findIn (M := model prog w) X (beq_iff_eq.mp h1);have L2 := looks_findIn (M := model prog w) X (beq_iff_eq.mp h2);obtain ⟨UD, g, d, t, os⟩ := s;unfold getAttr getAttrBy;refine wpAny_bind (wpAny_mkText (wpAny_holding (wpAny_bind (L0.at (wpAny_bind (L1.at ?_))))));dsimp only;rw [if_neg (by show ¬ (true && (Value.builtin "BaseException.__getattribute__" == Value.builtin "object.__getattribute__")) = true; decide +kernel)];unfold getAttrByItsOwn hookBefore callGetattribute boundAndCalled;rw [if_pos (show onTheHeap (Value.ref C) = true from rfl)];refine wpAny_bind (L2.at (wpAny_bind (wpAny_attempt (wpAny_holding ?_))));rw [if_neg (by show ¬ (expr && false) = true; rw [Bool.and_false]; decide)];refine wpAny_bind (wpAny_of_eq (F.attr_Exception.ga.bind _) ?_);refine wpAny_call (Qd (s := ⟨UD, g, d, t + 1, os⟩) X I (beq_iff_eq.mp hp) hf ?_);dsimp only;rw [handedOut_of hh];exact wpAny_pure h
noncomputable def Cn (K : Frag) (C : Addr) (name : Str) : Bool := plainGet K C name || vD K C
theorem kW {h₀ : Heap} {L : Addr} {m : cV} {es : List DictEntry} {n : Nat} {attr : Option Value} (F : Fr h₀ L s.heap m) (DO : K.In h₀) (I : InstAt s.heap x ox C (some (dictOf es n))) (hg : Cn K C name = true) (hh : hasDictIn K C = true)
  (ha : findIn K (.ref C) name = some attr) (hn : noGet K attr = true) (hl : getL name es = some (some v)) (hv : handedIn v = true) (h : Q v { s with toks := s.toks + 1 }) :
  wpAny (model prog w) A (getAttr (.ref x) name expr) Q E s :=
 ((Bool.or_eq_true _ _).mp hg).elim (fun hg => get_own F DO I hg hh ha hn hl hv h) fun hg => Eb (DO.keeps F.keep) I hg (findObj_own hh ha hn hl) hv h
end
noncomputable def V.plain (v : V) : Bool := V.casesOn v true (fun U => true) (fun U => true) (fun U => true) (fun U => false) (fun U U U => true) (fun U => true) (fun U => true) true true true false
theorem VR.handed {v : V} {val : Value} (h : VR ρ G v val) (hp : v.plain = true) : handedIn val = true := by
 cases v with
 | glob _ => exact (Bool.false_ne_true hp).elim
 | rK => exact (Bool.false_ne_true hp).elim
 | _ => induction h.out <;> rfl
theorem cA.zip {name : Str} {v : V} {ns : List Str} {vs : List V} {vals : List Value} (x : cA ρ G vs vals) (h : (name, v) ∈ ns.zip vs) : ∃ val, (name, val) ∈ ns.zip vals /\ VR ρ G v val := by
 induction vs generalizing vals ns with
 | nil => rw [List.zip_nil_right] at h; cases h
 | cons u vs ih =>
  induction ns with
  | nil => cases h
  | cons n ns =>
   induction x.out with
   | cons a b =>
    rcases List.mem_cons.mp h with q | q
    ·cases q; exact (eO _ (.head _) a)
    ·refine aR (ih b q) fun val h1 h2 => ?_;exact (eO val (.tail _ h1) h2)
theorem cA.set {v : V} {val : Value} (hv : VR ρ G v val) {vs : List V} {vals : List Value} (i : Nat) (h : cA ρ G vs vals) : cA ρ G (vs.set i v) (vals.set i val) := by
 induction vs generalizing vals i with
 | nil => induction h.out; exact .nil
 | cons u vs ih =>
  induction h.out with
  | cons a b =>
   induction i with
   | zero => exact .cons hv b
   | succ i => exact .cons a (ih i b)
theorem eJ.length {es : List DictEntry} {ns : List Str} {vals : List Value} (h : eJ es ns vals) : es.length = ns.length /\ vals.length = ns.length := by
 induction h with
 | nil => exact ⟨rfl, rfl⟩
 | cons _ _ _ ih => exact ⟨congrArg (· + 1) ih.1, congrArg (· + 1) ih.2⟩
theorem eJ.put {hsh : Int} {key : Value} {name : Str} {es : List DictEntry} {ns : List Str} {vals : List Value} (h : eJ es ns vals) : ∀ {i : Nat}, ns.Nodup -> ns[i]? = some name -> eJ (putL name hsh key v es) ns (vals.set i v) := by
 induction h with
 | nil => intro i _ hi; cases hi
 | @cons e es n ns vs t hk r ih =>
  intro i nd hi;unfold putL;rw [hk];induction i with
  | zero =>
   cases hi;rw [tQ, if_pos rfl];exact .cons t rfl r
  | succ i =>
   have hi := (List.getElem?_cons_succ).symm.trans hi;have hn : n ≠ name := fun z => (List.nodup_cons.mp nd).1 (z ▸ List.mem_of_getElem? hi);rw [sA hn, if_neg Bool.false_ne_true];exact .cons t hk (ih (List.nodup_cons.mp nd).2 hi)
structure eT (g : Gl) (C : Addr) (name : Str) : Prop where
 pg : Cn g.K C name = true
 hd : hasDictIn g.K C = true
 fi : ∃ attr, findIn g.K (.ref C) name = some attr /\ noGet g.K attr = true
structure mW (g : Gl) (C : Addr) : Prop where
 fi : findIn g.K (.ref C) "__setattr__" = some (some (.builtin "object.__setattr__"))
 po : plainOver g.K C = true
 hd : hasDictIn g.K C = true
section
variable {D : Nat} {C : Cx} {X : dW} {loc : aF}
theorem DQ (sc : Sc) (aK : Addr) : Fe sc aK = eA sc ++ [V.glob (.ref aK)] := rfl
theorem Bg {α β : Type} {p : α × β} {n : α} {b : β} {ns : List α} {vs : List β} (h : p ∈ ns.zip vs) : p ∈ ns.zip (vs ++ [b]) := by
 induction vs generalizing ns with
 | nil => rw [List.zip_nil_right] at h; cases h
 | cons v vs ih =>
  induction ns with
  | nil => cases h
  | cons n ns =>
   exact List.mem_cons.mpr ((List.mem_cons.mp h).imp id ih)
theorem Fn {name : Str} {u : V} {ns : List Str} {vs : List V} {i : Nat} (h : ns[i]? = some name) (h' : vs[i]? = some u) : (name, u) ∈ ns.zip vs := by
 induction ns generalizing vs i with
 | nil => cases h
 | cons n ns ih =>
  induction vs with
  | nil => cases h'
  | cons v vs =>
   induction i with
   | zero => cases h; cases h'; exact .head _
   | succ i => exact .tail _ (ih h h')
inductive DZ (ρ : bZ) (G : bB) (name : Str) (u : V) (h : Heap) : Prop
 | mk (es : List DictEntry) (n : Nat) (val : Value) (IA : InstAt h ρ.aS (instObj 1048 ρ.dS) 1048 (some (dictOf es n))) (hg : getL name es = some (some val)) (hv : VR ρ G u val)
theorem Bz.fld {sc : Sc} {h : Heap} {name : Str} {u : V} (w : Bz ρ G sc h) (hu : (name, u) ∈ aD.zip (Fe sc sc.cQ)) : DZ ρ G name u h := by
 obtain ⟨es, n, vals, IA, hE, hV⟩ := w;refine aR (cA.zip hV hu) fun val m1 m2 => ?_;exact ⟨es, n, val, IA, jK hE eP m1, m2⟩
theorem EW.Le {o : Expr} {name : Str} {pos : Pos} (hm : eT g 1048 name)
  (he : eval (.Attribute o name pos) C.env = (do
   let ov ← eval o C.env
   standAt pos.atName
   let r ← holding [ov] (getAttr ov name true)
   letTemporaryGo o ov r
   pure r))
  (h : EW g D C ρ X o loc σ (fun v l s => v = .self /\ ∃ sc u, s = some sc /\ (name, u) ∈ aD.zip (eA sc) /\ u.plain = true /\ Q u l s)) :
  EW g D C ρ X (.Attribute o name pos) loc σ Q := by
 refine .of fun ok G fo m s I Qr Er q qe => ?_;refine Attribute_any_ (EW.seq1 h ok I qe fun v bP fE G1 val h1 dB z1 z2 z3 z4 gU => ?_) he;obtain ⟨rfl, sc, u, rfl, hu, hp, z⟩ := z1;induction z3.out
 obtain ⟨es, n, val, IA, hg, hv⟩ := z4.view.fld (Bg (n := name) hu);refine aR hm.fi fun attr f1 f2 => ?_;exact kW (s := (St s h1 dB)) z4.fr ok.fK IA hm.pg hm.hd f1 f2 hg (hv.handed hp) (q u bP _ G1 val h1 _ z z2 hv z4)
theorem EW.Jj {o : Expr} {pos : Pos} (hm : eT g 1048 "possible_simple_keys")
  (he : eval (.Attribute o "possible_simple_keys" pos) C.env = (do
   let ov ← eval o C.env
   standAt pos.atName
   let r ← holding [ov] (getAttr ov "possible_simple_keys" true)
   letTemporaryGo o ov r
   pure r))
  (h : EW g D C ρ X o loc σ (fun v l s => v = .self /\ ∃ sc, s = some sc /\ Q (.glob (.ref sc.cQ)) l s)) :
  EW g D C ρ X (.Attribute o "possible_simple_keys" pos) loc σ Q := by
 refine .of fun ok G fo m s I Qr Er q qe => ?_;refine Attribute_any_ (EW.seq1 h ok I qe fun v bP fE G1 val h1 dB z1 z2 z3 z4 gU => ?_) he;obtain ⟨rfl, sc, rfl, z⟩ := z1;induction z3.out
 obtain ⟨es, n, val, IA, hg, hv⟩ := z4.view.fld (name := "possible_simple_keys") (u := .glob (.ref sc.cQ)) (Fn (i := 19) rfl rfl);refine aR hm.fi fun attr f1 f2 => ?_;induction hv.out
 exact kW (s := (St s h1 dB)) z4.fr ok.fK IA hm.pg hm.hd f1 f2 hg rfl (q _ bP _ G1 _ h1 _ z z2 .glob z4)
theorem zH {d : Addr} {o o' : Obj} {r : bB} (n : (((d, o) :: r).map (·.1)).Nodup) : Upd d o o' ((d, o) :: r) ((d, o') :: r) := .head fun p hp z => (List.nodup_cons.mp n).1 (z ▸ List.mem_map_of_mem (f := (·.1)) hp)
theorem bJ.jY {sc gV : Sc} {m : cV} {loc : aF} {s : Shared} {name : Str} {i : Nat} {v : V} {val : Value} {Q : Unit -> Shared -> Prop} (ok : fM g D C) (so : mW g 1048) (tk : takerIn g.K 1048 name = some none)
  (I : bJ C ρ G fo (some sc) m loc s.heap) (hv : VR ρ G v val) (hi : aD[i]? = some name) (Oy : i < 19) (e1 : eA gV = (eA sc).set i v) (e2 : gV.tokens = sc.tokens) (e3 : gV.aG = sc.aG) (e4 : gV.keys = sc.keys /\ gV.cQ = sc.cQ /\ gV.iW = sc.iW)
  (k : ∀ h' aN, bJ C ρ G fo (some gV) m loc h' -> Q () (St s h' aN)) : wpAny (model g.prog g.w) C.A (setAttr (.ref ρ.aS) name val) Q E s := by
 obtain ⟨⟨ls, os, a, b, c, d⟩, F, nd⟩ := I;obtain ⟨es, n, vals, vT, nT, nI, aK, eK, nK, tI, rfl, hS, hE, h5, h6, h7, hV⟩ := a;have IA : InstAt s.heap ρ.aS (instObj 1048 ρ.dS) 1048 (some (dictOf es n)) := InstAt.of_news c (by simp [hS]) (by simp);have Bw := eJ.put (hsh := PyData.keyHash g.w.params name) (key := .str name (s.toks + 1)) (v := val) hE eP hi;have UA : name ∈ aD := List.mem_of_getElem? hi;have gs : (getL name es).isSome = true := by
  by_cases q : ∃ w, (name, w) ∈ aD.zip vals
  ·obtain ⟨w, hw⟩ := q; rw [jK hE eP hw]; rfl
  ·exfalso
   apply q
   have hl := hE.length.2;have : i < vals.length := by rw [hl]; exact (List.getElem?_eq_some_iff.mp hi).1
   refine ⟨vals[i], ?_⟩;rw [List.mem_iff_getElem?];exact ⟨i, by rw [List.getElem?_zip_eq_some]; exact ⟨hi, List.getElem?_eq_getElem this⟩⟩
 refine set_dict F ok.fK c IA rfl so.fi so.po tk so.hd gs rfl (zH d) (by rw [Bw.length.1]; decide +kernel) fun h' F' N' => ?_;refine k h' _ ⟨⟨(ρ.dS, dictOf (putL name (PyData.keyHash g.w.params name) (.str name (s.toks + 1)) val es) (putN name es n)) :: [(ρ.aT, W.listOf vT.toArray nT), (ρ.aI, W.listOf tI.toArray nI), (aK, eK)], os, ⟨putL name (PyData.keyHash g.w.params name) (.str name (s.toks + 1)) val es, putN name es n, vals.set i val, vT, nT, nI, aK, eK, nK, tI, rfl, hS, Bw, by rw [e3]; exact h5, by rw [e2]; exact h6, by rw [e4.1, e4.2.1, e4.2.2]; exact h7, ?_⟩, b, N', d⟩, F', nd⟩;have := hV.set hv i;have e : ((eA sc ++ [V.glob (.ref aK)]).set i v) = eA gV ++ [V.glob (.ref aK)] := by
  rw [e1, List.set_append_left _ _ Oy]
 show cA ρ G (eA gV ++ [V.glob (.ref aK)]) _;rw [← e]; exact this
theorem SW.jY {o : Expr} {e : Expr} {name : Str} {p pos : Pos} {i : Nat} {Q : dD} (so : mW g 1048) (tk : takerIn g.K 1048 name = some none) (hs : swapsWith e (some (.Attribute o name p)) pos.line C.env = pure false) (hi : aD[i]? = some name) (Oy : i < 19)
  (h : EW g D C ρ X e loc σ (fun v l s => EW g D C ρ X o l s (fun u l s => u = .self /\ ∃ sc gV, s = some sc /\ eA gV = (eA sc).set i v /\ gV.tokens = sc.tokens /\ gV.aG = sc.aG /\ (gV.keys = sc.keys /\ gV.cQ = sc.cQ /\ gV.iW = sc.iW) /\ Q .next l (some gV)))) :
  iB g D C ρ X (.Assign [.Attribute o name p] e pos) loc σ Q := by
 refine .of fun ok G fo m s I Qr Er q qe => ?_;refine plainObj_wpAny_Assign_Attribute (EW.rE h ok I (qe.at) fun a b aC aW G' av bv h' aN z1 z2 z3 z4 z5 U => ?_) hs;obtain ⟨rfl, sc, gV, rfl, e1, e2, e3, e4, z⟩ := z1;induction z4.out
 exact bJ.jY (s := (St s h' aN)) ok so tk z5 z3 hi Oy e1 e2 e3 e4 fun h2 t2 I2 => q .next aC _ G' m .next h2 t2 z z2 .next I2
theorem SW.Ew {o : Expr} {e : Expr} {op : Operator} {name : Str} {p pos : Pos} {i : Nat} {Q : dD} (SU : op = .Add \/ op = .Sub) (hm : eT g 1048 name) (so : mW g 1048) (tk : takerIn g.K 1048 name = some none) (hi : aD[i]? = some name) (Oy : i < 19)
  (h : EW g D C ρ X o loc σ (fun u l s => u = .self /\ ∃ sc a, s = some sc /\ (name, V.int a) ∈ aD.zip (eA sc) /\ EW g D C ρ X e l s (fun v l' s' => s' = s /\ ∃ b gV, v = .int b /\ eA gV = (eA sc).set i (.int (if op = .Add then a + b else a - b)) /\ gV.tokens = sc.tokens /\ gV.aG = sc.aG /\ (gV.keys = sc.keys /\ gV.cQ = sc.cQ /\ gV.iW = sc.iW) /\ Q .next l' (some gV)))) :
  iB g D C ρ X (.AugAssign (.Attribute o name p) op e pos) loc σ Q := by
 refine .of fun ok G fo m s I Qr Er q qe => ?_;refine wpAny_AugAssign_AttributeAny (EW.seq1 h ok I (qe.at) fun v bP fE G1 val h1 dB z1 z2 z3 z4 gU => ?_);obtain ⟨rfl, sc, a, rfl, hu, z⟩ := z1;induction z3.out
 obtain ⟨es, n, val, IA, hg, hv⟩ := z4.view.fld (Bg (n := name) hu);refine aR hm.fi fun attr f1 f2 => ?_;induction hv.out
 refine kW (s := (St s h1 dB)) z4.fr ok.fK IA hm.pg hm.hd f1 f2 hg rfl ?_;refine EW.seq1 z ok (s := (St s h1 (dB + 1))) z4 gU fun v bG fV G2 bv h2 eM y1 y2 y3 y4 mU => ?_;obtain ⟨rfl, b, gV, rfl, e1, e2, e3, e4, y⟩ := y1;induction y3.out
 rcases SU with rfl | rfl
 ·refine PyProof.Rows.iadd_int ?_;exact bJ.jY (s := (St s h2 (eM + 1))) ok so tk y4 (.int (t := eM)) hi Oy (by simpa using e1) e2 e3 e4 fun h3 t3 I3 => q .next bG _ G2 m .next h3 t3 y (z2.trans y2) .next I3
 ·refine PyProof.Rows.isub_int ?_;exact bJ.jY (s := (St s h2 (eM + 1))) ok so tk y4 (.int (t := eM)) hi Oy (by simpa using e1) e2 e3 e4 fun h3 t3 I3 => q .next bG _ G2 m .next h3 t3 y (z2.trans y2) .next I3
end
theorem nB.mono {ρ : bZ} {G G' : bB} (k : Sub G G') {es : List (Int × Value)} {r : List (Int × V)} (h : nB ρ G es r) : nB ρ G' es r := by
 induction h with
 | nil => exact .nil
 | cons a _ ih => exact .cons (a.mono k) ih
theorem Ql.mono {ρ : bZ} {G G' : bB} (k : Sub G G') {ka aK ko oK kvs ks : _} (h : Ql ρ G ka aK ko oK kvs ks) : Ql ρ G' ka aK ko oK kvs ks := ⟨h.ea, h.eo, h.sm, h.dk, h.kv.mono k⟩
theorem Gr.mono {ρ : bZ} {G G' : bB} (k : Sub G G') {σ : bQ} {ls : bB} (h : Gr ρ G σ ls) : Gr ρ G' σ ls := by
 induction σ with
 | none => exact h
 | some sc =>
  obtain ⟨es, n, vals, vT, nT, nI, aK, eK, nK, tI, h1, h2, h3, h4, h5, h6, h7⟩ := h;exact ⟨es, n, vals, vT, nT, nI, aK, eK, nK, tI, h1, k _ h2, h3, h4.mono k, h5.mono k, h6.mono k, h7.mono k⟩
theorem Eg {ad : bB} (h : ((ad ++ (ls ++ (os ++ (fo ++ G)))).map (·.1)).Nodup) : ((ls ++ (os ++ (fo ++ (ad ++ G)))).map (·.1)).Nodup := by
 refine (List.Perm.nodup_iff (List.Perm.map _ ?_)).mp h;have p : ∀ (x y z : bB), (x ++ (y ++ z)).Perm (y ++ (x ++ z)) := fun x y z => by
  rw [← List.append_assoc, ← List.append_assoc]; exact List.perm_append_comm.append_right z
 exact (p ad ls _).trans ((List.Perm.refl ls).append ((p ad os _).trans ((List.Perm.refl os).append (p ad fo G))))
theorem bJ.more {C : Cx} {ad : bB} {m : cV} {loc : aF} {h' : Heap} (a : Gr ρ G σ ls) (b : bH ρ G m loc os) (nd : (loc.map (·.1)).Nodup)
  (N : News C.h₀ C.L h' (ad ++ (ls ++ (os ++ (fo ++ G))))) (d : ((ad ++ (ls ++ (os ++ (fo ++ G)))).map (·.1)).Nodup) (F : Fr C.h₀ C.L h' m) : bJ C ρ (ad ++ G) fo σ m loc h' := by
 have k : ∀ p ∈ G, p ∈ ad ++ G := fun p hp => List.mem_append_right _ hp;refine ⟨⟨ls, os, a.mono k, b.mono k, bY N fun p hp => ?_, Eg d⟩, F, nd⟩
 rcases List.mem_append.mp hp with h | hp
 ·exact List.mem_append_right _ (List.mem_append_left _ h)
 rcases List.mem_append.mp hp with h | hp
 ·exact List.mem_append_right _ (List.mem_append_right _ (List.mem_append_left _ h))
 rcases List.mem_append.mp hp with h | hp
 ·exact List.mem_append_right _ (List.mem_append_right _ (List.mem_append_right _ (List.mem_append_left _ h)))
 rcases List.mem_append.mp hp with h | h
 ·exact List.mem_append_left _ h
 ·exact List.mem_append_right _ (List.mem_append_right _ (List.mem_append_right _ (List.mem_append_right _ h)))
theorem pE {a b : Addr} {oa ob : Obj} {l : bB} (n : (l.map (·.1)).Nodup) (hl : ∀ p ∈ l, p.1 < b) (hb : b < a) : ((((a, oa) :: (b, ob) :: l)).map (·.1)).Nodup := by
 simp only [List.map_cons, List.nodup_cons, List.mem_cons, List.mem_map, not_or, not_exists, not_and];refine ⟨⟨Nat.ne_of_gt hb, fun p hp e => ?_⟩, fun p hp e => ?_, n⟩
 ·have : p.1 < b := hl p hp;rw [e] at this;exact absurd (Nat.lt_trans this hb) (Nat.lt_irrefl _)
 ·have : p.1 < b := hl p hp;rw [e] at this;exact absurd this (Nat.lt_irrefl _)
theorem cF {a : Addr} {oa : Obj} {l : bB} (n : (l.map (·.1)).Nodup) (hl : ∀ p ∈ l, p.1 < a) : ((((a, oa) :: l)).map (·.1)).Nodup := by
 simp only [List.map_cons, List.nodup_cons, List.mem_map, not_exists, not_and];refine ⟨fun p hp e => ?_, n⟩;have : p.1 < a := hl p hp;rw [e] at this;exact absurd this (Nat.lt_irrefl _)
theorem eJ.snoc {hsh : Int} {name : Str} {t : Tok} {es : List DictEntry} {ns : List Str} {vals : List Value} (h : eJ es ns vals) (hm : name ∉ ns) : eJ (putL name hsh (.str name t) v es) (ns ++ [name]) (vals ++ [v]) := by
 induction h with
 | nil => exact .cons t rfl .nil
 | @cons e es n ns vs u hk r ih =>
  have hn : n ≠ name := fun z => hm (z ▸ .head _);unfold putL;rw [hk, sA hn, if_neg Bool.false_ne_true];exact .cons u hk (ih fun z => hm (.tail _ z))
class inductive hH (self : Str) : List Stmt -> List (Str × Str) -> Prop
 | nil : hH self [] []
 | cons {p1 p2 p3 p4 a n b l : _} : hH self b l -> hH self (.Assign [.Attribute (.Name self p1) a p2] (.Name n p3) p4 :: b) ((a, n) :: l)
structure MZ (g : Gl) (f : Addr) (qual : Str) (params : Arguments) (body : List Stmt) (scope : Scope) (dV eW : Value) : Prop extends xM g f qual params body scope dV eW
theorem Oj {A A' : Around} {h₀ : Heap} {L f : Addr} {scope : Scope} {C : Addr} {self : Str} (fK : g.K.In h₀) (so : mW g C) (hk : scope.kind = .function) (Lo : scope.names.lookup self = some .local) (HW : (self == ("__debug__" : Str)) = false) {x : Addr} {m : cV} (hx : m self = some (.ref x)) {news : bB}
  (nd : ((((x, instObj C dx) :: (dx, dictOf [] 0) :: news)).map (·.1)).Nodup)
  {body : List Stmt} {l : List (Str × Str)} (I : hH self body l) : ∀ {ns : List Str} {vals eU : List Value} {es : List DictEntry} {n : Nat} {s : Shared} {Q : Flow -> Shared -> Prop} {E : cY},
   eJ es ns vals -> (∀ a ∈ l.map (·.1), a ∉ ns) -> (l.map (·.1)).Nodup -> ns.length + l.length <= 1000 -> (∀ a ∈ l.map (·.1), takerIn g.K C a = some none) -> (∀ a ∈ l.map (·.2), scope.names.lookup a = some .local /\ (a == ("__debug__" : Str)) = false) ->
   l.length = eU.length -> (∀ p ∈ (l.map (·.2)).zip eU, m p.1 = some p.2) ->
   Fr h₀ L s.heap m -> News h₀ L s.heap ((x, instObj C dx) :: (dx, dictOf es n) :: news) ->
   (∀ uV n' h' aN, eJ uV (ns ++ l.map (·.1)) (vals ++ eU) -> Fr h₀ L h' m -> News h₀ L h' ((x, instObj C dx) :: (dx, dictOf uV n') :: news) -> Q .next (St s h' aN)) ->
   wpAny (model g.prog g.w) A' (execs body (envOf qual scope L f eW)) Q E s := by
 induction I with
 | nil =>
  intro ns vals eU es n s Q E hE h1 h2 h3 h4 h5 h6 h7 F N k;induction eU with
  | cons _ _ => simp at h6
  | nil => exact wpAny_execs_nil (k es n s.heap s.toks (by simpa using hE) F N)
 | @cons p1 p2 p3 p4 a nm b l hb ih =>
  intro ns vals eU es n s Q E hE h1 h2 h3 h4 h5 h6 h7 F N k;induction eU with
  | nil => simp at h6
  | cons pv eU =>
   have ha : a ∉ ns := h1 a (by simp);have lo := h5 nm (by simp);have hv : m nm = some pv := h7 (nm, pv) (by simp);refine wpAny_execs_cons (plainObj_wpAny_Assign_Attribute ?_ rfl);refine nameX_L (cl := []) F hv ?_ hk lo.1 lo.2;refine nameX_L (cl := []) F hx ?_ hk Lo HW;have IA : InstAt s.heap x (instObj C dx) C (some (dictOf es n)) := InstAt.of_news N (.head _) (.tail _ (.head _));have Bw := eJ.snoc (hsh := PyData.keyHash g.w.params a) (v := pv) (t := s.toks + 1) hE ha;have Ng := nd;simp only [List.map_cons, List.nodup_cons, List.mem_cons, not_or] at Ng;refine set_dict F fK N IA rfl so.fi so.po (h4 a (by simp)) so.hd (by rw [fX hE ha]; rfl) rfl
    (.tail (fun z => Ng.1.1 z) (.head fun p hp z => Ng.2.1 (z ▸ List.mem_map_of_mem (f := (·.1)) hp))) (by rw [Bw.length.1]; simp only [List.length_append, List.length_cons, List.length_nil] at h3 ⊢; lia) fun h' F' N' => ?_
   refine ih (s := (St s h' (s.toks + 2))) Bw (fun b qG hm => ?_) (List.nodup_cons.mp h2).2 (by simp only [List.length_append, List.length_cons, List.length_nil] at h3 ⊢; lia) (fun b qG => h4 b (by simp only [List.map_cons, List.mem_cons]; exact .inr qG)) (fun b qG => h5 b (by simp only [List.map_cons, List.mem_cons]; exact .inr qG)) (Nat.succ.inj h6) (fun p hp => h7 p (by simp only [List.map_cons, List.zip_cons_cons, List.mem_cons]; exact .inr hp)) F' N' fun uV n' h2 t2 e2 F2 N2 => ?_
   ·rcases List.mem_append.mp hm with q | q
    ·exact h1 b (by simp only [List.map_cons, List.mem_cons]; exact .inr qG) q
    ·rw [List.mem_singleton.mp q] at qG;exact (List.nodup_cons.mp h2).1 qG
   ·exact k uV n' h2 t2 (by simpa using e2) F2 N2
structure vY (g : Gl) (Cl fI : Addr) (qual : Str) (params : Arguments) (body : List Stmt) (scope : Scope) (dV eW : Value) (sf : Str) (l : List (Str × Str)) : Prop where
 IJ : makesIn g.K Cl = true
 DD : findIn g.K (.ref Cl) "__init__" = some (some (.ref fI))
 CM : isFn g.K (.ref fI) = true
 kp : keepIn g.K (.ref Cl) = true
 fn : xM g fI qual params body scope dV eW
 so : mW g Cl
 init : hH sf body l
 tk : ∀ a ∈ l.map (·.1), takerIn g.K Cl a = some none
 loc : ∀ a ∈ sf :: l.map (·.2), scope.names.lookup a = some .local /\ (a == ("__debug__" : Str)) = false
 Zf : (l.map (·.1)).Nodup
 KL : (sf :: l.map (·.2)).Nodup
 len : l.length <= 1000
section
variable {D : Nat} {C : Cx}
theorem pZ {params : Arguments} {body : List Stmt} {scope : Scope} {sf : Str} {l : List (Str × Str)} (co : vY g Cl fI qual params body scope dV eW sf l) (ok : fM g (D + 2) C)
  {m : cV} {loc : aF} {s : Shared} (I : bJ C ρ G fo σ m loc s.heap) {vals fF : List Value} {kw : List (Str × Value)} {as : List V} (hv : cA ρ G as fF) (hl : l.length = as.length)
  (hb : ∀ (x : Addr) (s : Shared), g.K.In s.heap -> ∀ name kV doc pm an ct, BindsTo s (fnOf name qual params body scope dV kV doc pm an eW ct) ⟨.ref x :: vals, kw⟩ ((sf :: l.map (·.2)).zip (.ref x :: fF)))
  {Qr : cY} (k : ∀ G' val h' aN, Sub G G' -> VR ρ G' (.inst Cl (l.map (·.1)) as) val -> bJ C ρ G' fo σ m loc h' -> Qr val (St s h' aN)) :
  wpAny (model g.prog g.w) C.A (call (.ref Cl) vals kw) Qr Er s := by
 obtain ⟨⟨ls, os, a, b, c, d⟩, F, nd⟩ := I;refine call_cls F ok.fK c co.IJ co.DD co.CM fun x dx h' F' N' pK hx => ?_;obtain ⟨oc, od, name, kV, doc, pm, an, ct, Bv, lk⟩ := co.fn.lk;have Ox : l.length = fF.length := by rw [hl, hv.length]
 have dd := pE (oa := instObj Cl dx) (ob := dictOf [] 0) d pK hx;have dep : (C.A.under (.builtin "type.__call__" ⟨.ref Cl :: vals, kw⟩)).depth < recursionLimit := by
  have := ok.dep;show C.A.depth + 1 < _
  lia
 have DU : (sf :: l.map (·.2)).length = (Value.ref x :: fF).length := by simp [Ox]
 refine code_def (A := C.A.under (.builtin "type.__call__" ⟨.ref Cl :: vals, kw⟩)) ok.below F' ok.fK N' ok.top ok.frames rfl ok.kind lk co.fn.cd dep
  (hb x { s with heap := h' } (ok.fK.keeps F'.keep) name kV doc pm an ct) (fun y hy => (co.loc _ ?_).1) (fun hp L' iZ Fg F2 N2 B2 X2 T2 => ?_) co.fn.co co.fn.gen co.fn.kd co.fn.cell
 ·have := List.mem_map_of_mem (f := (·.1)) hy
  rwa [kC DU] at this
 ·have Pg : ∀ p ∈ (sf :: l.map (·.2)).zip (Value.ref x :: fF), ((sf :: l.map (·.2)).zip (Value.ref x :: fF)).reverse.lookup p.1 = some p.2 := fun p hp => iF (by
   rw [List.map_reverse, kC DU]; exact List.pairwise_reverse.mpr (co.KL.imp fun h => h.symm)) (List.mem_reverse.mpr hp)
  refine Oj (A := C.A) (news := ls ++ (os ++ (fo ++ G))) X2 co.so co.fn.kd (co.loc sf (.head _)).1 (co.loc sf (.head _)).2 (Pg (sf, .ref x) (.head _)) dd co.init (ns := []) (vals := []) (eU := fF) (es := []) (n := 0) .nil (fun U U h => nomatch h) co.Zf (by simpa using co.len) co.tk
   (fun a ha => co.loc a (.tail _ ha)) Ox (fun p hp => Pg p (.tail _ hp)) F2 N2 fun uV n' h2 t2 e2 F3 N3 => ?_
  refine ⟨L', _, _, F3, N3, fun kF kN => ?_⟩;have d3 : ((((x, instObj Cl dx) :: (dx, dictOf uV n') :: (ls ++ (os ++ (fo ++ G))))).map (·.1)).Nodup := by simpa using dd
  refine ⟨rfl, k ((x, instObj Cl dx) :: (dx, dictOf uV n') :: G) (.ref x) h2 t2 (fun p hp => .tail _ (.tail _ hp)) (.inst (.head _) (.tail _ (.head _)) (by simpa using e2) (hv.mono fun p hp => .tail _ (.tail _ hp))) ?_⟩;exact bJ.more (ad := [(x, instObj Cl dx), (dx, dictOf uV n')]) a b nd kN d3 kF
variable {X : dW} {loc : aF}
theorem EW.glob {x : Str} {pos : Pos} {v : Value} {Q : _} (e : nsIn g.K mainGlobals x = some (some v)) (hx : C.cs.names.lookup x = some .globalImplicit) (hd : (x == ("__debug__" : Str)) = false) (h : Q (.glob v) loc σ) : EW g D C ρ X (.Name x pos) loc σ Q := by
 refine .of fun ok G fo m s I Qr Er q _ => ?_;have t := topRead_of ok.top;exact nameX_K I.fr ok.fK t e (q _ loc σ G v s.heap s.toks h (.refl _) .glob I) ok.kind hx hd
theorem EW.mk {x : Str} {pos : Pos} {args : List Expr} {params : Arguments} {body : List Stmt} {scope : Scope} {sf : Str} {l : List (Str × Str)} {cR : List Value}
  (co : vY g Cl fI qual params body scope dV eW sf l) (hD : 2 <= D) (hs : aH pos args C.env) (yU : ∀ ρ G, cA ρ G iI cR) (hlen : l.length = args.length + iI.length)
  (hb : ∀ (vals : List Value), vals.length = args.length -> ∀ (x : Addr) (s : Shared), g.K.In s.heap -> ∀ name kV doc pm an ct, BindsTo s (fnOf name qual params body scope dV kV doc pm an eW ct) ⟨.ref x :: vals, []⟩ ((sf :: l.map (·.2)).zip (.ref x :: (vals ++ cR))))
  (h : EW g D C ρ X (.Name x np) loc σ (fun v l1 s => v = .glob (.ref Cl) /\ AW g D C ρ X args l1 s (fun vs l2 s => vs.length = args.length /\ Q (.inst Cl (l.map (·.1)) (vs ++ iI)) l2 s))) :
  EW g D C ρ X (.Call (.Name x np) args [] pos) loc σ Q := by
 refine .of fun ok G fo m s I Qr Er q qe => ?_;refine wpAny_Call_ofName (EW.seq1 h ok I qe fun v bP fE G1 val h1 dB z1 z2 z3 z4 gU => ?_);obtain ⟨rfl, z⟩ := z1;induction z3.out
 refine dN (first := []) hs co.kp ?_;refine AW.run z ok (s := (St s h1 dB)) z4 gU fun vs bG fV G2 vals2 h2 eM y1 y2 y3 y4 mU => ?_;refine ⟨ok.fK.keeps y4.fr.keep, ?_⟩;have Bq := y3.length;refine pZ (D := D - 2) co (ok.mono (Nat.le_of_eq (Nat.sub_add_cancel hD))) (s := (St s h2 eM)) y4 (as := vs ++ iI) (fF := vals2 ++ cR) (y3.append (yU ρ G2)) (by rw [hlen, List.length_append, y1.1]) (hb vals2 (by rw [Bq, y1.1])) fun G' val h' aN w1 w2 w3 => ?_;exact q _ bG fV G' val h' aN y1.2 (fun p hp => w1 p (y2 p (z2 p hp))) w2 w3
end
def Zo (op : CmpOp) (i j : Int) (k : Bool -> Prop) : Prop :=
 CmpOp.casesOn op (k (i == j)) (k (i != j)) (k (decide (i < j))) (k (decide (i <= j))) (k (decide (j < i))) (k (decide (j <= i))) False False False False
def AO (op : CmpOp) (x y : Str) (k : Bool -> Prop) : Prop :=
 CmpOp.casesOn op (k (x == y)) (k (x != y)) False (k (!(y.cps.toList < x.cps.toList))) False False False False (k (Txt.contains y x)) (k (!Txt.contains y x))
noncomputable def V.isNone (v : V) : Option Bool := v.sel Option.none (some true) (fun U => some false) (fun U => some false) (fun U => some false) (fun U => Option.none) (fun U U U => some false) (fun U => some false) (fun U => some false)
def Wr (op : CmpOp) (a : V) (k : Bool -> Prop) : Prop :=
 Option.casesOn a.isNone False fun b => CmpOp.casesOn op False False False False False False (k b) (k (!b)) False False
def tX (op : CmpOp) (a b : V) (k : Bool -> Prop) : Prop :=
 b.sel False (Wr op a k) (i := fun j => a.sel False (i := fun i => Zo op i j k)) (s := fun y => a.sel False (s := fun x => AO op x y k))
def Dg (v : V) (k : Bool -> Prop) : Prop :=
 v.sel False (k false) k (fun i => k (i != 0)) (fun x => x.length <= sizeLine /\ k ((x.length : Int) != 0)) (l := fun vs => vs.length <= sizeLine /\ k (!vs.isEmpty))
theorem hM : (sizeLine : Int) < 2 ^ 62 := by decide +kernel
section
variable {D : Nat} {C : Cx} {X : dW} {loc : aF}
theorem oQ {a : V} (h : a.isNone = some b) {av : Value} (ha : VR ρ G a av) : (av == Value.none) = b := by
 cases a <;> first | (cases h; induction ha.out <;> rfl) | cases h
theorem jB {op : CmpOp} {a b : V} {k : Bool -> Prop} (h : tX op a b k) {s : Shared} {av bv : Value} (ha : VR ρ G a av) (hb : VR ρ G b bv) {A : Around} {T : cY}
  (q : ∀ c tk, k c -> T (.bool c) { s with toks := tk }) : wpAny (model g.prog g.w) A (compareOp op av bv) T E s := by
 cases b with
 | int j =>
  cases a with
  | int i =>
   have h : Zo op i j k := h;induction ha.out; induction hb.out
   induction op with
   | Eq => exact PyProof.Rows.eq_int (q _ s.toks h)
   | NotEq => exact PyProof.Rows.ne_int (q _ s.toks h)
   | Lt => exact PyProof.Rows.lt_int (q _ s.toks h)
   | LtE => exact PyProof.Rows.le_int (q _ s.toks h)
   | Gt => exact PyProof.Rows.gt_int (q _ s.toks h)
   | GtE => exact PyProof.Rows.ge_int (q _ s.toks h)
   | Is => exact h.elim
   | IsNot => exact h.elim
   | In => exact h.elim
   | NotIn => exact h.elim
  | _ => exact h.elim
 | str y =>
  cases a with
  | str x =>
   have h : AO op x y k := h;induction ha.out; induction hb.out
   induction op with
   | Eq => exact PyProof.Rows.eq_str (q _ s.toks h)
   | NotEq => exact PyProof.Rows.ne_str (q _ s.toks h)
   | LtE => exact PySem.P.le_str (q _ s.toks h)
   | In => exact PyProof.Rows.in_str (q _ s.toks h)
   | NotIn => exact PyProof.Rows.notIn_str (q _ s.toks h)
   | Lt => exact h.elim
   | Gt => exact h.elim
   | GtE => exact h.elim
   | Is => exact h.elim
   | IsNot => exact h.elim
  | _ => exact h.elim
 | none =>
  have h : Wr op a k := h;unfold Wr at h;induction hb.out
  cases e : a.isNone with
  | none => rw [e] at h; exact h.elim
  | some b =>
   rw [e] at h;have e := oQ e ha;induction op with
   | Is => exact PyProof.Rows.is_none_gen (q _ s.toks (by rw [e]; exact h))
   | IsNot => exact PyProof.Rows.isnot_none_gen (q _ s.toks (by rw [e]; exact h))
   | _ => exact h.elim
 | _ => exact h.elim
set_option tactic.hygienic true in
theorem mI {v : V} {k : Bool -> Prop} (h : Dg v k) {m : cV} {s : Shared} {val : Value} (hv : VR ρ G v val) (I : bJ C ρ G fo σ m loc s.heap) {A : Around} {T : Bool -> Shared -> Prop}
  (q : ∀ c tk, k c -> T c { s with toks := tk }) : wpAny (model g.prog g.w) A (truthy val) T E s := by
 have hs := hM;cases v with
 | none => induction hv.out; exact PyProof.Rows.truthy_none (q _ s.toks h)
 | bool b => induction hv.out; exact wpAny_truthy_bool (q _ s.toks h)
 | int i => induction hv.out; exact PyProof.Rows.truthy_int (q _ s.toks h)
 | str x =>
  induction hv.out
  obtain ⟨h1, h2⟩ := h;exact PySem.P.truthy_str (by lia) (q _ _ h2)
 | lst vs =>
  induction hv.out
  rename_i al vals n hm uE
  obtain ⟨h1, h2⟩ := h;obtain ⟨ls, os, a, b, c, d⟩ := I.ex;have hl := uE.length;refine wpAny_truthy_list (items := vals.toArray) ⟨W.listOf vals.toArray n, (c (al, W.listOf vals.toArray n) (by simp [hm])).1, rfl, ⟨n, rfl⟩⟩ ?_ ?_
  ·rw [List.size_toArray, hl]; lia
  ·have e : (!vals.toArray.isEmpty) = (!vs.isEmpty) := by
    cases uE <;> rfl
   rw [e];exact q _ _ h2
 | _ => exact h.elim
def Qv (op : CmpOp) (Q : lR) (a b : V) (l : aF) (s : bQ) : Prop := tX op a b (fun c => Q c l s)
noncomputable def NX (Q : nG) : Bool -> aF -> bQ -> Prop := fun c => Q (.bool c)
def Ju (Q : lR) (v : V) (l : aF) (s : bQ) : Prop := Dg v (fun c => Q c l s)
theorem EW.bC {l r : Expr} {op : CmpOp} {pos : Pos} (hm : behindInMarks op r = false)
  (h : EW g D C ρ X l loc σ (Bx g D C ρ X r (Qv op (NX Q)))) :
  EW g D C ρ X (.Compare l [op] [r] pos) loc σ Q :=
 EW.cmp hm (h.mono fun a l1 s1 z => z.mono fun b l2 s2 z G s av bv ha hb T E k => jB z ha hb fun c tk hc => k (.bool c) _ tk hc .bool)
theorem BW.bC {l r : Expr} {op : CmpOp} {pos : Pos} {Q : lR} (hm : behindInMarks op r = false)
  (h : EW g D C ρ X l loc σ (Bx g D C ρ X r (Qv op Q))) :
  BW g D C ρ X (.Compare l [op] [r] pos) loc σ Q :=
 BW.cmp hm (h.mono fun a l1 s1 z => z.mono fun b l2 s2 z G s av bv ha hb T E k => jB z ha hb fun c tk hc => k c tk hc)
structure CA (g : Gl) (D : Nat) (C : Cx) (ρ : bZ) (X : dW) (r' : Expr) (uX : CmpOp) (b : V) (Q : lR) (c : Bool) (l : aF) (s : bQ) : Prop where
 f : c = false -> Q false l s
 t : c = true -> EW g D C ρ X r' l s (Qv uX Q b)
theorem BW.Vk {l r r' : Expr} {op uX : CmpOp} {pos : Pos} {Q : lR} (hm : behindInMarks uX r' = false)
  (h : EW g D C ρ X l loc σ (Bx g D C ρ X r (fun a b => Qv op (CA g D C ρ X r' uX b Q) a b))) :
  BW g D C ρ X (.Compare l [op, uX] [r, r'] pos) loc σ Q := by
 refine .of fun ok G fo m s w I _ Qr Er q qe => ?_;have mk : markedEach [op, uX] [r, r'] (evalEach [r, r'] C.env) = [eval r C.env, eval r' C.env] := by
  show [eval r C.env, markedBehindIn uX r' (eval r' C.env)] = _;rw [markedBehindIn_of_false hm]
 show wpAny _ _ (do testChain pos (← eval l C.env) [op, uX] (markedEach [op, uX] [r, r'] (evalEach [r, r'] C.env))) _ _ _;rw [mk];refine wpAny_bind (EW.seq1 h ok I qe fun a bP fE G1 av h1 dB z1 z2 z3 z4 gU => ?_);show wpAny _ _ (do
  let rv ← holding [av] (eval r C.env)
  standAt pos
  let c ← holding [av, rv] (compareOp op av rv)
  release [av, rv] [c]
  if ← holding [c, rv] (truthy c) then testChain pos rv [uX] [eval r' C.env] else pure false) _ _ _
 refine wpAny_bind (wpAny_holding (EW.seq1 z1 ok (s := (St s h1 dB)) z4 gU fun b bG fV G2 bv h2 eM y1 y2 y3 y4 mU => ?_));refine wpAny_bind (wpAny_standAt ?_);refine wpAny_bind (wpAny_holding (jB y1 (z3.mono y2) y3 fun c tk hc => ?_));refine wpAny_bind (wpAny_release ?_);refine wpAny_bind (wpAny_holding (wpAny_truthy_bool ?_));induction c with
 | false => exact wpAny_pure (q false bG fV G2 h2 tk (hc.f rfl) (fun p hp => y2 p (z2 p hp)) y4)
 | true =>
  show wpAny _ _ (do
   let rv ← holding [bv] (eval r' C.env)
   standAt pos
   let c ← operate [bv, rv] (compareOp uX bv rv)
   holding [c] (truthy c)) _ _ _
  refine wpAny_bind (wpAny_holding (EW.seq1 (hc.t rfl) ok (s := (St s h2 tk)) y4 mU fun d lU Eu G3 dv h3 Dh x1 x2 x3 x4 JS => ?_));refine wpAny_bind (wpAny_standAt ?_);refine wpAny_bind (wpAny_operating (jB x1 (y3.mono x2) x3 fun c tk hc => ?_));exact wpAny_holding (wpAny_truthy_bool (q c lU Eu G3 h3 tk hc (fun p hp => x2 p (y2 p (z2 p hp))) x4))
theorem BW.val {e : Expr} {Q : lR} (he : ∀ whole, isTrue e C.env whole = (do let v ← whole; standAt e.pos; holding [v] (truthy v)))
  (h : EW g D C ρ X e loc σ (Ju Q)) : BW g D C ρ X e loc σ Q := by
 refine .of fun ok G fo m s w I hw Qr Er q qe => ?_;subst hw;refine wpAny_isTrue_value (EW.seq1 (e := e) h ok I qe fun v aC aW G' val h' aN z1 z2 z3 z4 U => ?_) (he _);exact mI z1 z3 (s := (St s h' aN)) z4 fun c tk hc => q c aC aW G' h' tk hc z2 z4
theorem EW.qV {op : BoolOp} {e : Expr} {pos : Pos} (h : EW g D C ρ X e loc σ Q) : EW g D C ρ X (.BoolOp op [e] pos) loc σ Q := .of h.out
structure pV (g : Gl) (D : Nat) (C : Cx) (ρ : bZ) (X : dW) (op : BoolOp) (r : Expr) (Q : nG) (v : V) (l : aF) (s : bQ) (b : Bool) : Prop where
 o : b = (op == .Or) -> Q v l s
 a : b = (op == .And) -> EW g D C ρ X r l s Q
def Wy (g : Gl) (D : Nat) (C : Cx) (ρ : bZ) (X : dW) (op : BoolOp) (r : Expr) (Q : nG) (v : V) (l : aF) (s : bQ) : Prop := Dg v (pV g D C ρ X op r Q v l s)
theorem EW.mH {op : BoolOp} {e e' : Expr} {r : List Expr} {pos : Pos}
  (h : EW g D C ρ X e loc σ (Wy g D C ρ X op (.BoolOp op (e' :: r) pos) Q)) :
  EW g D C ρ X (.BoolOp op (e :: e' :: r) pos) loc σ Q := by
 refine .of fun ok G fo m s I Qr Er q qe => ?_;show wpAny _ _ (do
  let v ← eval e C.env
  standAt pos
  let t ← holding [v] (truthy v)
  match op, t with
  | .And, false | .Or, true => pure v
  | _, _ => boolOp pos op (evalEach (e' :: r) C.env)) _ _ _
 refine wpAny_bind (EW.seq1 h ok I qe fun v bP fE G1 val h1 dB z1 z2 z3 z4 gU => ?_);refine wpAny_bind (wpAny_standAt ?_);refine wpAny_bind (wpAny_holding (mI z1 z3 (s := (St s h1 dB)) z4 fun c tk hc => ?_));have go : EW g D C ρ X (.BoolOp op (e' :: r) pos) bP fE Q -> wpAny (model g.prog g.w) C.A (boolOp pos op (evalEach (e' :: r) C.env)) Qr Er (St s h1 tk) := fun H =>
  H.out ok G1 fo m (St s h1 tk) z4 Qr Er (q.step z2) gU
 have stop : Q v bP fE -> Qr val (St s h1 tk) := fun H => q v bP fE G1 val h1 tk H z2 z3 z4;induction op <;> induction c
 ·exact wpAny_pure (stop (hc.o rfl))
 ·exact go (hc.a rfl)
 ·exact go (hc.a rfl)
 ·exact wpAny_pure (stop (hc.o rfl))
theorem EW.not {e : Expr} {pos : Pos} (h : EW g D C ρ X e loc σ (Ju (fun b => Q (.bool (!b))))) : EW g D C ρ X (.UnaryOp .Not e pos) loc σ Q := by
 refine .of fun ok G fo m s I Qr Er q qe => ?_;refine wpAny_UnaryOp (EW.seq1 h ok I qe fun v bP fE G1 val h1 dB z1 z2 z3 z4 gU => ?_);refine wpAny_holding ?_;show wpAny _ _ (do return Value.bool (!(← truthy val))) _ _ _;exact wpAny_bind (mI z1 z3 (s := (St s h1 dB)) z4 fun c tk hc => wpAny_pure (q _ bP fE G1 _ h1 tk hc z2 .bool z4))
structure Wt (g : Gl) (D : Nat) (C : Cx) (ρ : bZ) (X : dW) (body orelse : Expr) (Q : nG) (b : Bool) (l : aF) (s : bQ) : Prop where
 t : b = true -> EW g D C ρ X body l s Q
 f : b = false -> EW g D C ρ X orelse l s Q
theorem EW.uC {test body orelse : Expr} {pos : Pos} (h : BW g D C ρ X test loc σ (Wt g D C ρ X body orelse Q)) : EW g D C ρ X (.IfExp test body orelse pos) loc σ Q := by
 refine .of fun ok G fo m s I Qr Er q qe => ?_;refine wpAny_IfExp (h.out ok G fo m s _ I rfl _ _ (fun b aC aW G' h' aN z1 z2 z3 => ?_) qe);have go : ∀ e, EW g D C ρ X e aC aW Q -> wpAny (model g.prog g.w) C.A (eval e C.env) Qr Er (St s h' aN) := fun e H =>
  H.out ok G' fo m (St s h' aN) z3 Qr Er (q.step z2) (qe.step z2)
 induction b with
 | true => exact go _ (z1.t rfl)
 | false => exact go _ (z1.f rfl)
theorem EW.kE {value slice : Expr} {pos : Pos}
  (hs : ∀ x t i u, subscripted slice false (.str x t) (.int i u) = operate [.str x t, .int i u] (getItem (.str x t) (.int i u))) (ht : ∀ x t r, letTemporaryGo value (.str x t) r = pure ())
  (h : EW g D C ρ X value loc σ (fun a l s => EW g D C ρ X slice l s (fun b l s => ∃ (x : Str) (i : Int), a = .str x /\ b = .int i /\ fitsSsize i = true /\ -(x.length : Int) <= i /\ i < x.length /\ Q (.str (Txt.item x i)) l s))) :
  EW g D C ρ X (.Subscript value slice pos) loc σ Q := by
 refine .of fun ok G fo m s I Qr Er q qe => ?_;refine Subscript_ (EW.rE h ok I qe fun a b aC aW G' av bv h' aN z1 z2 z3 z4 z5 U => ?_);refine DV z1 fun x i cN nA f1 f2 f3 z => ?_;subst cN nA;induction z3.out; induction z4.out
 exact item_str f1 f2 f3 (fun U => q _ aC aW G' _ h' _ z z2 .str z5) (hs _ _ _ _) (ht _ _)
end
inductive Slot (C : Cx) (ρ : bZ) (G fo : bB) (m : cV) (h : Heap) (Dl : Addr) (vs : List V) (F : List V -> aF -> bQ -> Prop) : Prop
 | mk (pre post : bB) (vals : List Value) (n : Nat) (N : News C.h₀ C.L h (pre ++ (Dl, W.listOf vals.toArray n) :: post)) (fr : Fr C.h₀ C.L h m) (s1 : ∀ p ∈ pre, p.1 ≠ Dl) (s2 : ∀ p ∈ post, p.1 ≠ Dl) (hv : cA ρ G vs vals) (hG : ∀ p ∈ G, p ∈ post)
  (z : ∀ h' uO gD n' aC aW, cA ρ G uO gD -> News C.h₀ C.L h' (pre ++ (Dl, W.listOf (gD : List Value).toArray n') :: post) -> Fr C.h₀ C.L h' m -> F uO aC aW -> bJ C ρ G fo aW m aC h')
theorem dO {pre post : bB} {Dl : Addr} {o : Obj} (n : ((pre ++ (Dl, o) :: post).map (·.1)).Nodup) : (∀ p ∈ pre, p.1 ≠ Dl) /\ (∀ p ∈ post, p.1 ≠ Dl) := by
 rw [List.map_append, List.map_cons] at n;refine qA (List.nodup_append.mp n) fun U n2 n3 => ?_;exact ⟨fun p hp => n3 _ (List.mem_map_of_mem (f := (·.1)) hp) _ (.head _), fun p hp e => (List.nodup_cons.mp n2).1 (e ▸ List.mem_map_of_mem (f := (·.1)) hp)⟩
theorem jD {pre post : bB} {Dl : Addr} {o o' : Obj} (a : ∀ p ∈ pre, p.1 ≠ Dl) (b : ∀ p ∈ post, p.1 ≠ Dl) : Upd Dl o o' (pre ++ (Dl, o) :: post) (pre ++ (Dl, o') :: post) := by
 induction pre with
 | nil => exact .head b
 | cons p pre ih => exact .tail (a p (.head _)) (ih fun q hq => a q (.tail _ hq))
theorem fB {pre post : bB} {Dl : Addr} {o o' : Obj} (n : ((pre ++ (Dl, o) :: post).map (·.1)).Nodup) : ((pre ++ (Dl, o') :: post).map (·.1)).Nodup := by
 rw [List.map_append, List.map_cons] at n ⊢; exact n
theorem bJ.oZ {C : Cx} {sc : Sc} {m : cV} {loc : aF} {h : Heap} (I : bJ C ρ G fo (some sc) m loc h) :
  Slot C ρ G fo m h ρ.aT sc.tokens (fun vs l s => l = loc /\ s = some { sc with tokens := vs }) := by
 obtain ⟨⟨ls, os, a, b, c, d⟩, F, nd⟩ := I;obtain ⟨es, n, vals, vT, nT, nI, aK, eK, nK, tI, rfl, hS, hE, h5, h6, h7, hV⟩ := a;have c' : News C.h₀ C.L h ([(ρ.dS, dictOf es n)] ++ (ρ.aT, W.listOf vT.toArray nT) :: ([(ρ.aI, W.listOf tI.toArray nI), (aK, eK)] ++ (os ++ (fo ++ G)))) := c;have d' : (([(ρ.dS, dictOf es n)] ++ (ρ.aT, W.listOf vT.toArray nT) :: ([(ρ.aI, W.listOf tI.toArray nI), (aK, eK)] ++ (os ++ (fo ++ G)))).map (·.1)).Nodup := d;obtain ⟨s1, s2⟩ := dO d';refine ⟨_, _, vT, nT, c', F, s1, s2, h6, fun p hp => by simp [hp], fun h' uO gD n' aC aW q1 q2 q3 q4 => ?_⟩;obtain ⟨rfl, rfl⟩ := q4;exact ⟨⟨[(ρ.dS, dictOf es n), (ρ.aT, W.listOf gD.toArray n'), (ρ.aI, W.listOf tI.toArray nI), (aK, eK)], os, ⟨es, n, vals, gD, n', nI, aK, eK, nK, tI, rfl, hS, hE, h5, q1, h7, hV⟩, b, q2, fB d'⟩, q3, nd⟩
theorem bJ.Ag {C : Cx} {sc : Sc} {m : cV} {loc : aF} {h : Heap} (I : bJ C ρ G fo (some sc) m loc h) :
  Slot C ρ G fo m h ρ.aI (sc.aG.map V.int) (fun vs l s => l = loc /\ ∃ is, vs = is.map V.int /\ s = some { sc with aG := is }) := by
 obtain ⟨⟨ls, os, a, b, c, d⟩, F, nd⟩ := I;obtain ⟨es, n, vals, vT, nT, nI, aK, eK, nK, tI, rfl, hS, hE, h5, h6, h7, hV⟩ := a;have c' : News C.h₀ C.L h ([(ρ.dS, dictOf es n), (ρ.aT, W.listOf vT.toArray nT)] ++ (ρ.aI, W.listOf tI.toArray nI) :: ([(aK, eK)] ++ (os ++ (fo ++ G)))) := c;have d' : (([(ρ.dS, dictOf es n), (ρ.aT, W.listOf vT.toArray nT)] ++ (ρ.aI, W.listOf tI.toArray nI) :: ([(aK, eK)] ++ (os ++ (fo ++ G)))).map (·.1)).Nodup := d;obtain ⟨s1, s2⟩ := dO d';refine ⟨_, _, tI, nI, c', F, s1, s2, h5, fun p hp => by simp [hp], fun h' uO gD n' aC aW q1 q2 q3 q4 => ?_⟩;obtain ⟨rfl, is, rfl, rfl⟩ := q4;exact ⟨⟨[(ρ.dS, dictOf es n), (ρ.aT, W.listOf vT.toArray nT), (ρ.aI, W.listOf gD.toArray n'), (aK, eK)], os, ⟨es, n, vals, vT, nT, n', aK, eK, nK, gD, rfl, hS, hE, q1, h6, h7, hV⟩, b, q2, fB d'⟩, q3, nd⟩
theorem bH.own {m : cV} {x : Str} {vs : List V} {loc : aF} (h : bH ρ G m loc os) (hx : (x, LV.ml vs) ∈ loc) (nd : (loc.map (·.1)).Nodup) :
  ∃ os1 a vals n os2, os = os1 ++ (a, W.listOf (vals : List Value).toArray n) :: os2 /\ m x = some (.ref a) /\ cA ρ G vs vals /\
   ∀ uO gD n' aC, cK x (.ml uO) loc aC -> cA ρ G uO gD -> bH ρ G m aC (os1 ++ (a, W.listOf (gD : List Value).toArray n') :: os2) := by
 obtain ⟨l1, l2, o1, o, o2, rfl, rfl, h1, hv, h2, n1, n2⟩ := h.at hx nd;induction hv.out with
 | ml hm Ze =>
  refine (lP o1 _ _ _ o2 rfl hm Ze (fun uO gD n' aC u RE => ?_));rw [u.at n2 n1];exact h1.append (.ml hm RE h2)
theorem bJ.kY {C : Cx} {m : cV} {loc : aF} {h : Heap} {x : Str} {vs : List V} (I : bJ C ρ G fo σ m loc h) (hx : (x, LV.ml vs) ∈ loc) :
  ∃ a, m x = some (.ref a) /\ Slot C ρ G fo m h a vs (fun uO l s => cK x (.ml uO) loc l /\ s = σ) := by
 obtain ⟨⟨ls, os, a, b, c, d⟩, F, nd⟩ := I;refine Df (b.own hx nd) fun os1 ad vals n os2 cN e2 e3 e4 => ?_;subst cN;refine (eO ad e2 ?_);have re : ∀ o : Obj, ls ++ ((os1 ++ (ad, o) :: os2) ++ (fo ++ G)) = (ls ++ os1) ++ (ad, o) :: (os2 ++ (fo ++ G)) := fun o => by simp
 rw [re] at c d;obtain ⟨s1, s2⟩ := dO d;refine ⟨_, _, vals, n, c, F, s1, s2, e3, fun p hp => by simp [hp], fun h' uO gD n' aC aW q1 q2 q3 q4 => ?_⟩;obtain ⟨u, rfl⟩ := q4;exact ⟨⟨ls, os1 ++ (ad, W.listOf gD.toArray n') :: os2, a, e4 uO gD n' aC u q1, by rw [re]; exact q2, by rw [re]; exact fB d⟩, q3, by rw [u.names]; exact nd⟩
theorem cA.split {vs : List V} {vals : List Value} (h : cA ρ G (vs ++ ws) vals) : ∃ a b, vals = a ++ b /\ cA ρ G vs a /\ cA ρ G ws b := by
 induction vs generalizing vals with
 | nil => exact (pO ([]) vals rfl .nil h)
 | cons v vs ih =>
  induction h.out with
  | cons x y =>
   refine pT (ih y) fun a b e1 e2 e3 => ?_;exact (pO (_ :: a) b (by rw [e1]; rfl) (.cons x e2) e3)
theorem cA.take {vs : List V} {vals : List Value} (k : Nat) (x : cA ρ G vs vals) : cA ρ G (vs.take k) (vals.take k) := by
 induction vs generalizing vals k with
 | nil => induction x.out; rw [List.take_nil, List.take_nil]; exact .nil
 | cons v vs ih =>
  induction x.out with
  | cons a b =>
   induction k with
   | zero => exact .nil
   | succ k => exact .cons a (ih k b)
theorem cA.drop {vs : List V} {vals : List Value} (k : Nat) (x : cA ρ G vs vals) : cA ρ G (vs.drop k) (vals.drop k) := by
 induction vs generalizing vals k with
 | nil => induction x.out; rw [List.drop_nil, List.drop_nil]; exact .nil
 | cons v vs ih =>
  induction k with
  | zero => exact x
  | succ k => induction x.out with | cons a b => exact ih k b
section
variable {D : Nat} {C : Cx} {X : dW} {loc : aF} {m : cV} {s : Shared} {Dl : Addr} {vs : List V} {F : List V -> aF -> bQ -> Prop} {M : Model} {A : Around} {Q : cY}
theorem Slot.append (S : Slot C ρ G fo m s.heap Dl vs F) {v : V} {val : Value} (hv : VR ρ G v val) (gT : vs.length <= sizeLine)
  (k : ∀ h', (∀ aC aW, F (vs ++ [v]) aC aW -> bJ C ρ G fo aW m aC h') -> Q .none { s with heap := h' }) : wpAny (model g.prog g.w) A (call (.builtin "list.append") [.ref Dl, val]) Q E s := by
 obtain ⟨pre, post, vals, n, N, Fg, a, b, e, hG, z⟩ := S;have e' := e.append (.cons hv .nil);refine append_K Fg N (jD a b) (fun h' F' N' => k h' fun aC aW f => z h' _ (vals ++ [val]) (n + 1) aC aW e' ?_ F' f) (by rw [List.size_toArray, e.length]; exact gT);rw [List.push_toArray] at N';exact N'
theorem Slot.AZ (S : Slot C ρ G fo m s.heap Dl vs F) {v : V} {r : List V} {t : Tok} (uE : vs = v :: r) (gT : vs.length <= sizeLine)
  (k : ∀ h' val, VR ρ G v val -> (∀ aC aW, F r aC aW -> bJ C ρ G fo aW m aC h') -> Q val { s with heap := h' }) : wpAny (model g.prog g.w) A (call (.builtin "list.pop") [.ref Dl, .int 0 t]) Q E s := by
 obtain ⟨pre, post, vals, n, N, Fg, a, b, e, hG, z⟩ := S;subst uE;induction e.out with
 | @cons val vals h1 h2 =>
  refine kl_popAt (k := 0) (p := []) (q := vals) (y := val) Fg N (by decide +kernel) ?_ rfl (jD a b) (by simpa [h2.length] using gT) fun h' F' N' => k h' val h1 fun aC aW f => z h' r vals (n + 1) aC aW h2 N' F' f;rw [List.size_toArray]; simp [seqIndex?]
set_option tactic.hygienic true in
theorem Slot.pop (S : Slot C ρ G fo m s.heap Dl vs F) {v : V} {r : List V} (uE : vs = r ++ [v]) (gT : vs.length <= sizeLine)
  (k : ∀ h' val, VR ρ G v val -> (∀ aC aW, F r aC aW -> bJ C ρ G fo aW m aC h') -> Q val { s with heap := h' }) : wpAny (model g.prog g.w) A (call (.builtin "list.pop") [.ref Dl]) Q E s := by
 obtain ⟨pre, post, vals, n, N, Fg, a, b, e, hG, z⟩ := S;subst uE;have hl := e.length;refine pT e.split fun p q cN e1 e2 => ?_;subst cN;induction e2.out with
 | cons h1 h2 =>
  cases h2.out
  rename_i val
  have kl : ∀ p : List Value, kl_last (p ++ [val]) = some (p, val) := by
   intro p;induction p with
   | nil => rfl
   | cons x p ih => show kl_last (x :: (p ++ [val])) = _; unfold kl_last; rw [ih]
  refine kl_pop (p := p) (y := val) Fg N (kl p) (jD a b) (by show (p ++ [val]).length <= _; rw [hl]; exact gT) fun h' F' N' => k h' val h1 fun aC aW f => z h' r p (n + 1) aC aW e1 N' F' f
theorem Slot.insert (S : Slot C ρ G fo m s.heap Dl vs F) {v : V} {val : Value} {t : Tok} (hv : VR ρ G v val) (hi : 0 <= i) (UP : i.toNat <= vs.length) (gT : vs.length <= sizeLine)
  (k : ∀ h', (∀ aC aW, F (vs.take i.toNat ++ v :: vs.drop i.toNat) aC aW -> bJ C ρ G fo aW m aC h') -> Q .none { s with heap := h' }) : wpAny (model g.prog g.w) A (call (.builtin "list.insert") [.ref Dl, .int i t, val]) Q E s := by
 obtain ⟨pre, post, vals, n, N, Fg, a, b, e, hG, z⟩ := S;have hl := e.length;have e' : cA ρ G (vs.take i.toNat ++ v :: vs.drop i.toNat) (vals.take i.toNat ++ val :: vals.drop i.toNat) := (e.take _).append (.cons hv (e.drop _));have hs := hM;refine kl_insert (l := vals.take i.toNat ++ val :: vals.drop i.toNat) Fg N ?_ ?_ (jD a b) (by rw [hl]; exact gT) fun h' F' N' => k h' fun aC aW f => z h' _ _ (n + 1) aC aW e' N' F' f
 ·have h1 : i < 2 ^ 62 := by lia
  unfold Builtin.List.listFitsIndex
  simp
  lia
 ·show kl_ins vals i val = _;unfold kl_ins;rw [if_neg (by lia), Nat.min_eq_left (by lia)]
set_option tactic.hygienic true in
theorem Slot.extend (S : Slot C ρ G fo m s.heap Dl vs F) {us : List V} {val : Value} (hv : VR ρ G (.lst us) val) (gT : vs.length + us.length <= sizeLine)
  (k : ∀ h', (∀ aC aW, F (vs ++ us) aC aW -> bJ C ρ G fo aW m aC h') -> Q .none { s with heap := h' }) : wpAny (model g.prog g.w) A (call (.builtin "list.extend") [.ref Dl, val]) Q E s := by
 obtain ⟨pre, post, vals, n, N, Fg, a, b, e, hG, z⟩ := S;induction hv.out with
 | lst hm hu =>
  rename_i bd zJ n2
  refine extend_in (its2 := zJ.toArray) (n2 := n2) Fg N a b (N _ (List.mem_append_right _ (.tail _ (hG _ hm)))).1 (fun h' n' F' N' => k h' fun aC aW f => z h' _ (vals ++ zJ) n' aC aW (e.append hu) N' F' f) (by rw [List.size_toArray, e.length, hu.length]; exact gT)
end
def aB (C : Cx) (x : Str) : Prop := (envX C.cn C.cs C.L C.a C.Bu C.cl).kindOf x = some .local /\ (x == ("__debug__" : Str)) = false
section
variable {D : Nat} {C : Cx} {X : dW} {loc : aF}
theorem EW.var {x : Str} {pos : Pos} {v : V} {Q : _} (hx : aB C x) (hv : (x, LV.val v) ∈ loc) (h : Q v loc σ) : EW g D C ρ X (.Name x pos) loc σ Q := EW.name hv h hx.1 hx.2
theorem dR {pos : Pos} {id : String} {first : List Value} {args : List Expr} {Q : cY} {s : Shared} (hs : aH pos args C.env)
  (h : wpAny (model g.prog g.w) C.A (spliced (args.map fun e => (false, eval e C.env))) (fun vals eB => wpAny (model g.prog g.w) C.A (call (.builtin id) (first ++ vals)) Q E eB) E s) :
  wpAny (model g.prog g.w) C.A (callWith pos (.builtin id) first (backTo pos (starEach args C.env)) []) Q E s := by
 have hs := hs.eq;rw [hs];refine callWith_of (P := fun U => True) ?_ (fun h U => (eO .machine (.inr (.inl rfl)) (Looks.of_pure rfl))) ?_
 ·induction args with
  | nil => rfl
  | cons e r ih => simp [List.any_map, Function.comp_def]
 ·induction args with
  | nil =>
   unfold evalArgs;show wpAny _ _ (spliced [] >>= _) _ _ _;refine wpAny_bind (wpAny_mono h (fun vs eB z => ?_) fun U U z => z);refine wpAny_bind (wpAny_pure ?_);refine wpAny_holding ?_;simp only [List.all_nil, if_true, List.map_nil, List.filterMap_nil];refine wpAny_bind (wpAny_evalAll_nil ?_);exact wpAny_bind (wpAny_pure (wpAny_pure ⟨trivial, z⟩))
  | cons e r => exact evalArgs_plain (wpAny_mono h (fun U U z => ⟨trivial, z⟩) fun U U z => z)
theorem gS {name : Str} {id : String} {pl : Sem Bool} {pos : Pos} {args : List Expr} {Dl : Addr} {its : Array Value} {n : Nat} {h₀ : Heap} {L : Addr} {news : bB} {Q : cY} {s : Shared}
  (N : News h₀ L s.heap news) (hm : (Dl, W.listOf its n) ∈ news) (slot : PySem.Slot "list" name id) (Vl : typeOf (.builtin id) = pure (.type "method_descriptor")) (hs : aH pos args C.env)
  (h : wpAny (model g.prog g.w) C.A (spliced (args.map fun e => (false, eval e C.env))) (fun vals eB => wpAny (model g.prog g.w) C.A (call (.builtin id) (.ref Dl :: vals)) Q E eB) E s) :
  wpAny (model g.prog g.w) C.A (getMethod (.ref Dl) name pl) (fun fx sY => wpAny (model g.prog g.w) C.A (callWith pos fx.1 fx.2 (backTo pos (starEach args C.env)) []) Q E sY) E s :=
 kl_method N hm slot Vl (dR hs h)
theorem Slot.mem {m : cV} {h : Heap} {Dl : Addr} {vs : List V} {F : List V -> aF -> bQ -> Prop} (S : Slot C ρ G fo m h Dl vs F) : ∃ news its n, News C.h₀ C.L h news /\ (Dl, W.listOf its n) ∈ news := by
 obtain ⟨pre, post, vals, n, N, _⟩ := S;exact (La _ _ n N (List.mem_append_right _ (.head _)))
theorem EW.xB {o : Expr} {name : Str} {id : String} {pos : Pos} {args : List Expr} (slot : PySem.Slot "list" name id) (Vl : typeOf (.builtin id) = pure (.type "method_descriptor")) (he : bS o name apos pos args C.env) (hs : aH pos args C.env)
  (h : EW g D C ρ X o loc σ (fun v l s => v = .toks /\ s.isSome /\ AW g D C ρ X args l s (fun vs l' s' => ∃ sc, s' = some sc /\
   ∀ (G fo : bB) (m : cV) (eB : Shared) (vals : List Value), Slot C ρ G fo m eB.heap ρ.aT sc.tokens (fun vs l s => l = l' /\ s = some { sc with tokens := vs }) -> cA ρ G vs vals -> ∀ (T E : cY),
    (∀ r val gV h', Q r l' (some gV) -> VR ρ G r val -> bJ C ρ G fo (some gV) m l' h' -> T val { eB with heap := h' }) -> wpAny (model g.prog g.w) C.A (call (.builtin id) (.ref ρ.aT :: vals)) T E eB))) :
  EW g D C ρ X (.Call (.Attribute o name apos) args [] pos) loc σ Q := by
 refine .of fun ok G fo m s I Qr Er q qe => ?_;obtain ⟨pl, he⟩ := he.eq;refine MethodCall_ (EW.seq1 h ok I qe fun v bP fE G1 val h1 dB z1 z2 z3 z4 gU => ?_) he;refine qA z1 fun cN tU z => ?_;subst cN;induction z3.out
 obtain ⟨sc, rfl⟩ := Option.isSome_iff_exists.mp tU;refine wZ z4.oZ.mem fun news its n N hm => ?_;refine gS (s := (St s h1 dB)) N hm slot Vl hs ?_;refine AW.run z ok (s := (St s h1 dB)) z4 gU fun vs bG fV G2 vals2 h2 eM y1 y2 y3 y4 mU => ?_;refine aR y1 fun OX cN y => ?_;subst cN;exact y G2 fo m (St s h2 eM) vals2 y4.oZ y3 _ _ fun r val gV h' w1 w2 w3 => q r bG (some gV) G2 val h' eM w1 (z2.trans y2) w2 w3
theorem EW.Hx {o : Expr} {pos : Pos} {e : Expr} (he : bS o "append" apos pos [e] C.env) (hs : aH pos [e] C.env)
  (h : EW g D C ρ X o loc σ (fun v l s => v = .toks /\ s.isSome /\ EW g D C ρ X e l s (fun v l' s' => ∃ sc, s' = some sc /\ sc.tokens.length <= sizeLine /\ Q .none l' (some { sc with tokens := sc.tokens ++ [v] })))) :
  EW g D C ρ X (.Call (.Attribute o "append" apos) [e] [] pos) loc σ Q := by
 refine EW.xB PySem.F.slot_list_append PySem.F.type_list_append he hs (h.mono fun v l s z => (fL z.1 z.2.1 (z.2.2.mono fun v l' s' z => ?_)));refine fO z ?_;try clear z;intro sc cN gT z;subst cN;refine ⟨sc, rfl, fun G fo m eB vals S hv T E k => ?_⟩;induction hv.out with
 | cons h1 hn => induction hn.out; exact S.append h1 gT fun h' F => k .none .none _ h' z .none (F _ _ ⟨rfl, rfl⟩)
theorem EW.Hg {o : Expr} {pos : Pos} {ei e : Expr} (he : bS o "insert" apos pos [ei, e] C.env) (hs : aH pos [ei, e] C.env)
  (h : EW g D C ρ X o loc σ (fun v l s => v = .toks /\ s.isSome /\ EW g D C ρ X ei l s (fun iv l s => EW g D C ρ X e l s (fun v l' s' => ∃ sc i, s' = some sc /\ iv = .int i /\ 0 <= i /\ i.toNat <= sc.tokens.length /\ sc.tokens.length <= sizeLine /\ Q .none l' (some { sc with tokens := sc.tokens.take i.toNat ++ v :: sc.tokens.drop i.toNat }))))) :
  EW g D C ρ X (.Call (.Attribute o "insert" apos) [ei, e] [] pos) loc σ Q := by
 refine EW.xB PySem.F.slot_list_insert PySem.F.type_list_insert he hs (h.mono fun v l s z => (fL z.1 z.2.1 (z.2.2.mono fun iv l s z => z.mono fun v l' s' z => ?_)));obtain ⟨sc, i, rfl, rfl, h1, h2, gT, z⟩ := z;refine ⟨sc, rfl, fun G fo m eB vals S hv T E k => ?_⟩;induction hv.out with
 | cons hi hw =>
  induction hi.out
  induction hw.out with
  | cons h3 hn => induction hn.out; exact S.insert h3 h1 h2 gT fun h' F => k .none .none _ h' z .none (F _ _ ⟨rfl, rfl⟩)
theorem EW.Sb {o : Expr} {pos : Pos} {ei : Expr} (he : bS o "pop" apos pos [ei] C.env) (hs : aH pos [ei] C.env)
  (h : EW g D C ρ X o loc σ (fun v l s => v = .toks /\ s.isSome /\ EW g D C ρ X ei l s (fun iv l' s' => ∃ sc t r, s' = some sc /\ iv = .int 0 /\ sc.tokens = t :: r /\ sc.tokens.length <= sizeLine /\ Q t l' (some { sc with tokens := r })))) :
  EW g D C ρ X (.Call (.Attribute o "pop" apos) [ei] [] pos) loc σ Q := by
 refine EW.xB PySem.F.slot_list_pop PySem.F.type_list_pop he hs (h.mono fun v l s z => (fL z.1 z.2.1 (z.2.2.mono fun iv l' s' z => ?_)));refine Mj z ?_;try clear z;intro sc t r cN nA ht gT z;subst cN nA;refine ⟨sc, rfl, fun G fo m eB vals S hv T E k => ?_⟩;induction hv.out with
 | cons hi hn => induction hn.out; induction hi.out; exact S.AZ ht gT fun h' val hv F => k t val _ h' z hv (F _ _ ⟨rfl, rfl⟩)
theorem EW.Et {o : Expr} {name : Str} {id : String} {pos : Pos} {args : List Expr} (slot : PySem.Slot "list" name id) (Vl : typeOf (.builtin id) = pure (.type "method_descriptor")) (he : bS o name apos pos args C.env) (hs : aH pos args C.env)
  (h : EW g D C ρ X o loc σ (fun v l s => v = .rC /\ s.isSome /\ AW g D C ρ X args l s (fun vs l' s' => ∃ sc, s' = some sc /\
   ∀ (G fo : bB) (m : cV) (eB : Shared) (vals : List Value), Slot C ρ G fo m eB.heap ρ.aI (sc.aG.map V.int) (fun vs l s => l = l' /\ ∃ is, vs = is.map V.int /\ s = some { sc with aG := is }) -> cA ρ G vs vals -> ∀ (T E : cY),
    (∀ r val gV h', Q r l' (some gV) -> VR ρ G r val -> bJ C ρ G fo (some gV) m l' h' -> T val { eB with heap := h' }) -> wpAny (model g.prog g.w) C.A (call (.builtin id) (.ref ρ.aI :: vals)) T E eB))) :
  EW g D C ρ X (.Call (.Attribute o name apos) args [] pos) loc σ Q := by
 refine .of fun ok G fo m s I Qr Er q qe => ?_;obtain ⟨pl, he⟩ := he.eq;refine MethodCall_ (EW.seq1 h ok I qe fun v bP fE G1 val h1 dB z1 z2 z3 z4 gU => ?_) he;refine qA z1 fun cN tU z => ?_;subst cN;induction z3.out
 obtain ⟨sc, rfl⟩ := Option.isSome_iff_exists.mp tU;refine wZ z4.Ag.mem fun news its n N hm => ?_;refine gS (s := (St s h1 dB)) N hm slot Vl hs ?_;refine AW.run z ok (s := (St s h1 dB)) z4 gU fun vs bG fV G2 vals2 h2 eM y1 y2 y3 y4 mU => ?_;refine aR y1 fun OX cN y => ?_;subst cN;exact y G2 fo m (St s h2 eM) vals2 y4.Ag y3 _ _ fun r val gV h' w1 w2 w3 => q r bG (some gV) G2 val h' eM w1 (z2.trans y2) w2 w3
theorem EW.Ii {o : Expr} {pos : Pos} {e : Expr} (he : bS o "append" apos pos [e] C.env) (hs : aH pos [e] C.env)
  (h : EW g D C ρ X o loc σ (fun v l s => v = .rC /\ s.isSome /\ EW g D C ρ X e l s (fun v l' s' => ∃ sc i, s' = some sc /\ v = .int i /\ sc.aG.length <= sizeLine /\ Q .none l' (some { sc with aG := sc.aG ++ [i] })))) :
  EW g D C ρ X (.Call (.Attribute o "append" apos) [e] [] pos) loc σ Q := by
 refine EW.Et PySem.F.slot_list_append PySem.F.type_list_append he hs (h.mono fun v l s z => (fL z.1 z.2.1 (z.2.2.mono fun v l' s' z => ?_)));refine Pf z ?_;try clear z;intro sc i cN nA gT z;subst cN nA;refine ⟨sc, rfl, fun G fo m eB vals S hv T E k => ?_⟩;induction hv.out with
 | cons h1 hn => induction hn.out; exact S.append h1 (by simpa using gT) fun h' F => k .none .none _ h' z .none (F _ _ ⟨rfl, _, by simp, rfl⟩)
theorem EW.Ve {o : Expr} {pos : Pos} (he : bS o "pop" apos pos [] C.env) (hs : aH pos [] C.env)
  (h : EW g D C ρ X o loc σ (fun v l s => v = .rC /\ ∃ sc i r, s = some sc /\ sc.aG = r ++ [i] /\ sc.aG.length <= sizeLine /\ Q (.int i) l (some { sc with aG := r }))) :
  EW g D C ρ X (.Call (.Attribute o "pop" apos) [] [] pos) loc σ Q := by
 refine EW.Et PySem.F.slot_list_pop PySem.F.type_list_pop he hs (h.mono fun v l s z => ?_);obtain ⟨rfl, sc, i, r, rfl, hr, gT, z⟩ := z;refine ⟨rfl, rfl, sc, rfl, fun G fo m eB vals S hv T E k => ?_⟩;induction hv.out
 exact S.pop (v := .int i) (r := r.map V.int) (by rw [hr]; simp) (by simpa using gT) fun h' val hv F => k _ val _ h' z hv (F _ _ ⟨rfl, _, rfl, rfl⟩)
theorem EW.yN {x : Str} {name : Str} {id : String} {pos : Pos} {args : List Expr} {tM : List V} (hx : aB C x) (h0 : (x, LV.ml tM) ∈ loc) (slot : PySem.Slot "list" name id) (Vl : typeOf (.builtin id) = pure (.type "method_descriptor"))
  (he : bS (.Name x np) name apos pos args C.env) (hs : aH pos args C.env)
  (h : AW g D C ρ X args loc σ (fun vs l' s' => ∃ ws, (x, LV.ml ws) ∈ l' /\
   ∀ (G fo : bB) (m : cV) (eB : Shared) (vals : List Value) (Dl : Addr), Slot C ρ G fo m eB.heap Dl ws (fun vs l s => cK x (.ml vs) l' l /\ s = s') -> cA ρ G vs vals -> ∀ (T E : cY),
    (∀ r val l2 h', Q r l2 s' -> VR ρ G r val -> bJ C ρ G fo s' m l2 h' -> T val { eB with heap := h' }) -> wpAny (model g.prog g.w) C.A (call (.builtin id) (.ref Dl :: vals)) T E eB)) :
  EW g D C ρ X (.Call (.Attribute (.Name x np) name apos) args [] pos) loc σ Q := by
 refine .of fun ok G fo m s I Qr Er q qe => ?_;obtain ⟨pl, he⟩ := he.eq;refine aR (I.kY h0) fun Dl FK S => ?_;refine wZ S.mem fun news its n N hm => ?_;refine MethodCall_ (nameX_L I.fr FK ?_ ok.kind hx.1 hx.2) he;refine gS N hm slot Vl hs ?_;refine AW.run h ok I qe fun vs bG fV G2 vals2 h2 eM y1 y2 y3 y4 mU => ?_;refine aR y1 fun ws y0 y => ?_;refine aR (y4.kY y0) fun D2 NA S2 => ?_;rw [FK] at NA; cases NA;exact y G2 fo m (St s h2 eM) vals2 Dl S2 y3 _ _ fun r val l2 h' w1 w2 w3 => q r l2 fV G2 val h' eM w1 y2 w2 w3
theorem EW.dZ {x : Str} {pos : Pos} {e : Expr} {tM : List V} (hx : aB C x) (h0 : (x, LV.ml tM) ∈ loc) (he : bS (.Name x np) "append" apos pos [e] C.env) (hs : aH pos [e] C.env)
  (h : EW g D C ρ X e loc σ (fun v l s => ∃ ws l', (x, LV.ml ws) ∈ l /\ ws.length <= sizeLine /\ cK x (.ml (ws ++ [v])) l l' /\ Q .none l' s)) :
  EW g D C ρ X (.Call (.Attribute (.Name x np) "append" apos) [e] [] pos) loc σ Q := by
 refine EW.yN hx h0 PySem.F.slot_list_append PySem.F.type_list_append he hs (EW.mono h fun v l s z => ?_);refine Pf z fun ws l' h1 gT u z => ?_;refine ⟨ws, h1, fun G fo m eB vals Dl S hv T E k => ?_⟩;induction hv.out with
 | cons h1 hn => induction hn.out; exact S.append h1 gT fun h' F => k .none .none _ h' z .none (F _ _ ⟨u, rfl⟩)
theorem EW.Hs {x : Str} {pos : Pos} {e : Expr} {tM : List V} (hx : aB C x) (h0 : (x, LV.ml tM) ∈ loc) (he : bS (.Name x np) "extend" apos pos [e] C.env) (hs : aH pos [e] C.env)
  (h : EW g D C ρ X e loc σ (fun v l s => ∃ us ws l', v = .lst us /\ (x, LV.ml ws) ∈ l /\ ws.length + us.length <= sizeLine /\ cK x (.ml (ws ++ us)) l l' /\ Q .none l' s)) :
  EW g D C ρ X (.Call (.Attribute (.Name x np) "extend" apos) [e] [] pos) loc σ Q := by
 refine EW.yN hx h0 PySem.F.slot_list_extend PySem.F.type_list_extend he hs (EW.mono h fun v l s z => ?_);refine Mj z ?_;try clear z;intro us ws l' cN h1 gT u z;subst cN;refine ⟨ws, h1, fun G fo m eB vals Dl S hv T E k => ?_⟩;induction hv.out with
 | cons h1 hn => induction hn.out; exact S.extend h1 gT fun h' F => k .none .none _ h' z .none (F _ _ ⟨u, rfl⟩)
theorem EW.Pk {x : Str} {pos : Pos} {e : Expr} {tM : List V} (hx : aB C x) (h0 : (x, LV.ml tM) ∈ loc) (he : bS (.Name x np) "pop" apos pos [e] C.env) (hs : aH pos [e] C.env)
  (h : EW g D C ρ X e loc σ (fun v l s => ∃ t r l', v = .int 0 /\ (x, LV.ml (t :: r)) ∈ l /\ (t :: r).length <= sizeLine /\ cK x (.ml r) l l' /\ Q t l' s)) :
  EW g D C ρ X (.Call (.Attribute (.Name x np) "pop" apos) [e] [] pos) loc σ Q := by
 refine EW.yN hx h0 PySem.F.slot_list_pop PySem.F.type_list_pop he hs (EW.mono h fun v l s z => ?_);refine Mj z ?_;try clear z;intro t r l' cN h1 gT u z;subst cN;refine ⟨_, h1, fun G fo m eB vals Dl S hv T E k => ?_⟩;induction hv.out with
 | cons h1 hn => induction hn.out; induction h1.out; exact S.AZ rfl gT fun h' val hv F => k _ val _ h' z hv (F _ _ ⟨u, rfl⟩)
end
theorem bH.setM {m : cV} {x : Str} {vs : List V} {vals : List Value} {a : Addr} {n : Nat} (hv : cA ρ G vs vals) {loc : aF} (u : cK x (.ml vs) loc aC) (h : bH ρ G m loc os) (nd : (loc.map (·.1)).Nodup) :
  ∃ os1 os2, bH ρ G (mT m x (.ref a)) aC (os1 ++ (a, W.listOf vals.toArray n) :: os2) /\ (os1 ++ os2).Sublist os := by
 obtain ⟨o1, o, o2, rfl, k⟩ := h.put (m' := mT m x (.ref a)) tF (.ml (n := n) vI hv) u nd;exact (GS o1 o2 k ((List.Sublist.refl o1).append (List.sublist_append_right o o2)))
theorem bH.freeze {m : cV} {x : Str} {vs : List V} {loc : aF} (h : bH ρ G m loc os) (hx : (x, LV.ml vs) ∈ loc) (u : cK x (.val (.lst vs)) loc aC) (nd : (loc.map (·.1)).Nodup) :
  ∃ os1 a vals n os2, os = os1 ++ (a, W.listOf (vals : List Value).toArray n) :: os2 /\ m x = some (.ref a) /\ cA ρ G vs vals /\ ∀ G', Sub G G' -> (a, W.listOf (vals : List Value).toArray n) ∈ G' -> bH ρ G' m aC (os1 ++ os2) := by
 obtain ⟨l1, l2, o1, o, o2, rfl, rfl, h1, hv, h2, n1, n2⟩ := h.at hx nd;induction hv.out with
 | ml hm Ze =>
  refine (lP o1 _ _ _ o2 rfl hm Ze (fun G' k1 k2 => ?_));rw [u.at n2 n1];exact (h1.mono k1).append (.val hm (.lst k2 (Ze.mono k1)) (h2.mono k1))
theorem bJ.freeze {C : Cx} {ρ : bZ} {G fo : bB} {σ : bQ} {m : cV} {loc aC : aF} {h : Heap} {x : Str} {vs : List V} (I : bJ C ρ G fo σ m loc h) (hx : (x, LV.ml vs) ∈ loc) (u : cK x (.val (.lst vs)) loc aC) :
  ∃ a p, m x = some (.ref a) /\ VR ρ (p :: G) (.lst vs) (.ref a) /\ bJ C ρ (p :: G) fo σ m aC h := by
 obtain ⟨⟨ls, os, a, b, c, d⟩, F, nd⟩ := I;refine Df (b.freeze hx u nd) fun os1 ad vals n os2 cN e2 e3 e4 => ?_;subst cN;have k : ∀ p ∈ G, p ∈ (ad, W.listOf vals.toArray n) :: G := fun p hp => .tail _ hp;have pm : (ls ++ ((os1 ++ (ad, W.listOf vals.toArray n) :: os2) ++ (fo ++ G))).Perm (ls ++ ((os1 ++ os2) ++ (fo ++ ((ad, W.listOf vals.toArray n) :: G)))) := by
  refine (List.Perm.refl ls).append ?_;rw [List.append_assoc, List.append_assoc, List.cons_append];refine (List.Perm.refl os1).append ?_;rw [← List.append_assoc os2, ← List.append_assoc os2];exact List.perm_middle.symm
 refine ⟨ad, (ad, W.listOf vals.toArray n), e2, .lst (.head _) (e3.mono k), ⟨ls, os1 ++ os2, a.mono k, e4 _ k (.head _), bY c fun p hp => pm.symm.subset hp, ?_⟩, F, by rw [u.names]; exact nd⟩;exact (List.Perm.nodup_iff (pm.map _)).mp d
section
variable {D : Nat} {C : Cx} {X : dW} {loc : aF}
theorem EW.freeze {x : Str} {pos : Pos} {ws : List V} {aC : aF} {Q : nG} (hx : aB C x) (h0 : (x, LV.ml ws) ∈ loc) (u : cK x (.val (.lst ws)) loc aC) (h : Q (.lst ws) aC σ) : EW g D C ρ X (.Name x pos) loc σ Q := by
 refine .of fun ok G fo m s I Qr Er q qe => ?_;refine pT (I.freeze h0 u) fun a p hm hv I' => ?_;exact nameX_L I.fr hm (q _ aC σ _ _ s.heap s.toks h (fun p hp => .tail _ hp) hv I') ok.kind hx.1 hx.2
theorem BW.own {x : Str} {pos : Pos} {Q : lR} (hx : aB C x) (h0 : (x, LV.ml ws) ∈ loc) (gT : ws.length <= sizeLine) (h : Q (!ws.isEmpty) loc σ) : BW g D C ρ X (.Name x pos) loc σ Q := by
 refine .of fun ok G fo m s w I hw Qr Er q qe => ?_;subst hw;obtain ⟨a, hm, pre, post, vals, n, N, F, s1, s2, e, hG, z⟩ := I.kY h0;have hs := hM;refine wpAny_isTrue_value (nameX_L I.fr hm ?_ ok.kind hx.1 hx.2) rfl;refine wpAny_truthy_list (items := vals.toArray) ⟨_, (N _ (List.mem_append_right _ (.head _))).1, rfl, ⟨n, rfl⟩⟩ ?_ ?_
 ·rw [List.size_toArray, e.length]; lia
 ·have e : (!vals.toArray.isEmpty) = (!ws.isEmpty) := by cases e <;> rfl
  rw [e];exact q _ loc σ G s.heap _ h (.refl _) I
theorem BW.toks {e : Expr} {Q : lR} (he : ∀ whole, isTrue e C.env whole = (do let v ← whole; standAt e.pos; holding [v] (truthy v)))
  (h : EW g D C ρ X e loc σ (fun v l s => v = .toks /\ ∃ sc, s = some sc /\ sc.tokens.length <= sizeLine /\ Q (!sc.tokens.isEmpty) l s)) : BW g D C ρ X e loc σ Q := by
 refine .of fun ok G fo m s w I hw Qr Er q qe => ?_;subst hw;refine wpAny_isTrue_value (EW.seq1 (e := e) h ok I qe fun v aC aW G' val h' aN z1 z2 z3 z4 U => ?_) (he _);obtain ⟨rfl, sc, rfl, gT, z⟩ := z1;induction z3.out
 obtain ⟨pre, post, vals, n, N, F, s1, s2, e, hG, zz⟩ := z4.oZ;have hs := hM;refine wpAny_truthy_list (items := vals.toArray) ⟨_, (N _ (List.mem_append_right _ (.head _))).1, rfl, ⟨n, rfl⟩⟩ ?_ ?_
 ·rw [List.size_toArray, e.length]; lia
 ·have e : (!vals.toArray.isEmpty) = (!sc.tokens.isEmpty) := by
   generalize sc.tokens = ts at e;cases e <;> rfl
  rw [e];exact q _ aC _ G' h' _ z z2 z4
theorem qJ {pos : Pos} {args : List Expr} (hs : aH pos args C.env) {P : List (Bool × Sem Value) -> Prop} (h : P (args.map fun e => (false, eval e C.env))) : P (backTo pos (starEach args C.env)) := by
 have hs := hs.eq; rw [hs]; exact h
theorem SW.dU {x : Str} {p pos lp : Pos} {args : List Expr} {Q : dD} (hx : aB C x) (hs : aH lp args C.env)
  (h : AW g D C ρ X args loc σ (fun vs l s => vs.length <= sizeLine /\ ∃ l', cK x (.ml vs) l l' /\ Q .next l' s)) : iB g D C ρ X (.Assign [.Name x p] (.List args lp) pos) loc σ Q := by
 refine .of fun ok G fo m s I Qr Er q qe => ?_;refine wpAny_Assign_Name (List_ (qJ hs (P := fun t => wpAny _ _ (spliced t) _ _ _) (AW.run h ok I (qe.at) fun vs aC aW G' vals h' aN z1 z2 z3 z4 U => ?_))) rfl;obtain ⟨gT, l', u, z⟩ := z1;obtain ⟨⟨ls, os, a, b, c, d⟩, F, nd⟩ := z4;refine newList_K (s := (St s h' aN)) F c (fun al h2 F2 N2 lt => ?_) (by rw [z3.length]; exact gT);refine Pd (b.setM (a := al) (n := 0) z3 u nd) fun os1 os2 b' sb => ?_;refine wpAny_storeName_local hx.1 F2.ns (fun h3 hn AE => ?_) (by show (C.cs.kind == .class || (C.cs.kind == .module && C.L != mainGlobals)) = false; rw [ok.kind]; rfl);have N3 : News C.h₀ C.L h3 ((al, W.listOf vals.toArray 0) :: (ls ++ (os ++ (fo ++ G')))) := N2.set AE;have sub : (ls ++ ((os1 ++ os2) ++ (fo ++ G'))).Sublist (ls ++ (os ++ (fo ++ G'))) := (List.Sublist.refl _).append (sb.append (.refl _));have pm : ((al, W.listOf vals.toArray 0) :: (ls ++ ((os1 ++ os2) ++ (fo ++ G')))).Perm (ls ++ ((os1 ++ (al, W.listOf vals.toArray 0) :: os2) ++ (fo ++ G'))) := by
  refine List.perm_middle.symm.trans ((List.Perm.refl ls).append ?_);rw [List.append_assoc, List.append_assoc, List.cons_append];exact List.perm_middle.symm
 have dd := cF (oa := W.listOf vals.toArray 0) d lt;refine q .next l' aW G' _ .next h3 _ z z2 .next ⟨⟨ls, os1 ++ (al, W.listOf vals.toArray 0) :: os2, a, b', ?_, ?_⟩, F2.set hn AE, by rw [u.names]; exact nd⟩
 ·exact bY N3 fun p hp => (List.Sublist.cons₂ _ sub).subset (pm.symm.subset hp)
 ·exact (List.Perm.nodup_iff (pm.map _)).mp (dJ dd (List.Sublist.cons₂ _ sub))
theorem EW.tup {elts : List Expr} {k : Nat} {pos : Pos} {Q : nG} (hs : aH pos elts C.env) (h : AW g D C ρ X elts loc σ (fun vs l s => vs.length <= sizeLine /\ Q (.tup vs) l s)) : EW g D C ρ X (.Tuple elts k pos) loc σ Q := by
 refine .of fun ok G fo m s I Qr Er q qe => ?_;refine Tuple_ (qJ hs (P := fun t => wpAny _ _ (spliced t) _ _ _) (AW.run h ok I qe fun vs aC aW G' vals h' aN z1 z2 z3 z4 U => ?_));obtain ⟨⟨ls, os, a, b, c, d⟩, F, nd⟩ := z4;refine newTuple_N (s := (St s h' aN)) F c (fun h2 F2 N2 => ?_) (by rw [z3.length]; exact z1.1);have dd := cF (oa := mZ vals) d (fun p hp => Heap.lt_size (c p hp).1);have k1 : ∀ p ∈ G', p ∈ [((h'.objs.size : Addr), mZ vals)] ++ G' := fun p hp => .tail _ hp;exact q _ aC aW ([((h'.objs.size : Addr), mZ vals)] ++ G') _ h2 _ z1.2 (z2.trans k1) (.tup (.head _) (z3.mono k1)) (bJ.more a b nd N2 dd F2)
theorem EW.qL {elts : List Expr} {pos : Pos} (hs : aH pos elts C.env) (h : AW g D C ρ X elts loc σ (fun vs l s => vs.length <= sizeLine /\ Q (.lst vs) l s)) : EW g D C ρ X (.List elts pos) loc σ Q := by
 refine .of fun ok G fo m s I Qr Er q qe => ?_;refine List_ (qJ hs (P := fun t => wpAny _ _ (spliced t) _ _ _) (AW.run h ok I qe fun vs aC aW G' vals h' aN z1 z2 z3 z4 U => ?_));obtain ⟨⟨ls, os, a, b, c, d⟩, F, nd⟩ := z4;refine newList_K (s := (St s h' aN)) F c (fun al h2 F2 N2 lt => ?_) (by rw [z3.length]; exact z1.1);have dd := cF (oa := W.listOf vals.toArray 0) d lt;have k1 : ∀ p ∈ G', p ∈ [(al, W.listOf vals.toArray 0)] ++ G' := fun p hp => .tail _ hp;exact q _ aC aW ([(al, W.listOf vals.toArray 0)] ++ G') _ h2 _ z1.2 (z2.trans k1) (.lst (.head _) (z3.mono k1)) (bJ.more a b nd N2 dd F2)
set_option tactic.hygienic true in
theorem EW.kU {o : Expr} {name : Str} {pos : Pos}
  (he : eval (.Attribute o name pos) C.env = (do
   let ov ← eval o C.env
   standAt pos.atName
   let r ← holding [ov] (getAttr ov name true)
   letTemporaryGo o ov r
   pure r))
  (h : EW g D C ρ X o loc σ (fun v l s => ∃ Cl ns vs u, v = .inst Cl ns vs /\ eT g Cl name /\ ns.Nodup /\ (name, u) ∈ ns.zip vs /\ u.plain = true /\ Q u l s)) :
  EW g D C ρ X (.Attribute o name pos) loc σ Q := by
 refine .of fun ok G fo m s I Qr Er q qe => ?_;refine Attribute_any_ (EW.seq1 h ok I qe fun v bP fE G1 val h1 dB z1 z2 z3 z4 gU => ?_) he;refine GQ z1 fun Cl ns vs u cN hm Fw hu hp z => ?_;subst cN;induction z3.out with
 | inst h1 h2 h3 h4 =>
  rename_i x dx es n vals
  obtain ⟨ls, os, a, b, c, d⟩ := z4.ex;have IA : InstAt _ x (instObj Cl dx) Cl (some (dictOf es n)) := InstAt.of_news c (by simp [h1]) (by simp [h2]);refine aR (cA.zip h4 hu) fun val m1 m2 => ?_;refine aR hm.fi fun attr f1 f2 => ?_;refine kW (s := (St s _ dB)) z4.fr ok.fK IA hm.pg hm.hd f1 f2 (jK h3 Fw m1) (m2.handed hp) ?_;exact q u bP _ G1 val _ _ z z2 m2 z4
 | An h1 h2 h3 h4 =>
  rename_i x dx es n vals ws sl
  obtain ⟨ls, os, a, b, c, d⟩ := z4.ex;have IA : InstAt _ x ({ cls := .ref Cl, dict := some dx, data := .fields ws, slots := sl } : Obj) Cl (some (dictOf es n)) := ⟨(c (x, ({ cls := .ref Cl, dict := some dx, data := .fields ws, slots := sl } : Obj)) (by simp [h1])).1, rfl, rfl, (c (dx, dictOf es n) (by simp [h2])).1⟩;refine aR (cA.zip h4 hu) fun val m1 m2 => ?_;refine aR hm.fi fun attr f1 f2 => ?_;refine kW (s := (St s _ dB)) z4.fr ok.fK IA hm.pg hm.hd f1 f2 (jK h3 Fw m1) (m2.handed hp) ?_;exact q u bP _ G1 val _ _ z z2 m2 z4
set_option tactic.hygienic true in
theorem EW.Rq {o : Expr} {name : Str} {pos : Pos}
  (he : eval (.Attribute o name pos) C.env = (do
   let ov ← eval o C.env
   standAt pos.atName
   let r ← holding [ov] (getAttr ov name true)
   letTemporaryGo o ov r
   pure r))
  (h : EW g D C ρ X o loc σ (fun v l s => ∃ Cl ns vs a t, v = .inst Cl ns vs /\ plainGet g.K Cl name = true /\ hasDictIn g.K Cl = true /\ findIn g.K (.ref Cl) name = some (some (Value.str a t)) /\ specialIn g.K (Value.str a t) "__get__" = some Option.none /\ copiedNames.contains name = false /\ name ∉ ns /\ Q (.str a) l s)) :
  EW g D C ρ X (.Attribute o name pos) loc σ Q := by
 refine .of fun ok G fo m s I Qr Er q qe => ?_;refine Attribute_any_ (EW.seq1 h ok I qe fun v bP fE G1 val h1 dB z1 z2 z3 z4 gU => ?_) he;refine KJ z1 fun Cl ns vs a t cN f1 f2 f3 f4 f5 f6 z => ?_;subst cN;induction z3.out with
 | inst h1 h2 h3 h4 =>
  rename_i x dx es n vals
  obtain ⟨ls, os, a', b, c, d⟩ := z4.ex;have IA : InstAt _ x (instObj Cl dx) Cl (some (dictOf es n)) := InstAt.of_news c (by simp [h1]) (by simp [h2]);refine get_cls (s := (St s _ dB)) z4.fr ok.fK IA f1 f2 f3 f4 rfl f5 (fX h3 f6) ?_;exact q _ bP _ G1 _ _ _ z z2 .str z4
 | An h1 h2 h3 h4 =>
  rename_i x dx es n vals ws sl
  obtain ⟨ls, os, a', b, c, d⟩ := z4.ex;have IA : InstAt _ x ({ cls := .ref Cl, dict := some dx, data := .fields ws, slots := sl } : Obj) Cl (some (dictOf es n)) := ⟨(c (x, ({ cls := .ref Cl, dict := some dx, data := .fields ws, slots := sl } : Obj)) (by simp [h1])).1, rfl, rfl, (c (dx, dictOf es n) (by simp [h2])).1⟩;refine get_cls (s := (St s _ dB)) z4.fr ok.fK IA f1 f2 f3 f4 rfl f5 (fX h3 f6) ?_;exact q _ bP _ G1 _ _ _ z z2 .str z4
theorem EW.tH {value lo up : Expr} {p pos : Pos}
  (hs : ∀ x t a, subscripted (.Slice (some lo) (some up) Option.none p) false (.str x t) (.ref a) = operate [.ref a, .str x t] (getItem (.str x t) (.ref a))) (ht : ∀ x t r, letTemporaryGo value (.str x t) r = pure ())
  (h : EW g D C ρ X value loc σ (fun a l s => EW g D C ρ X lo l s (fun b l s => EW g D C ρ X up l s (fun c l s => ∃ (x : Str) (i j : Int), a = .str x /\ b = .int i /\ c = .int j /\ x.length <= sizeLine /\ Q (.str (Txt.slice x (some i) (some j))) l s)))) :
  EW g D C ρ X (.Subscript value (.Slice (some lo) (some up) Option.none p) pos) loc σ Q := by
 refine .of fun ok G fo m s I Qr Er q qe => ?_;refine Subscript_ (EW.seq1 h ok I qe fun a bP fE G1 av h1 dB z1 z2 z3 z4 gU => ?_);refine wpAny_Slice ?_;refine EW.seq1 z1 ok (s := (St s h1 dB)) z4 gU fun b bG fV G2 bv h2 eM y1 y2 y3 y4 mU => ?_;refine EW.seq1 y1 ok (s := (St s h2 eM)) y4 mU fun c lU Eu G3 cv h3 Dh x1 x2 x3 x4 JS => ?_;refine evalPart_none_step ?_;refine Mj x1 fun x i j cN nA zX gT w => ?_;subst cN nA zX;induction z3.out; induction y3.out; induction x3.out
 obtain ⟨⟨ls, os, a', b', c', d'⟩, F, nd⟩ := x4;refine slice_strN_ss (s := (St s h3 Dh)) F c' (fun h' t' k F' N' => ?_) (hs _ _ _) (ht _ _) gT;exact q _ lU Eu G3 _ h' k w (fun p hp => x2 p (y2 p (z2 p hp))) .str ⟨⟨ls, os, a', b', N', d'⟩, F', nd⟩
theorem Nk {ys : List Str} {vals : List Value} (h : cA ρ G (ys.map V.str) vals) : StrsAre vals ys := by
 induction ys generalizing vals with
 | nil => induction h.out; exact .nil
 | cons y ys ih => induction h.out with | cons h1 h2 => induction h1.out; exact .cons _ _ (ih h2)
theorem Ky {sep : Str} {t : Tok} {Dl : Addr} {ys : List Str} {F : List V -> aF -> bQ -> Prop} {m : cV} {s : Shared} (S : Slot C ρ G fo m s.heap Dl ws F) (hw : ws = ys.map V.str) (Uy : sep.length <= 16) (gT : (ys.map (·.length)).sum + ys.length <= 1048576)
  {A : Around} {Q : cY} (q : ∀ t' k, Q (.str (Txt.join sep ys) t') { s with toks := k }) : wpAny (model g.prog g.w) A (call (.builtin "str.join") [.str sep t, .ref Dl]) Q E s := by
 obtain ⟨pre, post, vals, n, N, F, s1, s2, e, hG, z⟩ := S;subst hw;exact join_listW (D := Dl) (items := vals.toArray) ⟨_, (N _ (List.mem_append_right _ (.head _))).1, rfl, ⟨n, rfl⟩⟩ (Nk e) Uy gT q
theorem EW.Pw {sep : Str} {k : Nat} {sp : Pos} {x : Str} {pos : Pos} {ys : List Str} (hx : aB C x) (h0 : (x, LV.ml ws) ∈ loc) (hw : ws = ys.map V.str) (Uy : sep.length <= 16) (gT : (ys.map (·.length)).sum + ys.length <= 1048576)
  (he : bS (.Constant (.str sep) k sp) "join" apos pos [.Name x np] C.env) (hs : aH pos [.Name x np] C.env) (h : Q (.str (Txt.join sep ys)) loc σ) :
  EW g D C ρ X (.Call (.Attribute (.Constant (.str sep) k sp) "join" apos) [.Name x np] [] pos) loc σ Q := by
 refine .of fun ok G fo m s I Qr Er q qe => ?_;obtain ⟨pl, he⟩ := he.eq;refine @MethodCall_ _ _ _ _ _ _ _ _ _ _ _ _ ?_ he;refine wpAny_Constant_str ?_;refine GM.join ?_;refine dR hs ?_;refine aR (I.kY h0) fun a hm S => ?_;refine spliced_cons (nameX_L (s := { s with toks := s.toks + 1 }) I.fr hm ?_ ok.kind hx.1 hx.2)
 refine spliced_nil ?_;exact Ky (s := { s with toks := s.toks + 1 }) S hw Uy gT fun t' k => q _ loc σ G _ s.heap k h (.refl _) .str I
theorem EW.oR {x y : Str} {yp : Pos} {pos : Pos} {us : List V} (hx : aB C x) (hy : aB C y) (h0 : (x, LV.ml ws) ∈ loc) (h1 : (y, LV.ml us) ∈ loc)
  (he : bS (.Name x np) "extend" apos pos [.Name y yp] C.env) (hs : aH pos [.Name y yp] C.env) (gT : ws.length + us.length <= sizeLine) (u : cK x (.ml (ws ++ us)) loc aC) (h : Q .none aC σ) :
  EW g D C ρ X (.Call (.Attribute (.Name x np) "extend" apos) [.Name y yp] [] pos) loc σ Q := by
 refine .of fun ok G fo m s I Qr Er q qe => ?_;obtain ⟨pl, he⟩ := he.eq;refine aR (I.kY h0) fun Dl FK S => ?_;refine wZ S.mem fun news its n N hm => ?_;obtain ⟨Dy, TX, SX, LQ, zJ, ny, Ny, Fy, _, _, ey, _, _⟩ := I.kY h1;refine MethodCall_ (nameX_L I.fr FK ?_ ok.kind hx.1 hx.2) he;refine gS N hm PySem.F.slot_list_extend PySem.F.type_list_extend hs ?_;refine spliced_cons (nameX_L I.fr TX ?_ ok.kind hy.1 hy.2);refine spliced_nil ?_;obtain ⟨pre, post, vals, n, N, Fg, a, b, e, hG, z⟩ := S;refine extend_in (its2 := zJ.toArray) (n2 := ny) Fg N a b (Ny _ (List.mem_append_right _ (.head _))).1 (fun h' n' F' N' => ?_) (by rw [List.size_toArray, e.length, ey.length]; exact gT);exact q _ aC σ G _ h' s.toks h (.refl _) .none (z h' _ (vals ++ zJ) n' aC σ (e.append ey) N' F' ⟨u, rfl⟩)
theorem uW {sc : Sc} {m : cV} {s : Shared} (I : bJ C ρ G fo (some sc) m loc s.heap) (gT : sc.tokens.length <= sizeLine) {A : Around} {Q : cY} (h : ∀ t tk, Q (.int sc.tokens.length t) { s with toks := tk }) :
  wpAny (model g.prog g.w) A (call (.builtin "len") [.ref ρ.aT]) Q E s := by
 obtain ⟨pre, post, vals, n, N, F, s1, s2, e, hG, zz⟩ := I.oZ;have hs := hM;refine PyProof.Rows.len_list (items := vals.toArray) ⟨_, (N _ (List.mem_append_right _ (.head _))).1, rfl, ⟨n, rfl⟩⟩ (by rw [List.size_toArray, e.length]; lia) ?_;rw [show ((vals.toArray.size : Nat) : Int) = sc.tokens.length from by rw [List.size_toArray, e.length]];exact h _ _
end
section
variable {D : Nat} {C : Cx} {X : dW} {loc : aF}
theorem Bl.loops (ok : fM g D C) {m : cV} {x : uG} {ev : Value} {s : Shared} {M : Model} (y : Bl C ρ G fo σ m loc x ev s.heap)
  (k : ∀ h' aN, Bl C ρ G fo σ m loc x ev h' -> E ev (St s h' aN)) : notedBy M C.A C.env (fun e s' => cameBackBy M C.A C.env E e s') ev s := by
 obtain ⟨⟨e, dx, a0, es, n, vals, ls, os, B, rfl, hd, he, hv, hs, Xg, hn, hB, hq, fl⟩, up, ns, Ng⟩ := y;refine gC (P := xN B (C.env :: C.outer) e C.L (.ref x.cls) a0 s.heap) (jM _ _) hd (fun k => sF (L := C.L) ok.frames rfl fl fun h' a b => k h' ⟨a, b⟩) fun h1 p1 Zb => ?_;refine gC (s := St s h1 s.toks) (P := xN B (C.env :: C.outer) e C.L (.ref x.cls) a0 h1) (Hq _ _) Zb (fun k => Hf (s := St s h1 s.toks) p1.1 fun h' a b => k h' ⟨a, b⟩) fun h2 p2 hd2 => ?_;exact k h2 s.toks ⟨⟨e, dx, a0, es, n, vals, ls, os, B, rfl, hd2, he, hv, hs, Xg, hn, hB, hq, .inr (.inl p2.1)⟩, (up.trans p1.2).trans p2.2, p2.2.ns (p1.2.ns ns), Ng⟩
inductive AK (J : Nat -> aF -> bQ -> Prop) (n : Nat) (l : aF) (s : bQ) : Prop
 | mk (k : Nat) (hk : k < n) (h : J k l s)
noncomputable def Xu (J : Nat -> aF -> bQ -> Prop) (n : Nat) (Q : dD) : Fl -> aF -> bQ -> Prop
 | .next, l, s => AK J n l s
 | .cont, l, s => AK J n l s
 | .brk, l, s => Q .next l s
 | .ret v, l, s => Q (.ret v) l s
structure Pa (g : Gl) (D : Nat) (C : Cx) (ρ : bZ) (X : dW) (body : List Stmt) (J : Nat -> aF -> bQ -> Prop) (n : Nat) (Q : dD) (b : Bool) (l : aF) (s : bQ) : Prop where
 t : b = true -> SW g D C ρ X body l s (Xu J n Q)
 f : b = false -> Q .next l s
inductive TQ (C : Cx) (ρ : bZ) (G fo : bB) (s : Shared) (J : Nat -> aF -> bQ -> Prop) (n : Nat) (s' : Shared) : Prop
 | mk (aC : aF) (aW : bQ) (G' : bB) (m' : cV) (h' : Heap) (aN : Tok) (hj : J n aC aW) (sub : Sub G G') (I : bJ C ρ G' fo aW m' aC h') (e : s' = (St s h' aN))
theorem SW.nX {test : Expr} {body : List Stmt} {pos : Pos} {Q : dD} (J : Nat -> aF -> bQ -> Prop) (n : Nat) (h0 : J n loc σ)
  (turn : ∀ n loc σ, J n loc σ -> BW g D C ρ X test loc σ (Pa g D C ρ X body J n Q)) :
  iB g D C ρ X (.While test body [] pos) loc σ Q := by
 refine .of fun ok G fo m s I Qr Er q qe => ?_;refine wpAny_While (codeAny_whileLoop (TQ C ρ G fo s J) ?_ n ⟨loc, σ, G, m, s.heap, s.toks, h0, fun U z => z, I, rfl⟩)
 rintro n s' ⟨bP, fE, G1, m1, h1, dB, hj, Dk, I1, rfl⟩
 refine (turn n bP fE hj).out ok G1 fo m1 (St s h1 dB) _ I1 rfl _ _ (fun b bG fV G2 h2 eM z1 z2 z3 => ?_) (fun x aC aW G' ev h' aN y1 y2 y3 => ?_)
 ·induction b with
  | false =>
   refine wpAny_execs_nil ?_;exact q .next bG fV G2 m1 .next h2 eM (z1.f rfl) (Dk.trans z2) .next z3
  | true =>
   refine (z1.t rfl).out ok G2 fo m1 (St s h2 eM) z3 _ _ (fun f lU Eu G3 m3 fv h3 Dh w1 w2 w3 w4 => ?_) (fun x aC aW G' m' ev h' aN y1 y2 y3 => ?_)
   ·induction w3 with
    | next => obtain ⟨k, hk, Bb⟩ := w1; exact ⟨k, hk, lU, Eu, G3, m3, h3, Dh, Bb, fun p hp => w2 p (z2 p (Dk p hp)), w4, rfl⟩
    | cont => obtain ⟨k, hk, Bb⟩ := w1; exact ⟨k, hk, lU, Eu, G3, m3, h3, Dh, Bb, fun p hp => w2 p (z2 p (Dk p hp)), w4, rfl⟩
    | brk => exact q .next lU Eu G3 m3 .next h3 Dh w1 (fun p hp => w2 p (z2 p (Dk p hp))) .next w4
    | ret hv => exact q (.ret _) lU Eu G3 m3 _ h3 Dh w1 (fun p hp => w2 p (z2 p (Dk p hp))) (.ret hv) w4
   ·exact Bl.loops (s := (St s h' aN)) ok y3 fun h2 t2 y => qe x aC aW G' m' ev h2 t2 y1 (fun p hp => y2 p (z2 p (Dk p hp))) y
 ·exact Bl.loops (s := (St s h' aN)) ok y3 fun h2 t2 y => qe x aC aW G' m1 ev h2 t2 y1 (Dk.trans y2) y
end
def Sh (o : Expr) (name : Str) (apos pos : Pos) (args : List Expr) (kws : List Keyword) (env : Env) : Prop := ∃ pl, eval (.Call (.Attribute o name apos) args kws pos) env = (do
   let ov ← eval o env
   standAt apos.atName
   let (f, first) ← holding [ov] (getMethod ov name pl)
   callWith pos f first (backTo pos (starEach args env)) (backToKw pos (keywordEach kws env)))
section
variable {D : Nat} {C : Cx} {X : dW} {loc : aF}
theorem EW.Ja {D' : Nat} {o e : Expr} {name qX : Str} {pos kp : Pos} {f : Addr} (hh : C.A.handled = Option.none) (hm : lF g 1048 name f) (hn : name ∉ aD) (hD : D' + 1 <= D) (he : Sh o name apos pos [] [⟨some qX, e, kp⟩] C.env)
  (h : EW g D C ρ X o loc σ (fun v l s => v = .self /\ s.isSome /\ EW g D C ρ X e l s (fun u l' s' => Br g D' ρ (fun x s => X x l' s) f [.self] [(qX, u)] s' (fun r s2 => Q r l' s2)))) :
  EW g D C ρ X (.Call (.Attribute o name apos) [] [⟨some qX, e, kp⟩] pos) loc σ Q := by
 refine .of fun ok G fo m s I Qr Er q qe => ?_;obtain ⟨pl, he⟩ := he;refine methodCall_KW (EW.seq1 h ok I qe fun v bP fE G1 val h1 dB z1 z2 z3 z4 gU => ?_) he;obtain ⟨rfl, tU, z⟩ := z1;induction z3.out
 obtain ⟨sc, rfl⟩ := Option.isSome_iff_exists.mp tU;obtain ⟨es, n, vals, IA, hE, -⟩ := z4.view;refine method_inst (s := (St s h1 dB)) z4.fr ok.fK IA hm.pg hm.fi hm.fn (fX hE hn) ?_;refine callWith_KW0 ok.fK hm.kp rfl ?_;refine kwAll_cons (EW.seq1 z ok (s := (St s h1 dB)) z4 gU fun u bG fV G2 rX h2 eM y1 y2 y3 y4 mU => ?_);refine kwAll_nil ?_;refine ⟨ok.fK.keeps y4.fr.keep, ?_⟩;exact y1.out C (ok.mono hD) hh G2 fo m bG (St s h2 eM) [.ref ρ.aS] [rX] y4 (.cons .self .nil) (.cons y3 .nil) Qr Er
  (fun v aW G' val h' aN w1 w2 w3 w4 => q v bG aW G' val h' aN w1 (fun p hp => w2 p (y2 p (z2 p hp))) w3 w4)
  (fun x aW G' ev h' aN w1 w2 w3 => mU x bG aW G' ev h' aN w1 w2 w3)
structure lV (g : Gl) (f : Addr) : Prop where
 kp : keepIn g.K (.ref f) = true
theorem EW.lB {D' : Nat} {x : Str} {pos : Pos} {args : List Expr} {f : Addr} (hh : C.A.handled = Option.none) (df : lV g f) (hD : D' + 1 <= D) (hs : aH pos args C.env)
  (h : EW g D C ρ X (.Name x np) loc σ (fun v l s => v = .glob (.ref f) /\ AW g D C ρ X args l s (fun vs l' s' => FW g D' ρ (fun x s => X x l' s) f vs s' (fun r s2 => Q r l' s2)))) :
  EW g D C ρ X (.Call (.Name x np) args [] pos) loc σ Q := by
 refine .of fun ok G fo m s I Qr Er q qe => ?_;refine wpAny_Call_ofName (EW.seq1 h ok I qe fun v bP fE G1 val h1 dB z1 z2 z3 z4 gU => ?_);obtain ⟨rfl, z⟩ := z1;induction z3.out
 refine dN (first := []) hs df.kp ?_;refine AW.run z ok (s := (St s h1 dB)) z4 gU fun vs bG fV G2 vals2 h2 eM y1 y2 y3 y4 mU => ?_;refine ⟨ok.fK.keeps y4.fr.keep, ?_⟩;exact y1.out C (ok.mono hD) hh G2 fo m bG (St s h2 eM) _ [] y4 y3 .nil Qr Er
  (fun v aW G' val h' aN w1 w2 w3 w4 => q v bG aW G' val h' aN w1 (fun p hp => w2 p (y2 p (z2 p hp))) w3 w4)
  (fun x aW G' ev h' aN w1 w2 w3 => mU x bG aW G' ev h' aN w1 w2 w3)
end
noncomputable def oV (ks : List (Int × V)) (k : Int) : Option V := (ks.find? fun kv => decide (kv.1 = k)).map (·.2)
noncomputable def Il (ks : List (Int × V)) (k : Int) : List (Int × V) := ks.filter fun kv => decide (kv.1 ≠ k)
noncomputable def Iq (ks : List (Int × V)) (k : Int) (v : V) : List (Int × V) := if ks.any (fun kv => decide (kv.1 = k)) then ks.map (fun kv => if kv.1 = k then (kv.1, v) else kv) else ks ++ [(k, v)]
theorem nB.get {k : Int} (h : nB ρ G kvs ks) : (oV ks k = none /\ valueAt kvs k = none) \/ ∃ v val, oV ks k = some v /\ valueAt kvs k = some val /\ VR ρ G v val := by
 unfold oV valueAt;induction h with
 | nil => exact .inl ⟨rfl, rfl⟩
 | @cons j w v es r hv _ ih =>
  rw [List.find?_cons, List.find?_cons];cases decide (j = k) with
  | true => exact .inr (pO v w rfl rfl hv)
  | false => exact ih
theorem nB.del {k : Int} (h : nB ρ G kvs ks) : nB ρ G (without kvs k) (Il ks k) := by
 unfold without Il
 induction h with
 | nil => exact .nil
 | @cons j w v es r hv _ ih =>
  rw [List.filter_cons, List.filter_cons]
  split
  ·exact .cons hv ih
  ·exact ih
theorem nB.any {k : Int} (h : nB ρ G kvs ks) : kvs.any (fun kv => decide (kv.1 = k)) = ks.any (fun kv => decide (kv.1 = k)) := by
 induction h with
 | nil => rfl
 | cons _ _ ih => exact congrArg (_ || ·) ih
theorem nB.snoc {k : Int} {v : V} {val : Value} (hv : VR ρ G v val) (h : nB ρ G kvs ks) : nB ρ G (kvs ++ [(k, val)]) (ks ++ [(k, v)]) := by
 induction h with
 | nil => exact .cons hv .nil
 | cons a _ ih => exact .cons a ih
theorem nB.put {k : Int} {v : V} {val : Value} (hv : VR ρ G v val) (h : nB ρ G kvs ks) : nB ρ G (kvs.map (fun kv => if kv.1 = k then (kv.1, val) else kv)) (ks.map (fun kv => if kv.1 = k then (kv.1, v) else kv)) := by
 induction h with
 | nil => exact .nil
 | @cons j w u es r hu _ ih =>
  rw [List.map_cons, List.map_cons]
  split
  ·exact .cons hv ih
  ·exact .cons hu ih
theorem nB.set {k : Int} {v : V} {val : Value} (hv : VR ρ G v val) {kvs ks : _} (h : nB ρ G kvs ks) : nB ρ G (stored kvs k val) (Iq ks k v) := by
 unfold stored Iq;rw [h.any]
 split
 ·exact h.put hv
 ·exact h.snoc hv
theorem nB.at {ρ : bZ} {G : bB} {kk : Int} {v : V} {kvs : List (Int × Value)} {ks : List (Int × V)} (h : nB ρ G kvs ks) (i : Nat) {r : List (Int × V)} (e : ks.drop i = (kk, v) :: r) : ∃ val, kvs[i]? = some (kk, val) := by
 induction h generalizing i with
 | nil => rw [List.drop_nil] at e; cases e
 | cons _ _ ih =>
  induction i with
  | zero => cases e; exact ⟨_, rfl⟩
  | succ i => exact ih i e
theorem nB.length (h : nB ρ G kvs ks) : kvs.length = ks.length := by
 induction h with
 | nil => rfl
 | cons _ _ ih => exact congrArg Nat.succ ih
theorem mQ {o : Obj} {p : Program} {w : World} (h : o.IsDictOf (intKind p w) kvs) : ∀ prog w, o.IsDictOf (intKind prog w) kvs := by
 intro prog w';obtain ⟨es, ep, a, b, c, d, e⟩ := h;refine ⟨es, ep, a, b, c, ?_, e⟩;clear c e b;generalize es.toList = l at d;induction d with
 | nil => exact .nil
 | cons h1 h2 _ ih => exact .cons h1 h2 ih
inductive AS (C : Cx) (ρ : bZ) (G fo : bB) (m : cV) (h : Heap) (sc : Sc) (F : Obj -> List (Int × V) -> aF -> bQ -> Prop) : Prop
 | mk (pre post : bB) (kvs : List (Int × Value)) (N : News C.h₀ C.L h (pre ++ (sc.cQ, sc.iW) :: post)) (fr : Fr C.h₀ C.L h m) (s1 : ∀ p ∈ pre, p.1 ≠ sc.cQ) (s2 : ∀ p ∈ post, p.1 ≠ sc.cQ) (sm : (sc.cQ == sysModules) = false) (dk : ∀ prog w, sc.iW.IsDictOf (intKind prog w) kvs) (kv : nB ρ G kvs sc.keys)
  (z : ∀ h' Ym Mf Bs aC aW, (∀ prog w, Ym.IsDictOf (intKind prog w) Mf) -> nB ρ G Mf Bs -> News C.h₀ C.L h' (pre ++ (sc.cQ, Ym) :: post) -> Fr C.h₀ C.L h' m -> F Ym Bs aC aW -> bJ C ρ G fo aW m aC h')
theorem bJ.jI {C : Cx} {sc : Sc} {m : cV} {loc : aF} {h : Heap} (I : bJ C ρ G fo (some sc) m loc h) :
  AS C ρ G fo m h sc (fun o ks l s => l = loc /\ s = some { sc with keys := ks, iW := o }) := by
 obtain ⟨⟨ls, os, a, b, c, d⟩, F, nd⟩ := I;obtain ⟨es, n, vals, vT, nT, nI, aK, eK, nK, tI, rfl, hS, hE, h5, h6, h7, hV⟩ := a;obtain ⟨rfl, rfl, h8, h9, OQ⟩ := h7;have c' : News C.h₀ C.L h ([(ρ.dS, dictOf es n), (ρ.aT, W.listOf vT.toArray nT), (ρ.aI, W.listOf tI.toArray nI)] ++ (sc.cQ, sc.iW) :: (os ++ (fo ++ G))) := c;have d' : (([(ρ.dS, dictOf es n), (ρ.aT, W.listOf vT.toArray nT), (ρ.aI, W.listOf tI.toArray nI)] ++ (sc.cQ, sc.iW) :: (os ++ (fo ++ G))).map (·.1)).Nodup := d;obtain ⟨s1, s2⟩ := dO d';refine ⟨_, _, nK, c', F, s1, s2, h8, h9, OQ, fun h' Ym Mf Bs aC aW q0 q1 q2 q3 q4 => ?_⟩;obtain ⟨rfl, rfl⟩ := q4;exact ⟨⟨[(ρ.dS, dictOf es n), (ρ.aT, W.listOf vT.toArray nT), (ρ.aI, W.listOf tI.toArray nI), (sc.cQ, Ym)], os, ⟨es, n, vals, vT, nT, nI, sc.cQ, Ym, Mf, tI, rfl, hS, hE, h5, h6, ⟨rfl, rfl, h8, q0, q1⟩, hV⟩, b, q2, fB d'⟩, q3, nd⟩
theorem nW {pre post : bB} {Dl : Addr} {o : Obj} (a : ∀ p ∈ pre, p.1 ≠ Dl) (b : ∀ p ∈ post, p.1 ≠ Dl) : UpdF Dl o (pre ++ (Dl, o) :: post) (fun o' => pre ++ (Dl, o') :: post) := by
 induction pre with
 | nil => exact .head b
 | cons p pre ih => exact .tail (a p (.head _)) (ih fun q hq => a q (.tail _ hq))
section
variable {D : Nat} {C : Cx} {X : dW} {loc : aF}
theorem Rx {sc : Sc} {m : cV} {s : Shared} {A : Around} {k : Int} {t : Tok} {T : cY} (I : bJ C ρ G fo (some sc) m loc s.heap)
  (q : ∀ tk, T (.bool (oV sc.keys k).isSome) { s with toks := tk }) : wpAny (model g.prog g.w) A (compareOp .In (.int k t) (.ref sc.cQ)) T E s := by
 obtain ⟨pre, post, kvs, N, F, s1, s2, lo, hd, kr, z⟩ := I.jI;refine kda_in (knd := intKind g.prog g.w) N (List.mem_append_right _ (.head _)) (hd _ _) lo (intKind_is _ _ k t) ((oV sc.keys k).isSome) ?_ (q _)
 rcases kr.get (k := k) with ⟨h1, h2⟩ | ⟨v, val, h1, h2, _⟩ <;> rw [h1, h2] <;> rfl
theorem BW.Xd {e d : Expr} {pos : Pos} {Q : lR} (hm : behindInMarks .In d = false)
  (h : EW g D C ρ X e loc σ (fun a l s => EW g D C ρ X d l s (fun b l s => ∃ k sc, a = .int k /\ s = some sc /\ b = .glob (.ref sc.cQ) /\ Q (oV sc.keys k).isSome l s))) :
  BW g D C ρ X (.Compare e [.In] [d] pos) loc σ Q := by
 refine .of fun ok G fo m s w I _ Qr Er q qe => ?_;refine wpAny_isTrue_Compare1 (EW.rE h ok I qe fun a b aC aW G' av bv h' aN z1 z2 z3 z4 z5 U => ?_) hm;refine Pf z1 fun k sc cN nA zX z => ?_;subst cN nA zX;induction z3.out; induction z4.out
 exact Rx (s := (St s h' aN)) z5 fun tk => wpAny_truthy_bool (q _ aC _ G' h' tk z z2 z5)
theorem EW.Ml {d slice : Expr} {pos : Pos}
  (hs : ∀ a i u, subscripted slice false (.ref a) (.int i u) = operate [.ref a, .int i u] (getItem (.ref a) (.int i u)))
  (h : EW g D C ρ X d loc σ (fun b l s => EW g D C ρ X slice l s (fun a l s => ∃ k sc v, a = .int k /\ s = some sc /\ b = .glob (.ref sc.cQ) /\ oV sc.keys k = some v /\ Q v l s))) :
  EW g D C ρ X (.Subscript d slice pos) loc σ Q := by
 refine .of fun ok G fo m s I Qr Er q qe => ?_;refine Subscript_ (EW.rE h ok I qe fun b a aC aW G' bv av h' aN z1 z2 z3 z4 z5 U => ?_);refine Mj z1 fun k sc v cN nA zX hk z => ?_;subst cN nA zX;induction z3.out; induction z4.out
 obtain ⟨pre, post, kvs, N, F, s1, s2, lo, hd, kr, zz⟩ := z5.jI
 rcases kr.get (k := k) with ⟨h1, h2⟩ | ⟨v', val, h1, h2, h3⟩
 ·rw [hk] at h1; cases h1
 ·rw [hk] at h1; cases h1;exact kba_turn (value' := .Name (Str.ofString "_") ⟨0, 0, 0, 0⟩) (fun U => rfl) (kda_item (knd := intKind g.prog g.w) N (List.mem_append_right _ (.head _)) (hd _ _) (intKind_is _ _ k _) h2 (q v aC _ G' val h' _ z z2 h3 z5) (hs _ _ _) (fun U => rfl))
theorem SW.Rk {d slice e : Expr} {p pos : Pos} {Q : dD} (zY : swapsWith e (some (.Subscript d slice p)) pos.line C.env = pure false)
  (h : EW g D C ρ X e loc σ (fun v l s => EW g D C ρ X d l s (fun b l s => EW g D C ρ X slice l s (fun a l s => ∃ k sc, a = .int k /\ s = some sc /\ b = .glob (.ref sc.cQ) /\ sc.keys.length <= sizeLine /\ ∀ ob, Q .next l (some { sc with keys := Iq sc.keys k v, iW := ob }))))) :
  iB g D C ρ X (.Assign [.Subscript d slice p] e pos) loc σ Q := by
 refine .of fun ok G fo m s I Qr Er q qe => ?_;refine wpAny_Assign_Subscript (EW.seq1 h ok I (qe.at) fun v bP fE G1 val h1 dB z1 z2 z3 z4 gU => ?_) zY;refine EW.seq1 z1 ok (s := (St s h1 dB)) z4 gU fun b bG fV G2 bv h2 eM y1 y2 y3 y4 mU => ?_;refine EW.seq1 y1 ok (s := (St s h2 eM)) y4 mU fun a lU Eu G3 av h3 Dh x1 x2 x3 x4 JS => ?_;refine IZ x1 fun k sc cN nA zX gT w => ?_;subst cN nA zX;induction y3.out; induction x3.out
 obtain ⟨pre, post, kvs, N, F, s1, s2, lo, hd, kr, zz⟩ := x4.jI;refine kda_set (knd := intKind g.prog g.w) (s := (St s h3 Dh)) F N (nW s1 s2) (hd _ _) (intKind_is _ _ k _) (by rw [kr.length]; exact gT) fun h' o' F' N' BP => ?_;exact q .next lU _ G3 m .next h' _ (w o') (fun p hp => x2 p (y2 p (z2 p hp))) .next (zz h' o' _ _ lU _ (mQ BP) (kr.set ((z3.mono y2).mono x2)) N' F' ⟨rfl, rfl⟩)
theorem SW.Px {d slice : Expr} {p pos : Pos} {Q : dD}
  (h : EW g D C ρ X d loc σ (fun b l s => EW g D C ρ X slice l s (fun a l s => ∃ k sc, a = .int k /\ s = some sc /\ b = .glob (.ref sc.cQ) /\ (oV sc.keys k).isSome = true /\ sc.keys.length <= sizeLine /\ ∀ ob, Q .next l (some { sc with keys := Il sc.keys k, iW := ob })))) :
  iB g D C ρ X (.Delete [.Subscript d slice p] pos) loc σ Q := by
 refine .of fun ok G fo m s I Qr Er q qe => ?_;refine wpAny_Delete (wpAny_deleteEach_cons ?_);show wpAny _ _ (do
  let ov ← eval d C.env
  let iv ← holding [ov] (eval slice C.env)
  standAt p
  holding [ov, iv] (delItem ov iv)
  release [ov, iv] []) _ _ _
 refine wpAny_bind (EW.seq1 h ok I (qe.at) fun b bP fE G1 bv h1 dB z1 z2 z3 z4 gU => ?_);refine wpAny_bind (wpAny_holding (EW.seq1 z1 ok (s := (St s h1 dB)) z4 gU fun a bG fV G2 av h2 eM y1 y2 y3 y4 mU => ?_));refine wpAny_bind (wpAny_standAt ?_);refine DV y1 fun k sc cN nA zX hk gT w => ?_;subst cN nA zX;induction z3.out; induction y3.out
 obtain ⟨pre, post, kvs, N, F, s1, s2, lo, hd, kr, zz⟩ := y4.jI;refine wpAny_bind (wpAny_holding (kob_del (knd := intKind g.prog g.w) (s := (St s h2 eM)) F N (nW s1 s2) (hd _ _) (intKind_is _ _ k _) ?_ (by rw [kr.length]; exact gT) fun h' o' F' N' BP => ?_))
 ·rcases kr.get (k := k) with ⟨h1, h2⟩ | ⟨v, val, h1, h2, _⟩
  ·rw [h1] at hk; cases hk
  ·rw [h2]; rfl
 ·refine wpAny_release (wpAny_deleteEach_nil ?_);exact q .next bG _ G2 m .next h' _ (w o') (z2.trans y2) .next (zz h' o' _ _ bG _ (mQ BP) kr.del N' F' ⟨rfl, rfl⟩)
end
theorem qM {p : Addr × Obj} : (ls ++ (os ++ (fo ++ G))).Sublist (ls ++ (os ++ ((p :: fo) ++ G))) :=
 (List.Sublist.refl _).append ((List.Sublist.refl _).append (List.Sublist.cons _ (.refl _)))
section
variable {D : Nat} {C : Cx} {X : dW} {loc : aF} {m : cV} {h h' : Heap}
theorem bJ.pP {p : Addr × Obj} (I : bJ C ρ G (p :: fo) σ m loc h) : bJ C ρ G fo σ m loc h := by
 obtain ⟨⟨ls, os, a, b, c, d⟩, F, nd⟩ := I;exact ⟨⟨ls, os, a, b, bY c qM.subset, dJ d qM⟩, F, nd⟩
theorem Bl.pP {p : Addr × Obj} {x : uG} {ev : Value} (I : Bl C ρ G (p :: fo) σ m loc x ev h) : Bl C ρ G fo σ m loc x ev h := by
 obtain ⟨⟨e, dx, a0, es, n, vals, ls, os, B, rfl, hd, he, hv, hs, Xg, hn, hB, hq, fl⟩, up, ns, Ng⟩ := I;exact ⟨⟨e, dx, a0, es, n, vals, ls, os, B, rfl, hd, he, hv, hs, Xg, dJ hn (List.Sublist.cons₂ _ qM), hB, fun q Yg => hq q ((List.Sublist.cons₂ _ qM).subset Yg), fl⟩, up, ns, Ng⟩
theorem bJ.yL (I : bJ C ρ G fo σ m loc h) (o : Obj) (hf : o.isFreed = false) : bJ C ρ G ((h.objs.size, o) :: fo) σ m loc (h.push o) := by
 obtain ⟨⟨ls, os, a, b, c, d⟩, F, nd⟩ := I;have N := News.push F c o hf;have dd := cF (oa := o) d (fun p hp => Heap.lt_size (c p hp).1);have pm : ((h.objs.size, o) :: (ls ++ (os ++ (fo ++ G)))).Perm (ls ++ (os ++ (((h.objs.size, o) :: fo) ++ G))) := by
  refine List.perm_middle.symm.trans ((List.Perm.refl ls).append ?_);exact List.perm_middle.symm
 exact ⟨⟨ls, os, a, b, bY N fun p hp => pm.symm.subset hp, (List.Perm.nodup_iff (pm.map _)).mp dd⟩, F.push o, nd⟩
theorem bJ.Wf {it : Addr} {o o' : Obj} (I : bJ C ρ G ((it, o) :: fo) σ m loc h) (hs : Heap.SameBut it h h') (ho : h'.get? it = some o') : bJ C ρ G ((it, o') :: fo) σ m loc h' := by
 obtain ⟨⟨ls, os, a, b, c, d⟩, F, nd⟩ := I;have re : ∀ o : Obj, ls ++ (os ++ (((it, o) :: fo) ++ G)) = (ls ++ os) ++ (it, o) :: (fo ++ G) := fun o => by simp
 rw [re] at c d;obtain ⟨s1, s2⟩ := dO d;have z := c (it, o) (List.mem_append_right _ (.head _));exact ⟨⟨ls, os, a, b, by rw [re]; exact news_set c s1 s2 hs ho, by rw [re]; exact fB d⟩, F.change hs z.2.1 z.2.2, nd⟩
theorem bJ.CZ {it : Addr} {o : Obj} (I : bJ C ρ G ((it, o) :: fo) σ m loc h) (hs : Heap.ExtBut it h h') : bJ C ρ G fo σ m loc h' := by
 obtain ⟨⟨ls, os, a, b, c, d⟩, F, nd⟩ := I;have re : ls ++ (os ++ (((it, o) :: fo) ++ G)) = (ls ++ os) ++ (it, o) :: (fo ++ G) := by simp
 have d' := d;have c' := c;rw [re] at c' d';obtain ⟨s1, s2⟩ := dO d';have z := c' (it, o) (List.mem_append_right _ (.head _));have ne : ∀ p ∈ ls ++ (os ++ (fo ++ G)), p.1 ≠ it := fun p hp => by
  have : p ∈ ls ++ os \/ p ∈ fo ++ G := by simp only [List.mem_append] at hp ⊢; rcases hp with h | h | h | h <;> simp [h]
  exact this.elim (s1 p) (s2 p)
 refine ⟨⟨ls, os, a, b, fun p hp => ?_, dJ d qM⟩, ⟨F.ns.extBut hs (fun e => z.2.1 e.symm), fun b x e => hs b x ?_ (F.keep b x e), F.above⟩, nd⟩
 ·have q := c p (qM.subset hp);exact ⟨hs _ _ (ne p hp) q.1, q.2⟩
 ·rintro rfl
  rw [z.2.2] at e; cases e
theorem cA.at {ρ : bZ} {G : bB} {vs : List V} {vals : List Value} (i : Nat) {r : List V} {v : V} (h : cA ρ G vs vals) (e : vs.drop i = v :: r) : ∃ val, vals[i]? = some val /\ VR ρ G v val := by
 induction vs generalizing vals i with
 | nil => rw [List.drop_nil] at e; cases e
 | cons u vs ih =>
  induction h.out with
  | cons a b =>
   induction i with
   | zero => cases e; exact ⟨_, rfl, a⟩
   | succ i => exact ih i b e
noncomputable def Dn (P : aF -> bQ -> Prop) (Q : dD) : Fl -> aF -> bQ -> Prop
 | .next, l, s => P l s
 | .cont, l, s => P l s
 | .brk, l, s => Q .next l s
 | .ret v, l, s => Q (.ret v) l s
inductive Si (g : Gl) (D : Nat) (C : Cx) (ρ : bZ) (X : dW) (x : Str) (v : V) (body : List Stmt) (P : aF -> bQ -> Prop) (Q : dD) (l : aF) (s : bQ) : Prop
 | mk (l' : aF) (u : cK x (.val v) l l') (h : SW g D C ρ X body l' s (Dn P Q))
inductive BZ (C : Cx) (ρ : bZ) (G fo : bB) (s : Shared) (it : Addr) (len : Nat) (P : Nat -> aF -> bQ -> Prop) (IO : Nat -> Obj -> Prop) (k : Nat) (s' : Shared) : Prop
 | mk (i : Nat) (aC : aF) (aW : bQ) (G' : bB) (m' : cV) (h' : Heap) (aN : Tok) (oI : Obj) (ek : k = len + 1 - i) (hi : i <= len) (hj : P i aC aW) (sub : Sub G G') (I : bJ C ρ G' ((it, oI) :: fo) aW m' aC h') (hI : IO i oI) (e : s' = (St s h' aN))
theorem Lx.sub {C : Cx} {s : Shared} {Q : dD} {Qr : Flow -> Shared -> Prop} (q : Lx C ρ G fo s Q Qr) (k : Sub G G') : Lx C ρ G' fo s Q Qr := fun f l s' G2 m2 fv h2 t2 y1 y2 y3 y4 => q f l s' G2 m2 fv h2 t2 y1 (k.trans y2) y3 y4
theorem rH.sub {C : Cx} {s : Shared} {X : dW} (q : rH C ρ G fo s X Er) (k : Sub G G') : rH C ρ G' fo s X Er := fun f l s' G2 m2 fv h2 t2 y1 y2 y3 => q f l s' G2 m2 fv h2 t2 y1 (k.trans y2) y3
theorem sT {x : Str} {px : Pos} {body : List Stmt} {Q : dD} (hx : aB C x) (ok : fM g D C) {s : Shared} {it : Addr} {len : Nat} {P : Nat -> aF -> bQ -> Prop} {IO : Nat -> Obj -> Prop} {Qr : Flow -> Shared -> Prop} (q : Lx C ρ G fo s Q Qr) (qe : rH C ρ G fo s X Er)
  (next : ∀ i aC aW G' m' h' aN oI, i <= len -> P i aC aW -> Sub G G' -> bJ C ρ G' ((it, oI) :: fo) aW m' aC h' -> IO i oI -> h'.get? it = some oI -> ∀ (T : Option Value -> Shared -> Prop) (E : cY),
   (∀ v val h2 eM o2, i < len -> VR ρ G' v val -> Si g D C ρ X x v body (P (i + 1)) Q aC aW -> h2.get? it = some o2 -> IO (i + 1) o2 -> Heap.SameBut it h' h2 -> T (some val) (St s h2 eM)) ->
   (∀ h2, Q .next aC aW -> Heap.ExtBut it h' h2 -> T none (St s h2 aN)) -> wpAny (model g.prog g.w) C.A (pyNext (.ref it)) T E (St s h' aN))
  {bP : aF} {fE : bQ} {m1 : cV} {h1 : Heap} {dB : Tok} {oI : Obj} (h0 : P 0 bP fE) (I0 : bJ C ρ G ((it, oI) :: fo) fE m1 bP h1) (hI : IO 0 oI) :
  codeAny (model g.prog g.w) C.A (.forLoop (.Name x px) (.ref it) body [] C.env) (fun r s' => match r with | .ok f => Qr f s' | .error e => cameBackBy (model g.prog g.w) C.A C.env Er e s') (St s h1 dB) := by
 refine codeAny_forLoop (BZ C ρ G fo s it len P IO) ?_ (len + 1) ⟨0, bP, fE, G, m1, _, dB, _, rfl, Nat.zero_le _, h0, .refl _, I0, hI, rfl⟩
 rintro k s' ⟨i, aC, aW, G', m', h', aN, oI, rfl, hi, hj, sub, I', TS, rfl⟩
 obtain ⟨ls, os, _, _, cI, _⟩ := I'.ex;have Sy := (cI (it, oI) (List.mem_append_right _ (List.mem_append_right _ (.head _)))).1;refine next i aC aW G' m' h' aN oI hi hj sub I' TS Sy _ _ (fun v val h2 eM o2 pK hv ht DI QC Ha => ?_) fun h2 hq Qh => ?_
 ·obtain ⟨l', u, body⟩ := ht;refine wpAny_assign_Name ?_;refine eG ok hx.1 (s := (St s h2 eM)) (I'.Wf Ha DI) hv u fun h3 Dh I3 => ?_;refine body.out ok G' _ _ (St s h3 Dh) I3 _ _ (fun f l2 s2 G2 m2 fv h4 Xo w1 w2 w3 w4 => ?_) (fun x l2 s2 G2 m2 ev h4 Xo y1 y2 y3 => ?_)
  ·have again : P (i + 1) l2 s2 -> ∃ k, k < len + 1 - i /\ BZ C ρ G fo s it len P IO k (St s h4 Xo) := fun PJ =>
    ⟨len + 1 - (i + 1), Nat.sub_lt_sub_left (Nat.lt_succ_of_lt pK) (Nat.lt_succ_self i), i + 1, l2, s2, G2, m2, h4, Xo, o2, rfl, pK, PJ, sub.trans w2, w4, QC, rfl⟩
   induction w3 with
   | next => exact again w1
   | cont => exact again w1
   | brk => exact q .next l2 s2 G2 m2 .next h4 Xo w1 (sub.trans w2) .next w4.pP
   | ret QG => exact q (.ret _) l2 s2 G2 m2 _ h4 Xo w1 (sub.trans w2) (.ret QG) w4.pP
  ·exact Bl.loops (s := (St s h4 Xo)) ok y3.pP fun h5 t5 y => qe x l2 s2 G2 m2 ev h5 t5 y1 (sub.trans y2) y
 ·refine wpAny_execs_nil ?_;exact q .next aC aW G' m' .next h2 aN hq sub .next (I'.CZ Qh)
theorem SW.Qw {x : Str} {px pos : Pos} {iter : Expr} {body : List Stmt} {Q : dD} (hh : C.A.handled = Option.none) (hx : aB C x) (J : List V -> aF -> bQ -> Prop)
  (hit : EW g D C ρ X iter loc σ (fun v l s => ∃ vs, v = .lst vs /\ J vs l s))
  (turn : ∀ v r l s, J (v :: r) l s -> Si g D C ρ X x v body (J r) Q l s)
  (fin : ∀ l s, J [] l s -> Q .next l s) (sE : ∀ v, foldedSetIterable iter C.env v = pure v) :
  iB g D C ρ X (.For (.Name x px) iter body [] pos) loc σ Q := by
 refine .of fun ok G fo m s I Qr Er q qe => ?_;refine wpAny_For (EW.seq1 hit ok I (qe.at) fun v bP fE G1 val h1 dB z1 z2 z3 z4 gU => ?_) sE;refine aR z1 fun vs cN hj => ?_;subst cN;induction z3.out with
 | @lst al vals n hm hv =>
  have HX : ∀ {G' FJ aW m' aC h'}, Sub G1 G' -> bJ C ρ G' FJ aW m' aC h' -> h'.IsList al vals.toArray := fun sub I => by
   obtain ⟨ls, os, _, _, c, _⟩ := I.ex;exact ⟨_, (c (al, W.listOf vals.toArray n) (List.mem_append_right _ (List.mem_append_right _ (List.mem_append_right _ (sub _ hm))))).1, rfl, ⟨n, rfl⟩⟩
  have hl := hv.length;refine wpAny_pyIter_list (s := (St s h1 dB)) (HX (.refl _) z4) ?_;refine sT (len := vals.length) (P := fun i => J (vs.drop i)) (IO := fun i oI => oI.cls = .type "list_iterator" /\ oI.data = .fields #[.ref al, .int i 0]) hx ok (q.sub z2) (qe.sub z2) ?_ hj (z4.yL { cls := .type "list_iterator", data := .fields #[.ref al, .int 0 0] } rfl) ⟨rfl, rfl⟩;intro i aC aW G' m' h' aN oI hi Bb sub I' hI Sy T E item stop;have Nr : h'.IsListIter h1.objs.size al i := ⟨oI, Sy, hI.1, hI.2⟩;cases hd : vs.drop i with
  | nil =>
   have DB : vals.length <= i := hl ▸ List.drop_eq_nil_iff.mp hd;refine wpAny_pyNext_list_end (s := (St s h' aN)) hh Nr (HX sub I') (by rw [List.getElem?_toArray]; exact List.getElem?_eq_none DB) fun h2 Qh => ?_;rw [hd] at Bb;exact stop h2 (fin _ _ Bb) Qh
  | cons v r =>
   refine aR (hv.at i hd) fun val g1 g2 => ?_;refine wpAny_pyNext_list_item (s := (St s h' aN)) Nr (HX sub I') (x := val) (by rw [List.getElem?_toArray]; exact g1) fun h2 Nq Ha => ?_;refine fO Nq fun o2 DI d1 d2 => ?_;rw [hd] at Bb;refine item v val h2 aN o2 (List.getElem?_eq_some_iff.mp g1).1 (g2.mono sub) ?_ DI ⟨d1, d2⟩ Ha;rw [show vs.drop (i + 1) = r by rw [← List.drop_drop, hd]; rfl];exact turn v r aC aW Bb
end
section
open Sem (wp)
structure oM (B newId jR : String) (bm Mz : List Value) : Prop where
 F : ExcBaseFacts B newId jR Mz
 hasB : bm.contains (.type B) = true
 QI : bm.contains (.type "AttributeError") = false
 QR : bm.contains (.type "NameError") = false
noncomputable abbrev cE (C t : Addr) (d : Option Addr) : Obj := { cls := .ref C, dict := d, data := .fields #[.ref t, .none, .none, .none, .bool false, .none] }
noncomputable abbrev rW (rest : List Value) : Obj := { cls := .type "tuple", data := .seq rest.toArray }
section
variable {prog : Program} {w : World} {A : Around} {R : Result -> Shared -> Prop} {h : Heap} {g : Array GenState} {d : Drawn} {t : Nat} {os : OsState}
variable {nm q : Str} {C N : Addr} {bs bm Mz : List Value} {hdct : Bool} {sn : List Str} {sub : List Value} {ab : Bool} {col : Option Bool} {dd : Option Addr} {k0 k1 k2 k3 k5 : Option Value} {B newId jR : String}
theorem He (Y : oM B newId jR bm Mz) {M : Model} {rest : List Value} {Q : Unit -> Shared -> Prop} (hC : h.get? C = some (excClassObj nm q C N bs bm hdct sn sub ab col dd k0 k1 k2 k3 k5 newId))
  (hq : Q () ⟨h, g, d, t, os⟩) : wpAny M A (checkBuiltinCall newId ⟨.ref C :: rest, []⟩) Q E ⟨h, g, d, t, os⟩ := by
 have hB : (Value.ref C :: bm).contains (.type B) = true := by rw [List.contains_cons, Y.hasB, Bool.or_true]
 have ME := Y.F.noStar;unfold checkBuiltinCall;rw [Y.F.newKind, Y.F.newSplit, Y.F.newRow]
 repeat (first | refine wpAny_loadPart_at hC ?_ | (refine wpAny_isSubtype_exc hC ?_; rw [hB]) | refine wpAny_staticBase_exc hC ?_ | refine wpAny_madeBy_exc hC ?_ | (rw [bne_self_eq_false]) | wp_step)
 exact hq
theorem Rm (Y : oM B newId jR bm Mz) {rest : List Value} (hC : h.get? C = some (excClassObj nm q C N bs bm hdct sn sub ab col dd k0 k1 k2 k3 k5 newId))
  (hq : R (.ok (.ret (.ref (h.objs.size + 1)))) ⟨(h.push ({ cls := .type "tuple", data := .seq rest.toArray })).push ({ cls := .ref C, data := .fields #[.ref h.objs.size, .none, .none, .none, .bool false, .none] }), g, d, t, os⟩) (Fx : rest.length <= sizeLine) :
  codeAny (model prog w) A (.builtin newId ⟨.ref C :: rest, []⟩) R ⟨h, g, d, t, os⟩ := by
 have LG := Y.F.ends;have hB : (Value.ref C :: bm).contains (.type B) = true := by rw [List.contains_cons, Y.hasB, Bool.or_true]
 have hA : (Value.ref C :: bm).contains (.type "AttributeError") = false := by rw [List.contains_cons, Y.QI]; rfl
 have hN : (Value.ref C :: bm).contains (.type "NameError") = false := by rw [List.contains_cons, Y.QR]; rfl
 refine codeAny_builtinAt Y.F.entry ?_;unfold Builtin.«BaseException.__new__»;refine PySem.wpAt_bind ?_;show PySem.wpAt _ _ _ (stack >>= _) _ _ _;refine PySem.wpAt_bind (PySem.wpAt_stack fun p below => PySem.wpAt_of_wpAny ?_)
 wp_walk
 refine PySem.wpAt_of_wpAny ?_;rw [Y.F.owner]
 repeat (first | with_reducible refine wpAny_madeHere_exc Y.F.canon hC ?_ | with_reducible refine wpAny_loadPart_at hC ?_ | (with_reducible refine wpAny_isSubtype_exc hC ?_; first | rw [hB] | rw [hA] | rw [hN]) | wp_step)
 show R _ _;rw [Heap.size_push];exact hq
theorem uY (Y : oM B newId jR bm Mz) {rest : List Value} {A' : Around} (hC : h.get? C = some (excClassObj nm q C N bs bm hdct sn sub ab col dd k0 k1 k2 k3 k5 newId))
  (hi : Looks (model prog w) h (typeLookup (.ref C) "__init__") (some (.ref fI))) (hb : ∀ self, Looks (model prog w) h (bindSpecial (.ref fI) self) (.ref fI, [self])) (Fx : rest.length <= sizeLine)
  (hq : codeAny (model prog w) A (.call (.ref fI) ⟨.ref (h.objs.size + 1) :: rest, []⟩) (InitBack (h.objs.size + 1) R) ⟨((h.push { cls := .type "tuple", data := .seq rest.toArray }).push { cls := .ref C, data := .fields #[.ref h.objs.size, .none, .none, .none, .bool false, .none] }), g, d, t, os⟩) :
  wpAny (model prog w) A (Builtin.«type.__call__» ⟨.ref C :: rest, []⟩) (fun fin s' => match fin with | .done f => R (.ok f) s' | .again c' => c'.quiet = true /\ codeAny (model prog w) A' c' R s') (fun e s' => R (.error e) s') ⟨h, g, d, t, os⟩ := by
 repeat (first | with_reducible refine wpAny_loadPart_at hC ?_ | with_reducible refine wpAny_madeBy_exc hC ?_ | wp_step)
 refine codeAny_call_builtin_code (Code.quiet_builtin _ Y.F.quiet) (He Y hC ?_);refine Rm Y hC ?_ Fx;show wpAny _ _ _ _ _ _;have k : ∀ b o, h.get? b = some o -> ((h.push { cls := .type "tuple", data := .seq rest.toArray }).push { cls := .ref C, data := .fields #[.ref h.objs.size, .none, .none, .none, .bool false, .none] }).get? b = some o := fun b o e => Heap.get?_push_of_some _ (Heap.get?_push_of_some _ e);have CT := k _ _ hC;have GO : ((h.push { cls := .type "tuple", data := .seq rest.toArray }).push { cls := .ref C, data := .fields #[.ref h.objs.size, .none, .none, .none, .bool false, .none] }).get? (h.objs.size + 1) = some { cls := .ref C, data := .fields #[.ref h.objs.size, .none, .none, .none, .bool false, .none] } := by heap_get
 have PE : (Value.ref C :: bm).contains (.ref C) = true := by simp
 unfold isInstance
 repeat (first | with_reducible refine wpAny_loadPart_at GO ?_ | (with_reducible refine wpAny_isSubtype_exc CT ?_; rw [PE]) | wp_step)
 show wpAny _ _ (typeLookup (.ref C) _) _ _ _;refine (hi.keeps k).here ?_;refine wpAny_holding (wpAny_bind (((hb (.ref (h.objs.size + 1))).keeps k).here ?_));refine wpAny_bind (wpAny_call (codeAny_mono hq fun r s' z => ?_))
 rcases r with e | (v | _ | _ | _) <;> first | exact z | exact z.elim | skip
 obtain ⟨rfl, z⟩ := z
 wp_walk
 exact z
theorem Oa (Y : oM B newId jR bm Mz) {rest : List Value} (hC : h.get? C = some (excClassObj nm q C N bs bm hdct sn sub ab col dd k0 k1 k2 k3 k5 newId))
  (hi : Looks (model prog w) h (typeLookup (.ref C) "__init__") (some (.ref fI))) (hb : ∀ self, Looks (model prog w) h (bindSpecial (.ref fI) self) (.ref fI, [self])) (Fx : rest.length <= sizeLine)
  (hq : codeAny (model prog w) (A.under (.builtin "type.__call__" ⟨.ref C :: rest, []⟩)) (.call (.ref fI) ⟨.ref (h.objs.size + 1) :: rest, []⟩) (InitBack (h.objs.size + 1) R) ⟨((h.push { cls := .type "tuple", data := .seq rest.toArray }).push { cls := .ref C, data := .fields #[.ref h.objs.size, .none, .none, .none, .bool false, .none] }), g, d, t, os⟩) :
  codeAny (model prog w) A (.call (.ref C) ⟨rest, []⟩) R ⟨h, g, d, t, os⟩ := by
 have f1 := tc_lookup;have f2 := tc_bind (.ref C);have hT : (⟨h, g, d, t, os⟩ : Shared).TypeIs (.ref C) "type" := ⟨_, hC, rfl⟩;refine codeAny_of_tree ?_;show wpAny _ _ (callAny (.ref C) _) _ _ _
 repeat (any_goals (first | assumption | with_reducible refine wpAny_loadPart_at hC ?_ | wp_step))
 refine ⟨rfl, ?_⟩;exact codeAny_call_builtin_at (Code.quiet_builtin _ (by decide +kernel)) entry_typeCall (wpAny_check_type_call_sub hC (uY Y hC hi hb Fx hq))
end
end
section
open PySem.Builtin.ObjectAttr
structure nV (K : Frag) (C : Addr) : Prop where
 sa : findIn K (.ref C) "__setattr__" = some (some (.builtin "object.__setattr__"))
 cd : ∃ cd, clsIn K C = some cd /\ cd.mro.isEmpty = false /\ cd.mro.contains (.type "object") = true /\ cd.hasDict = true /\ ∀ self : Value, refuseLoop self "__setattr__" cd.mro = pure ()
section
variable {prog : Program} {w : World} {A : Around} {K : Frag} {C x : Addr} {s : Shared} {h₀ : Heap} {L : Addr} {m : cV} {news : List (Addr × Obj)} {R : Result -> Shared -> Prop}
theorem wC {ox : Obj} {od : Option Obj} {name : Str} {tk : Tok} (X : K.In s.heap) (I : InstAt s.heap x ox C od) (es : nV K C) (ht : takerIn K C name = some none)
  (h : ∀ b, wpAny (model prog w) A.in1 (storeInOwnDict (.ref x) (.ref C) (.str name tk) name v b)
   (fun fin s' => match fin with | .done f => R (.ok f) s' | .again c' => c'.quiet = true /\ codeAny (model prog w) A c' R s') (fun e s' => R (.error e) s') s) :
  codeAny (model prog w) A (.call (.builtin "object.__setattr__") ⟨[.ref x, .str name tk, v], []⟩) R s := by
 have SF := PySem.F.store_object;refine Xc es.cd fun cd hc ne ho FO BG => ?_;have sub : Looks (model prog w) s.heap (isInstance (.ref x) (.type "object")) true := I.type.andThen (looks_mroIn X (by unfold mroIn; rw [hc, Option.bind_some, if_neg (by rw [ne]; decide), ho]));refine codeAny_call_builtin SF.slot.plain SF.entry (@check_slot (model prog w) _ _ s "object.__setattr__" "object" "__setattr__" (.ref x) [.str name tk, v] [] _ SF.kind SF.split sub (SF.args (.ref x) (.str name tk) v) ?_);refine aR (Option.bind_eq_some_iff.mp ht) fun attr ha hr => ?_;have hm : Looks (model prog w) s.heap (mroOf (.ref C)) cd.mro := (looks_clsIn X hc).andThen .now;have L3 : Looks (model prog w) s.heap (storeTaker? attr) none := by
  induction attr with
  | none => exact .now
  | some a =>
   refine aR (Option.map_eq_some_iff.mp hr) fun b hb RF => ?_;refine (looks_takesIn X hb).andThen ?_;induction b with
   | true => cases RF
   | false => exact .now
 rw [osa_eq, refuse_eq];refine wpAny_bind (wpAny_bind (I.type.here (wpAny_bind (hm.here ?_))));rw [BG];refine wpAny_pure (wpAny_bind (I.type.here (wpAny_bind ((looks_findIn X ha).here (wpAny_bind (L3.here ?_))))));exact h _
set_option tactic.hygienic true in
theorem wF {name : Str} {tk : Tok} {pre post : List (Addr × Obj)} {es : List DictEntry} {n : Nat} {Q : Fin -> Shared -> Prop} (F : Fr h₀ L s.heap m) (N : News h₀ L s.heap (pre ++ (dx, dictOf es n) :: post))
  (h1 : ∀ p ∈ pre, p.1 ≠ dx) (h2 : ∀ p ∈ post, p.1 ≠ dx) (hl : (getL name es).isSome = true) (hz : (putL name (PyData.keyHash w.params name) (.str name s.toks) v es).length <= 1000)
  (h : ∀ h', Fr h₀ L h' m -> News h₀ L h' (pre ++ (dx, dictOf (putL name (PyData.keyHash w.params name) (.str name s.toks) v es) (putN name es n)) :: post) -> Q (.done (.ret .none)) (St s h' (s.toks + 1))) :
  wpAny (model prog w) A (storeInDict dx (.str name tk) name v) Q E s := by
 have e : Obj.putName name (PyData.keyHash w.params name) (.str name s.toks) v (dictOf es n) = dictOf (putL name (PyData.keyHash w.params name) (.str name s.toks) v es) (putN name es n) := putName_dict _ _ _ _ _ _;obtain ⟨U1, U2⟩ := news_upd (f := Obj.putName name (PyData.keyHash w.params name) (.str name s.toks) v) F N h1 h2 e rfl;have D := (N (dx, dictOf es n) (by simp)).1;have D' := (U2 (dx, dictOf (putL name (PyData.keyHash w.params name) (.str name s.toks) v es) (putN name es n)) (by simp)).1;unfold storeInDict newKeyGuard;refine wpAny_bind (wpAny_pure (wpAny_bind ?_));unfold nsSet;refine wpAny_bind (wpAny_bind (wpAny_askSetting (wpAny_pure (wpAny_bind (wpAny_mkText (wpAny_bind (wpAny_loadPart D ?_)))))));dsimp only;have c : (!es.toArray.any (·.key.isStr name) && es.toArray.any (·.refKey)) = false := by
  rw [← Array.any_toList, ← Array.any_toList];unfold getL at hl;cases he : es.find? (·.key.isStr name) with
  | some en => rw [List.any_eq_true.mpr ⟨en, List.mem_of_find?_eq_some he, List.find?_some he⟩]; rfl
  | none =>
   rw [he] at hl;cases z : es.any (·.refKey) with
   | true => rw [z] at hl; exact nomatch hl
   | false => rw [Bool.and_false]
 rw [aRefKeyMayBeTheName_at, c];refine wpAny_updatePart D ?_;refine wpAny_bind (wpAny_lookBehind D' (pastItsLine_dict (by rw [List.size_toArray, sizeLine_eq]; lia)) ?_);exact wpAny_pure (h _ U1 U2)
theorem Ia {t : Addr} {name : Str} {pre post : List (Addr × Obj)} {es : List DictEntry} {n : Nat} {Q : Unit -> Shared -> Prop} (F : Fr h₀ L s.heap m) (fK : K.In h₀) (N : News h₀ L s.heap (pre ++ (dx, dictOf es n) :: post)) (hx : (x, cE C t (some dx)) ∈ pre ++ (dx, dictOf es n) :: post)
  (xs : nV K C) (ht : takerIn K C name = some none) (h1 : ∀ p ∈ pre, p.1 ≠ dx) (h2 : ∀ p ∈ post, p.1 ≠ dx) (hl : (getL name es).isSome = true) (hz : (putL name (PyData.keyHash w.params name) (.str name (s.toks + 1)) v es).length <= 1000)
  (h : ∀ h', Fr h₀ L h' m -> News h₀ L h' (pre ++ (dx, dictOf (putL name (PyData.keyHash w.params name) (.str name (s.toks + 1)) v es) (putN name es n)) :: post) -> Q () (St s h' (s.toks + 2))) :
  wpAny (model prog w) A (setAttr (.ref x) name v) Q E s := by
 have X := fK.keeps F.keep;have I : InstAt s.heap x (cE C t (some dx)) C (some (dictOf es n)) := ⟨(N _ hx).1, rfl, rfl, (N (dx, dictOf es n) (by simp)).1⟩;refine set_plain X I xs.sa (wC (s := { s with toks := s.toks + 1 }) X I xs ht fun b => ?_)
 refine Xc xs.cd fun cd hc U U FO U => ?_;refine wpAny_bind (wpAny_pure (wpAny_bind (wpAny_bind (wpAny_loadPart (N _ hx).1 (wpAny_bind (Looks.here (s := { s with toks := s.toks + 1 }) (looks_clsIn X hc) ?_))))))
 rw [FO];refine wpAny_pure (a := some dx) ?_;exact wF (s := { s with toks := s.toks + 1 }) F N h1 h2 hl hz h
theorem Cf {t : Addr} {name : Str} {Q : Unit -> Shared -> Prop} (F : Fr h₀ L s.heap m) (fK : K.In h₀) (N : News h₀ L s.heap ((x, cE C t none) :: news)) (nd : ∀ p ∈ news, p.1 ≠ x)
  (xs : nV K C) (ht : takerIn K C name = some none)
  (h : ∀ dx h' es n, eJ es [name] [v] -> (∀ p ∈ (x, cE C t none) :: news, p.1 < dx) -> Fr h₀ L h' m -> News h₀ L h' ((dx, dictOf es n) :: (x, cE C t (some dx)) :: news) -> Q () (St s h' (s.toks + 2))) :
  wpAny (model prog w) A (setAttr (.ref x) name v) Q E s := by
 have X := fK.keeps F.keep;have hx := (N (x, cE C t none) (.head _)).1;have I : InstAt s.heap x (cE C t none) C none := ⟨hx, rfl, rfl, trivial⟩;refine set_plain X I xs.sa (wC (s := { s with toks := s.toks + 1 }) X I xs ht fun b => ?_)
 refine Xc xs.cd fun cd hc U U FO U => ?_;refine wpAny_bind (wpAny_pure (wpAny_bind (wpAny_bind (wpAny_loadPart hx (wpAny_bind (Looks.here (s := { s with toks := s.toks + 1 }) (looks_clsIn X hc) ?_))))))
 rw [FO];have EN : (s.heap.push { cls := .type "dict", data := .dict #[] }).get? x = some (cE C t none) := Heap.get?_push_of_some _ hx;have pK : ∀ p ∈ (x, cE C t none) :: news, p.1 < s.heap.objs.size := fun p hp => Heap.lt_size (N p hp).1;have N1 := N.push F { cls := .type "dict", data := .dict #[] };have F1 := F.push { cls := .type "dict", data := .dict #[] };have re : ((s.heap.objs.size, ({ cls := .type "dict", data := .dict #[] } : Obj)) :: (x, cE C t none) :: news) = [(s.heap.objs.size, dictOf [] 0)] ++ (x, cE C t none) :: news := rfl;rw [re] at N1;obtain ⟨U1, U2⟩ := news_upd (f := fun o => { o with dict := some s.heap.objs.size }) (o' := cE C t (some s.heap.objs.size)) F1 N1 (fun p hp => by rw [List.mem_singleton.mp hp]; exact Nat.ne_of_gt (pK _ (.head _))) nd rfl rfl
 refine wpAny_bind (wpAny_alloc' ?_);refine wpAny_bind (wpAny_update' EN ?_);refine wpAny_pure ?_;refine wF (s := (St s _ (s.toks + 1))) (pre := []) (es := []) (n := 0) U1 U2 (fun U hp => nomatch hp) (fun p hp => Nat.ne_of_lt ?_) rfl (by simp [putL]) fun h' F' N' => ?_
 ·rcases List.mem_cons.mp hp with rfl | hp
  ·exact pK (x, cE C t none) (.head _)
  ·exact pK p (.tail _ hp)
 ·refine h s.heap.objs.size h' _ _ ?_ pK F' N';exact .cons _ rfl .nil
end
end
section
theorem Ib {A' : Around} {h₀ : Heap} {L f : Addr} {scope : Scope} {C t : Addr} {self : Str} (fK : g.K.In h₀) (xs : nV g.K C) (hk : scope.kind = .function) (Lo : scope.names.lookup self = some .local) (HW : (self == ("__debug__" : Str)) = false) {x : Addr} {m : cV} (hx : m self = some (.ref x)) {news : bB}
  (nd : ∀ p ∈ (x, cE C t (some dx)) :: news, p.1 ≠ dx)
  {body : List Stmt} {l : List (Str × Str)} (I : hH self body l) : ∀ {ns : List Str} {vals eU : List Value} {es : List DictEntry} {n : Nat} {s : Shared} {Q : Flow -> Shared -> Prop} {E : cY},
   eJ es ns vals -> (∀ a ∈ l.map (·.1), a ∉ ns) -> (l.map (·.1)).Nodup -> ns.length + l.length <= 1000 -> (∀ a ∈ l.map (·.1), takerIn g.K C a = some none) -> (∀ a ∈ l.map (·.2), scope.names.lookup a = some .local /\ (a == ("__debug__" : Str)) = false) ->
   l.length = eU.length -> (∀ p ∈ (l.map (·.2)).zip eU, m p.1 = some p.2) ->
   Fr h₀ L s.heap m -> News h₀ L s.heap ((dx, dictOf es n) :: (x, cE C t (some dx)) :: news) ->
   (∀ uV n' h' aN, eJ uV (ns ++ l.map (·.1)) (vals ++ eU) -> Fr h₀ L h' m -> News h₀ L h' ((dx, dictOf uV n') :: (x, cE C t (some dx)) :: news) -> Q .next (St s h' aN)) ->
   wpAny (model g.prog g.w) A' (execs body (envOf qual scope L f eW)) Q E s := by
 induction I with
 | nil =>
  intro ns vals eU es n s Q E hE h1 h2 h3 h4 h5 h6 h7 F N k;induction eU with
  | cons _ _ => simp at h6
  | nil => exact wpAny_execs_nil (k es n s.heap s.toks (by simpa using hE) F N)
 | @cons p1 p2 p3 p4 a nm b l hb ih =>
  intro ns vals eU es n s Q E hE h1 h2 h3 h4 h5 h6 h7 F N k;induction eU with
  | nil => simp at h6
  | cons pv eU =>
   have ha : a ∉ ns := h1 a (by simp);have lo := h5 nm (by simp);have hv : m nm = some pv := h7 (nm, pv) (by simp);refine wpAny_execs_cons (plainObj_wpAny_Assign_Attribute ?_ rfl);refine nameX_L (cl := []) F hv ?_ hk lo.1 lo.2;refine nameX_L (cl := []) F hx ?_ hk Lo HW;have Bw := eJ.snoc (hsh := PyData.keyHash g.w.params a) (v := pv) (t := s.toks + 1) hE ha;refine Ia (pre := []) F fK N (.tail _ (.head _)) xs (h4 a (by simp)) (fun U hp => nomatch hp) nd (by rw [fX hE ha]; rfl)
    (by rw [Bw.length.1]; simp only [List.length_append, List.length_cons, List.length_nil] at h3 ⊢; lia) fun h' F' N' => ?_
   refine ih (s := (St s h' (s.toks + 2))) Bw (fun b qG hm => ?_) (List.nodup_cons.mp h2).2 (by simp only [List.length_append, List.length_cons, List.length_nil] at h3 ⊢; lia) (fun b qG => h4 b (by simp only [List.map_cons, List.mem_cons]; exact .inr qG)) (fun b qG => h5 b (by simp only [List.map_cons, List.mem_cons]; exact .inr qG)) (Nat.succ.inj h6) (fun p hp => h7 p (by simp only [List.map_cons, List.zip_cons_cons, List.mem_cons]; exact .inr hp)) F' N' fun uV n' h2 t2 e2 F2 N2 => ?_
   ·rcases List.mem_append.mp hm with q | q
    ·exact h1 b (by simp only [List.map_cons, List.mem_cons]; exact .inr qG) q
    ·rw [List.mem_singleton.mp q] at qG;exact (List.nodup_cons.mp h2).1 qG
   ·exact k uV n' h2 t2 (by simpa using e2) F2 N2
theorem Ms {A' : Around} {h₀ : Heap} {L f : Addr} {scope : Scope} {C t : Addr} {self : Str} {s : Shared} (fK : g.K.In h₀) (xs : nV g.K C) (hk : scope.kind = .function) {x : Addr} {m : cV} (hx : m self = some (.ref x)) {news : bB} (FE : ∀ p ∈ news, p.1 ≠ x)
  {body : List Stmt} {l : List (Str × Str)} (I : hH self body l) (ne : l ≠ []) (tk : ∀ a ∈ l.map (·.1), takerIn g.K C a = some none) (lo : ∀ a ∈ self :: l.map (·.2), scope.names.lookup a = some .local /\ (a == ("__debug__" : Str)) = false) (Zf : (l.map (·.1)).Nodup) (len : l.length <= 1000)
  {eU : List Value} (Ox : l.length = eU.length) (hz : ∀ p ∈ (l.map (·.2)).zip eU, m p.1 = some p.2) (F : Fr h₀ L s.heap m) (N : News h₀ L s.heap ((x, cE C t none) :: news)) {Q : Flow -> Shared -> Prop}
  (k : ∀ dx es n h' aN, eJ es (l.map (·.1)) eU -> (∀ p ∈ (x, cE C t (some dx)) :: news, p.1 ≠ dx) -> Fr h₀ L h' m -> News h₀ L h' ((dx, dictOf es n) :: (x, cE C t (some dx)) :: news) -> Q .next (St s h' aN)) :
  wpAny (model g.prog g.w) A' (execs body (envOf qual scope L f eW)) Q E s := by
 induction I with
 | nil => exact (ne rfl).elim
 | @cons p1 p2 p3 p4 a0 n0 bd l0 CU _ =>
  induction eU with
  | nil => cases Ox
  | cons pv eU _ =>
   refine wpAny_execs_cons (plainObj_wpAny_Assign_Attribute ?_ rfl);have OG := lo n0 (.tail _ (.head _));have GC := lo self (.head _);refine nameX_L (cl := []) F (hz (n0, pv) (.head _)) ?_ hk OG.1 OG.2;refine nameX_L (cl := []) F hx ?_ hk GC.1 GC.2;refine Cf F fK N FE xs (tk a0 (.head _)) fun dx h2 es n hE Zl F3 N3 => ?_;have FT : ∀ p ∈ (x, cE C t (some dx)) :: news, p.1 ≠ dx := fun p yQ => (List.mem_cons.mp yQ).elim (fun e => e ▸ Nat.ne_of_lt (Zl (x, cE C t none) (.head _))) fun yQ => Nat.ne_of_lt (Zl p (.tail _ yQ));exact Ib fK xs hk GC.1 GC.2 hx FT CU hE (fun b qG hm => (List.nodup_cons.mp Zf).1 (List.mem_singleton.mp hm ▸ qG)) (List.nodup_cons.mp Zf).2 (by simp only [List.length_cons, List.length_nil] at len ⊢; lia) (fun b qG => tk b (.tail _ qG))
     (fun b qG => lo b (.tail _ (.tail _ qG))) (Nat.succ.inj Ox) (fun p yQ => hz p (.tail _ yQ)) F3 N3 fun uV n' h3 t3 e3 F4 N4 => k dx uV n' h3 t3 e3 FT F4 N4
inductive Su (g : Gl) (Cl : Addr) : Prop
 | mk (nm q N bs bm hdct sn sub ab col dd k0 k1 k2 k3 k5 B newId jR Mz : _) (a : g.K.lookup Cl = some (excClassObj nm q Cl N bs bm hdct sn sub ab col dd k0 k1 k2 k3 k5 newId)) (b : oM B newId jR bm Mz) (c : bm.contains (.type "BaseException") = true)
structure tJ (g : Gl) (Cl fI : Addr) (qual : Str) (params : Arguments) (body : List Stmt) (scope : Scope) (dV eW : Value) (sf : Str) (l : List (Str × Str)) : Prop where
 road : Su g Cl
 DD : findIn g.K (.ref Cl) "__init__" = some (some (.ref fI))
 CM : typeIn g.K (.ref fI) = some (.type "function")
 kp : keepIn g.K (.ref Cl) = true
 fn : xM g fI qual params body scope dV eW
 xs : nV g.K Cl
 init : hH sf body l
 ne : l ≠ []
 tk : ∀ a ∈ l.map (·.1), takerIn g.K Cl a = some none
 loc : ∀ a ∈ sf :: l.map (·.2), scope.names.lookup a = some .local /\ (a == ("__debug__" : Str)) = false
 Zf : (l.map (·.1)).Nodup
 KL : (sf :: l.map (·.2)).Nodup
 len : l.length <= 1000
variable {D : Nat} {C : Cx}
theorem Kx {params : Arguments} {body : List Stmt} {scope : Scope} {sf : Str} {l : List (Str × Str)} (co : tJ g Cl fI qual params body scope dV eW sf l) (ok : fM g (D + 2) C)
  {m : cV} {loc : aF} {s : Shared} (I : bJ C ρ G fo σ m loc s.heap) {vals fF : List Value} {as : List V} (hv : cA ρ G as fF) (hl : l.length = as.length) (Bq : vals.length <= sizeLine)
  (hb : ∀ (x : Addr) (s : Shared), g.K.In s.heap -> ∀ name kV doc pm an ct, BindsTo s (fnOf name qual params body scope dV kV doc pm an eW ct) ⟨.ref x :: vals, []⟩ ((sf :: l.map (·.2)).zip (.ref x :: fF)))
  {Qr : cY}
  (k : ∀ e dx t es n h' aN ls os, eJ es (l.map (·.1)) fF -> Gr ρ G σ ls -> bH ρ G m loc os -> Fr C.h₀ C.L h' m -> News C.h₀ C.L h' ((dx, dictOf es n) :: (e, cE Cl t (some dx)) :: (ls ++ (os ++ (fo ++ G)))) -> (((dx, dictOf es n) :: (e, cE Cl t (some dx)) :: (ls ++ (os ++ (fo ++ G)))).map (·.1)).Nodup -> Qr (.ref e) (St s h' aN)) :
  wpAny (model g.prog g.w) C.A (call (.ref Cl) vals) Qr Er s := by
 obtain ⟨⟨ls, os, a, b, c, d⟩, F, nd⟩ := I;obtain ⟨nm, q, N, bs, bm, hdct, sn, sub, ab, col, dd, k0, k1, k2, k3, k5, B, newId, jR, Mz, CX, Y, -⟩ := co.road;have X := ok.fK.keeps F.keep;obtain ⟨hp, gg, dr, tk, UO⟩ := s;refine wpAny_call (Oa Y (X _ _ CX) (looks_findIn X co.DD) (fun self => bind_fn X self co.CM) Bq ?_);have F1 := (F.push (rW vals)).push (cE Cl hp.objs.size none);have N1 : News C.h₀ C.L ((hp.push (rW vals)).push (cE Cl hp.objs.size none)) ((hp.objs.size + 1, cE Cl hp.objs.size none) :: (ls ++ (os ++ (fo ++ G)))) := by
  have := News.push (F.push (rW vals)) (c.pushKeep (rW vals)) (cE Cl hp.objs.size none)
  rwa [Heap.size_push] at this
 obtain ⟨oc, od, name, kV, doc, pm, an, ct, Bv, lk⟩ := co.fn.lk;have Ox : l.length = fF.length := by rw [hl, hv.length]
 have lt : ∀ p ∈ ls ++ (os ++ (fo ++ G)), p.1 < hp.objs.size + 1 := fun p yQ => Nat.lt_succ_of_lt (Heap.lt_size (c p yQ).1);have dep : (C.A.under (.builtin "type.__call__" ⟨.ref Cl :: vals, []⟩)).depth < recursionLimit := by
  have := ok.dep;show C.A.depth + 1 < _
  lia
 have DU : (sf :: l.map (·.2)).length = (Value.ref (hp.objs.size + 1) :: fF).length := by simp [Ox]
 refine code_def (A := C.A.under (.builtin "type.__call__" ⟨.ref Cl :: vals, []⟩)) ok.below F1 ok.fK N1 ok.top ok.frames rfl ok.kind lk co.fn.cd dep
  (hb (hp.objs.size + 1) _ (ok.fK.keeps F1.keep) name kV doc pm an ct) (fun y hy => (co.loc _ ?_).1) (fun hq L' iZ Fg F2 N2 B2 X2 T2 => ?_) co.fn.co co.fn.gen co.fn.kd co.fn.cell
 ·have := List.mem_map_of_mem (f := (·.1)) hy
  rwa [kC DU] at this
 ·have Pg : ∀ p ∈ (sf :: l.map (·.2)).zip (Value.ref (hp.objs.size + 1) :: fF), ((sf :: l.map (·.2)).zip (Value.ref (hp.objs.size + 1) :: fF)).reverse.lookup p.1 = some p.2 := fun p yQ => iF (by
   rw [List.map_reverse, kC DU]; exact List.pairwise_reverse.mpr (co.KL.imp fun h => h.symm)) (List.mem_reverse.mpr yQ)
  have FE : ∀ p ∈ ls ++ (os ++ (fo ++ G)), p.1 ≠ hp.objs.size + 1 := fun p yQ => Nat.ne_of_lt (lt p yQ);refine Ms X2 co.xs co.fn.kd (Pg _ (.head _)) FE co.init co.ne co.tk co.loc co.Zf co.len Ox (fun p yQ => Pg p (.tail _ yQ)) F2 N2 fun dx uV n' h3 t3 e3 FT F4 N4 => ⟨L', _, _, F4, N4, fun kF kN => ⟨rfl, k (hp.objs.size + 1) dx hp.objs.size uV n' h3 t3 ls os e3 a b kF kN ?_⟩⟩;exact List.nodup_cons.mpr ⟨fun hm => (List.mem_map.mp hm).elim fun p h => FT p h.1 h.2, List.nodup_cons.mpr ⟨fun hm => (List.mem_map.mp hm).elim fun p h => FE p h.1 h.2, d⟩⟩
end
section
variable {M : Model} {A : Around} {env : Env}
variable {nm q : Str} {C N : Addr} {bs bm : List Value} {hdct : Bool} {sn : List Str} {sub : List Value} {ab : Bool} {col : Option Bool} {dd : Option Addr} {k0 k1 k2 k3 k5 : Option Value} {newId : String}
theorem Ce {s : Shared} {x : Sem Value} {Q : Flow -> Shared -> Prop} (jQ : bm.contains (.type "BaseException") = true) (hh : A.handled = none)
  (h : wpAny M A x (fun v eB => ∃ e t d, v = .ref e /\ eB.heap.get? C = some (excClassObj nm q C N bs bm hdct sn sub ab col dd k0 k1 k2 k3 k5 newId) /\
   eB.heap.get? e = some { cls := .ref C, dict := d, data := .fields #[.ref t, .none, .none, .none, .bool false, .none] } /\ E (.ref e) eB) E s) :
  wpAny M A (raiseStmt env (some x) none) Q E s := by
 have JU : (Value.ref C :: bm).contains (.type "BaseException") = true := by rw [List.contains_cons, jQ, Bool.or_true]
 unfold raiseStmt;refine wpAny_bind (wpAny_mono h (fun v eB iZ => ?_) fun U U x => x);refine EB iZ fun e t d cN hC he hE => ?_;subst cN;obtain ⟨hp, g, dr, tk, os⟩ := eB
 repeat (first | with_reducible refine wpAny_loadPart_at he ?_ | with_reducible refine wpAny_loadPart_at hC ?_ | (with_reducible refine wpAny_isSubtype_exc hC ?_; rw [JU]) | wp_step)
 exact wpAny_raiseNew_none hh hE
end
section
variable {D : Nat} {C : Cx}
theorem fM.Hj (ok : fM g D C) {h : Heap} {m : cV} (F : Fr C.h₀ C.L h m) : h.FunFrames C.base (C.env :: C.outer) := by
 refine Pt F.ns fun oL es ep hL hd U => ?_;refine ⟨?_, (Zv C.L oL rfl ?_ hL (fun vs e => by rw [hd] at e; cases e)), ok.below.frames.of_keeps fun b o hb U => (eO o (F.keep b o hb) rfl)⟩
 ·show C.cs.kind ≠ .module;rw [ok.kind]; decide
 ·cases hq : C.base.get? C.L with
  | none => rfl
  | some o => exact absurd (Heap.lt_size (ok.below.stays _ _ hq)) (Nat.not_lt.mpr F.above)
theorem Bl.made (ok : fM g D C) {m : cV} {loc : aF} {e t : Addr} {es : List DictEntry} {n : Nat} {names : List Str} {as : List V} {fF : List Value} {h : Heap} (hv : cA ρ G as fF) (hE : eJ es names fF) (a : Gr ρ G σ ls) (b : bH ρ G m loc os) (nd : (loc.map (·.1)).Nodup)
  (F : Fr C.h₀ C.L h m) (N : News C.h₀ C.L h ((dx, dictOf es n) :: (e, cE Cl t (some dx)) :: (ls ++ (os ++ (fo ++ G))))) (d : (((dx, dictOf es n) :: (e, cE Cl t (some dx)) :: (ls ++ (os ++ (fo ++ G)))).map (·.1)).Nodup) :
  Bl C ρ G fo σ m loc ⟨Cl, names, as⟩ (.ref e) h := by
 have he := N (e, cE Cl t (some dx)) (.tail _ (.head _));have FF := ok.Hj F;have Pp : ∀ b ∈ (C.env :: C.outer).filterMap (·.frame), C.base.get? b = none := fun b hb => (FF.mem hb).1;obtain ⟨d1, d2⟩ := List.nodup_cons.mp d;obtain ⟨d3, d4⟩ := List.nodup_cons.mp d2;have sub : ((dx, dictOf es n) :: (ls ++ (os ++ (fo ++ G)))).Sublist ((dx, dictOf es n) :: (e, cE Cl t (some dx)) :: (ls ++ (os ++ (fo ++ G)))) := List.Sublist.cons₂ _ (List.Sublist.cons _ (.refl _));have bh : ∀ {b o}, C.base.get? b = some o -> C.h₀.get? b = some o := fun hq => ok.below.stays _ _ hq;refine ⟨⟨e, dx, .ref t, es, n, fF, ls, os, hideAll h (e :: (C.env :: C.outer).filterMap (·.frame)), rfl, cP.of_get he.1 rfl, hE, hv, a, b, dJ d sub, fun b o hq => ?_, fun q hq => ?_, .inr (.inr ⟨fun b o hq => of_hideAll _ hq, hideAll_none _ (.head _), ?_, _, _, he.1, rfl, rfl, rfl, rfl⟩)⟩, Heap.UpToSlots.of_keeps F.keep, F.ns, nd⟩
 ·refine hideAll_get _ (F.keep _ _ (bh hq)) fun hm => ?_
  rcases List.mem_cons.mp hm with rfl | hm
  ·have := bh hq; rw [he.2.2] at this; cases this
  ·rw [Pp b hm] at hq; cases hq
 ·have hN := N q (sub.subset hq);refine (fL (hideAll_get _ hN.1 fun hm => ?_) hN.2.2 hN.2.1)
  rcases List.mem_cons.mp hm with e1 | hm
  ·rcases List.mem_cons.mp hq with rfl | hq
   ·exact d1 (by simp only [List.map_cons, List.mem_cons]; exact .inl e1)
   ·exact d3 (e1 ▸ List.mem_map_of_mem (f := (·.1)) hq)
  ·refine aR (List.mem_filterMap.mp hm) fun env CL hf => ?_
   rcases List.mem_cons.mp CL with rfl | CL
   ·exact hN.2.1 (Option.some.inj hf).symm
   ·refine aR ((ok.below.frames.mem (List.mem_filterMap.mpr (eO env CL hf))).2) fun o ho U => ?_;rw [hN.2.2] at ho; cases ho
 ·exact funFrames_hide FF fun env CL b hf => .tail _ (List.mem_filterMap.mpr (eO env CL hf))
variable {X : dW} {loc : aF}
theorem SW.raise {x : Str} {jA pos : Pos} {args : List Expr} {params : Arguments} {body : List Stmt} {scope : Scope} {sf : Str} {l : List (Str × Str)} {cR : List Value} {Q : dD}
  (hh : C.A.handled = Option.none) (co : tJ g Cl fI qual params body scope dV eW sf l) (hD : 2 <= D) (hs : aH jA args C.env) (yU : ∀ ρ G, cA ρ G iI cR) (hlen : l.length = args.length + iI.length) (Ox : args.length <= 1000)
  (hb : ∀ (vals : List Value), vals.length = args.length -> ∀ (x : Addr) (s : Shared), g.K.In s.heap -> ∀ name kV doc pm an ct, BindsTo s (fnOf name qual params body scope dV kV doc pm an eW ct) ⟨.ref x :: vals, []⟩ ((sf :: l.map (·.2)).zip (.ref x :: (vals ++ cR))))
  (h : EW g D C ρ X (.Name x np) loc σ (fun v l1 s => v = .glob (.ref Cl) /\ AW g D C ρ X args l1 s (fun vs l2 s => vs.length = args.length /\ X ⟨Cl, l.map (·.1), vs ++ iI⟩ l2 s))) :
  iB g D C ρ X (.Raise (some (.Call (.Name x np) args [] jA)) none pos) loc σ Q := by
 refine .of fun ok G fo m s I Qr Er q qe => ?_;obtain ⟨nm, qq, N, bs, bm, hdct, sn, sub, ab, col, dd, k0, k1, k2, k3, k5, B, newId, jR, Mz, CX, Y, jQ⟩ := co.road;rw [arm_exec_Raise];refine wpAny_bind (wpAny_standAt ?_);show wpAny _ _ (raiseStmt C.env (some (do let v ← eval (.Call (.Name x np) args [] jA) C.env; standAt pos; pure v)) none) _ _ _;refine Ce (nm := nm) (q := qq) (C := Cl) (N := N) (bs := bs) (hdct := hdct) (sn := sn) (sub := sub) (ab := ab) (col := col) (dd := dd) (k0 := k0) (k1 := k1) (k2 := k2) (k3 := k3) (k5 := k5) (newId := newId) jQ hh (wpAny_bind ?_);refine wpAny_Call_ofName (EW.seq1 h ok I (qe.at) fun v bP fE G1 val h1 dB z1 z2 z3 z4 gU => ?_);obtain ⟨rfl, z⟩ := z1;induction z3.out
 refine dN (first := []) hs co.kp ?_;refine AW.run z ok (s := (St s h1 dB)) z4 gU fun vs bG fV G2 vals2 h2 eM y1 y2 y3 y4 mU => ?_;refine ⟨ok.fK.keeps y4.fr.keep, ?_⟩;have Bq := y3.length;have sz : (1000 : Nat) <= sizeLine := by decide +kernel
 refine Kx (D := D - 2) co (ok.mono (Nat.le_of_eq (Nat.sub_add_cancel hD))) (s := (St s h2 eM)) y4 (as := vs ++ iI) (fF := vals2 ++ cR) (y3.append (yU ρ G2)) (by rw [hlen, List.length_append, y1.1]) (by show vals2.length <= _; rw [Bq, y1.1]; exact Nat.le_trans Ox sz) (hb vals2 (by rw [Bq, y1.1])) fun e dx t es n h' aN ls os hE a b F NN d => ?_;refine wpAny_bind (wpAny_standAt (wpAny_pure (EG e t (some dx) rfl ((ok.fK.keeps F.keep) _ _ CX) ((NN (e, cE Cl t (some dx)) (.tail _ (.head _))).1) ?_)));exact qe _ bG fV G2 m (.ref e) h' aN y1.2 (z2.trans y2) (Bl.made ok (y3.append (yU ρ G2)) hE a b y4.nd F NN d)
end
section
variable {D : Nat} {C : Cx} {X : dW} {loc : aF}
theorem SW.Ul {body : List Stmt} {h₀ : ExceptHandler} {hs : List ExceptHandler} {pos : Pos} {Q : dD} (h : SW g D C ρ (fun U U U => False) body loc σ Q) : iB g D C ρ X (.Try body (h₀ :: hs) [] [] pos) loc σ Q := by
 refine .of fun ok G fo m s I Qr Er q qe => ?_;refine wpAny_Try_except (h.out ok G fo m s I _ _ (fun f aC aW G' m' fv h' aN z1 z2 z3 z4 => ?_) (fun x aC aW G' m' ev h' aN y U U => y.elim));induction z3 with
 | next => exact wpAny_execs_nil (q .next aC aW G' m' _ h' aN z1 z2 .next z4)
 | brk => exact q .brk aC aW G' m' _ h' aN z1 z2 .brk z4
 | cont => exact q .cont aC aW G' m' _ h' aN z1 z2 .cont z4
 | ret hv => exact q (.ret _) aC aW G' m' _ h' aN z1 z2 (.ret hv) z4
theorem EW.builtin {x : Str} {pos : Pos} (e : nsIn g.K mainGlobals x = some Option.none) (hv : bootBuiltins x = some v) (hn : x ≠ "__name__") (hx : C.cs.names.lookup x = some .globalImplicit) (hd : (x == ("__debug__" : Str)) = false)
  (h : Q (.glob v) loc σ) : EW g D C ρ X (.Name x pos) loc σ Q := by
 refine .of fun ok G fo m s I Qr Er q _ => ?_;have t := topRead_of ok.top;exact nameX_B I.fr ok.fK t e hv hn (q _ loc σ G v s.heap s.toks h (.refl _) .glob I) ok.kind hx hd
def IS (v : V) (s : bQ) (k : Int -> Prop) : Prop :=
 v.sel False (s := fun x => x.length <= sizeLine /\ k x.length) (k := ∃ sc, s = some sc /\ sc.tokens.length <= sizeLine /\ k sc.tokens.length) (l := fun vs => vs.length <= sizeLine /\ k vs.length)
set_option tactic.hygienic true in
theorem EW.len {pos : Pos} {e : Expr} (hs : aH pos [e] C.env)
  (hf : EW g D C ρ X (.Name "len" np) loc σ (fun v l s => v = .glob (.builtin "len") /\ EW g D C ρ X e l s (fun v l s => IS v s (fun n => Q (.int n) l s)))) :
  EW g D C ρ X (.Call (.Name "len" np) [e] [] pos) loc σ Q := by
 refine .of fun ok G fo m s I Qr Er q qe => ?_;have gT := hM;refine wpAny_Call_ofName (EW.seq1 hf ok I qe fun v bP fE G1 val h1 dB z1 z2 z3 z4 gU => ?_);obtain ⟨rfl, z⟩ := z1;induction z3.out
 refine dR (first := []) hs ?_;refine spliced_cons (EW.seq1 z ok (s := (St s h1 dB)) z4 gU fun v bG fV G2 rX h2 eM y1 y2 y3 y4 mU => ?_);refine spliced_nil ?_;have fin : ∀ {n t tk}, Q (.int n) bG fV -> Qr (.int n t) (St s h2 tk) := fun {n t tk} hq => q (.int n) bG fV G2 _ h2 tk hq (fun p hp => y2 p (z2 p hp)) .int y4;show wpAny (model g.prog g.w) C.A (call (.builtin "len") [rX]) Qr Er (St s h2 eM);cases v <;> first | exact y1.elim | skip
 ·rename_i x
  induction y3.out
  obtain ⟨a, b⟩ := y1;exact PyProof.Rows.len_str (by lia) (fin b)
 ·rename_i vs
  induction y3.out with
  | lst hm hu =>
   rename_i al vals n
   obtain ⟨a, b⟩ := y1;obtain ⟨ls, os, _, _, c, _⟩ := y4.ex;have hl := hu.length;refine PyProof.Rows.len_list (items := vals.toArray) ⟨W.listOf vals.toArray n, (c (al, W.listOf vals.toArray n) (by simp [hm])).1, rfl, ⟨n, rfl⟩⟩ (by rw [List.size_toArray, hl]; lia) ?_;rw [show ((vals.toArray.size : Nat) : Int) = vs.length from by rw [List.size_toArray, hl]];exact fin b
 ·induction y3.out
  refine fO y1 fun sc cN a b => ?_;subst cN;exact uW (s := (St s h2 eM)) y4 a fun t tk => fin b
theorem SW.Qz {x : Str} {px pos : Pos} {iter : Expr} {body : List Stmt} {Q : dD} (hh : C.A.handled = Option.none) (hx : aB C x) (ks : List (Int × V)) (ka : Addr) (ko : Obj) (J : List (Int × V) -> aF -> bQ -> Prop)
  (hJ : ∀ r l s, J r l s -> ∃ sc, s = some sc /\ sc.keys = ks /\ sc.cQ = ka /\ sc.iW = ko)
  (hit : EW g D C ρ X iter loc σ (fun v l s => v = .glob (.ref ka) /\ J ks l s))
  (turn : ∀ k v r l s, J ((k, v) :: r) l s -> Si g D C ρ X x (.int k) body (J r) Q l s)
  (fin : ∀ l s, J [] l s -> Q .next l s) (sE : ∀ v, foldedSetIterable iter C.env v = pure v) :
  iB g D C ρ X (.For (.Name x px) iter body [] pos) loc σ Q := by
 refine .of fun ok G fo m s I Qr Er q qe => ?_;refine wpAny_For (EW.seq1 hit ok I (qe.at) fun v bP fE G1 val h1 dB z1 z2 z3 z4 gU => ?_) sE;obtain ⟨rfl, hj⟩ := z1;induction z3.out
 refine Ut (hJ _ _ _ hj) fun Xs cN e1 e2 e3 => ?_;subst cN;subst e1 e2 e3;obtain ⟨pre, post, kvs, N, F, s1, s2, lo, hd, kr, zz⟩ := z4.jI;obtain ⟨ep, ha⟩ := KdkAt.of (hd g.prog g.w);have same : ∀ {G' FJ aW m' aC h' r}, J r aC aW -> bJ C ρ G' FJ aW m' aC h' -> h'.get? Xs.cQ = some Xs.iW := fun {G' FJ aW m' aC h' r} hj I' => by
  refine Ut (hJ _ _ _ hj) fun sc cN e1 e2 e3 => ?_;subst cN;obtain ⟨RV, NO, Mf, N', _⟩ := I'.jI;rw [← e2, ← e3];exact (N' _ (List.mem_append_right _ (.head _))).1
 have hlen := kr.length;refine wpAny_pyIter_dict (knd := intKind g.prog g.w) (s := (St s h1 dB)) lo (ha.dictAt (same hj z4)) ?_;refine sT (len := kvs.length) (P := fun i => J (Xs.keys.drop i)) (IO := fun i oI => KdkIter oI Xs.cQ i kvs.length ep) hx ok (q.sub z2) (qe.sub z2) ?_ hj (z4.yL { cls := .type "dict_keyiterator", data := .fields #[.ref Xs.cQ, .int 0 0, .int kvs.length 0, .int ep 0] } rfl) ⟨rfl, rfl⟩;intro i aC aW G' m' h' aN oI hi Bb sub I' hI Sy T E item stop;have Nr := hI.at Sy;have MI := ha.dictAt (same Bb I');cases hd : Xs.keys.drop i with
 | nil =>
  have DB : kvs.length <= i := hlen ▸ List.drop_eq_nil_iff.mp hd;refine wpAny_pyNext_dict_end (knd := intKind g.prog g.w) (s := (St s h' aN)) hh Nr MI (List.getElem?_eq_none DB) fun h2 Qh => ?_;rw [hd] at Bb;exact stop h2 (fin _ _ Bb) Qh
 | cons kv r =>
  obtain ⟨kk, v⟩ := kv;obtain ⟨val, Zr⟩ := kr.at i hd;refine wpAny_pyNext_dict_item (knd := intKind g.prog g.w) (s := (St s h' aN)) Nr MI Zr fun QS h2 HY Nq Ha => ?_;refine fO Nq fun o2 DI d1 d2 => ?_;obtain ⟨QF, rfl⟩ := Value.isInt_shape HY;rw [hd] at Bb;refine item (.int kk) _ h2 aN o2 (List.getElem?_eq_some_iff.mp Zr).1 (.int (t := QF)) ?_ DI ⟨d1, d2⟩ Ha;rw [show Xs.keys.drop (i + 1) = r by rw [← List.drop_drop, hd]; rfl];exact turn kk v r aC aW Bb
end
section
variable {D : Nat} {C : Cx} {X : dW} {loc : aF}
theorem Hu {α : Type} {a t i k k' : α} {os fo G : List α} : [a, t, i, k'] ++ (os ++ (fo ++ G)) ⊆ a :: ([t, i, k].append (os ++ ((k' :: fo) ++ G))) :=
 List.cons_subset_cons a (List.cons_subset_cons t (List.cons_subset_cons i (List.Subset.trans (List.perm_middle (l₁ := os) (l₂ := fo ++ G)).symm.subset (List.subset_cons_self k _))))
theorem Cv {α β : Type} (f : α -> β) {a a' t i k k' : α} {os fo G : List α} (h : (([a, t, i, k] ++ (os ++ ((k' :: fo) ++ G))).map f).Nodup) (e : f a' = f a) : (([a', t, i, k'] ++ (os ++ (fo ++ G))).map f).Nodup := by
 have h2 : ([a, t, i, k'] ++ (os ++ (fo ++ G))).Sublist ([a, t, i, k'] ++ (os ++ (fo ++ G))) := .refl _;have p : ([a, t, i] ++ (os ++ ((k' :: fo) ++ G))).Perm ([a, t, i, k'] ++ (os ++ (fo ++ G))) := ((List.perm_middle.cons _).cons _).cons _;have s : ([a, t, i] ++ (os ++ ((k' :: fo) ++ G))).Sublist ([a, t, i, k] ++ (os ++ ((k' :: fo) ++ G))) := .cons₂ _ (.cons₂ _ (.cons₂ _ (.cons _ (.refl _))));have n := (List.Perm.nodup_iff (p.map f)).mp (h.sublist (s.map f));rw [List.cons_append, List.map_cons] at n ⊢;rw [e]; exact n
theorem SW.Rp {o : Expr} {p dp pos : Pos} {Q : dD} (so : mW g 1048) (tk : takerIn g.K 1048 "possible_simple_keys" = some Option.none)
  (h : EW g D C ρ X o loc σ (fun u l s => u = .self /\ ∃ sc, s = some sc /\ ∀ a ob, Q .next l (some { sc with keys := [], cQ := a, iW := ob }))) :
  iB g D C ρ X (.Assign [.Attribute o "possible_simple_keys" p] (.Dict [] [] dp) pos) loc σ Q := by
 refine .of fun ok G fo m s I Qr Er q qe => ?_;refine plainObj_wpAny_Assign_Attribute ?_ rfl;obtain ⟨⟨ls, os, a, b, c, d⟩, F, nd⟩ := I;refine newDict_K F c (TopRead.nolimit (topRead_of ok.top)) fun da h1 ob F1 N1 lt lo U U hint U => ?_;have dd := cF (oa := ob) d lt;have pm : ((da, ob) :: (ls ++ (os ++ (fo ++ G)))).Perm (ls ++ (os ++ (((da, ob) :: fo) ++ G))) :=
  List.perm_middle.symm.trans ((List.Perm.refl ls).append List.perm_middle.symm)
 have I1 : bJ C ρ G ((da, ob) :: fo) σ m loc h1 := ⟨⟨ls, os, a, b, bY N1 fun q hq => pm.symm.subset hq, (List.Perm.nodup_iff (pm.map _)).mp dd⟩, F1, nd⟩;refine h.out ok G ((da, ob) :: fo) m { s with heap := h1 } I1 _ _ (fun v aC aW G' val h' aN z1 z2 z3 z4 => ?_) (fun x aC aW G' ev h' aN y1 y2 y3 => qe x aC aW G' m ev h' aN y1 y2 y3.pP)
 obtain ⟨rfl, sc, rfl, z⟩ := z1;induction z3.out
 obtain ⟨⟨UN, os2, a2, b2, c2, d2⟩, F2, TJ⟩ := z4;obtain ⟨es, n, vals, vT, nT, nI, aK, eK, nK, tI, rfl, hS, hE, h5, h6, h7, hV⟩ := a2;have IA : InstAt h' ρ.aS (instObj 1048 ρ.dS) 1048 (some (dictOf es n)) := InstAt.of_news c2 (List.mem_append_right _ (List.mem_append_right _ (List.mem_append_right _ hS))) (.head _);have hi : aD[19]? = some ("possible_simple_keys" : Str) := rfl;have Bw := eJ.put (hsh := PyData.keyHash g.w.params "possible_simple_keys") (key := .str "possible_simple_keys" (aN + 1)) (v := .ref da) hE eP hi;have gs : (getL "possible_simple_keys" es).isSome = true := by
  refine aR (cA.zip (ns := aD) hV (v := .glob (.ref aK)) (Fn hi rfl)) fun val m1 U => ?_;rw [jK hE eP m1]; rfl
 refine set_dict (s := (St s h' aN)) F2 ok.fK c2 IA rfl so.fi so.po tk so.hd gs rfl (zH d2) (by rw [Bw.length.1]; decide +kernel) fun h3 F3 N3 => ?_;exact q .next aC _ G' m .next h3 _ (z da ob) z2 .next ⟨⟨[(ρ.dS, dictOf (putL "possible_simple_keys" (PyData.keyHash g.w.params "possible_simple_keys") (.str "possible_simple_keys" (aN + 1)) (.ref da) es) (putN "possible_simple_keys" es n)), (ρ.aT, W.listOf vT.toArray nT), (ρ.aI, W.listOf tI.toArray nI), (da, ob)], os2,
  ⟨_, _, _, vT, nT, nI, da, ob, [], tI, rfl, hS, Bw, h5, h6, ⟨rfl, rfl, lo, mQ hint, .nil⟩, cA.set (v := V.glob (.ref da)) (val := .ref da) .glob 19 hV⟩, b2, bY N3 Hu, Cv _ d2 rfl⟩, F3, TJ⟩
end
theorem bH.unset {m m' : cV} {x : Str} (hm : ∀ y, y ≠ x -> m' y = m y) {loc : aF} (u : cK x .un loc aC) (h : bH ρ G m loc os) (nd : (loc.map (·.1)).Nodup) : ∃ uU, bH ρ G m' aC uU /\ uU.Sublist os := by
 refine wZ (h.put hm .un u nd) fun o1 o o2 cN k => ?_;subst cN;exact (eO _ k ((List.Sublist.refl o1).append (List.sublist_append_right o o2)))
noncomputable def Cx.mark (C : Cx) (h : Option Value) : Cx := { C with A := C.A.mark h }
section
variable {D : Nat} {C : Cx} {X : dW} {loc : aF}
theorem fM.mark (ok : fM g D C) (h : Option Value) : fM g D (C.mark h) := ⟨ok.below, ok.fK, ok.top, ok.kind, ok.frames, ok.dep, ok.CG⟩
theorem Fz (A G : bB) : Sub G (A ++ G) := fun U hp => List.mem_append_right _ hp
inductive Wk (C : Cx) (ρ : bZ) (G fo : bB) (σ : bQ) (m : cV) (loc : aF) (e : Addr) (cl : Addr) (dx : Addr) (od : Obj) (h : Heap) : Prop
 | mk (ws : Array Value) (Bv : _) (I : bJ (C.mark (some (.ref e))) ρ ([(e, ({ cls := .ref cl, dict := some dx, data := .fields ws, slots := Bv } : Obj)), (dx, od)] ++ G) fo σ m loc h) (t : True)
theorem Vj {m : cV} {e cl : Addr} {od : Obj} {a0 : Value} {B h : Heap} (jQ : C.base = C.h₀) (hB : C.base.StaysIn B) (fl : Heap.FlyingW B (C.env :: C.outer) e (.ref cl) a0 h) (hd : cP e (some dx) h)
  (hs : Gr ρ G σ ls) (hl : bH ρ G m loc os) (nd : (loc.map (·.1)).Nodup) (hq : ∀ q ∈ (dx, od) :: (ls ++ (os ++ (fo ++ G))), B.get? q.1 = some q.2 /\ C.h₀.get? q.1 = none /\ q.1 ≠ C.L) (Fw : (((dx, od) :: (ls ++ (os ++ (fo ++ G)))).map (·.1)).Nodup) (F : Fr C.h₀ C.L h m) :
  Wk C ρ G fo σ m loc e cl dx od h := by
 refine Pf fl.first fun oe ws LC GK Uv U => ?_;have CN : oe.dict = some dx := hd.get LC;have eo : oe = { cls := .ref cl, dict := some dx, data := .fields ws, slots := oe.slots } := by rw [← GK, ← CN, ← Uv]
 have AF : C.h₀.get? e = none := by
  cases hz : C.h₀.get? e with
  | none => rfl
  | some o => have := hB e o (jQ ▸ hz); rw [fl.2.1] at this; cases this
 have eL : e ≠ C.L := fun z => by
  refine Pt F.ns fun oL uV ep hL SD U => ?_;rw [← z, LC] at hL; cases hL; rw [SD] at Uv; cases Uv
 refine ⟨ws, oe.slots, bJ.more (C := C.mark (some (.ref e))) (ad := [_, _]) hs hl nd (fun p hp => ?_) ?_ F, trivial⟩
 ·rcases List.mem_cons.mp hp with rfl | hp
  ·exact (fL (eo ▸ LC) eL AF)
  ·have := hq p hp;exact (fL (fl.1 _ _ this.1) this.2.2 this.2.1)
 ·refine List.nodup_cons.mpr ⟨fun hm => ?_, Fw⟩;refine aR (List.mem_map.mp hm) fun p NS IY => ?_;have := (hq p NS).1;rw [IY, fl.2.1] at this; cases this
theorem bJ.unset {G fo : bB} {m : cV} {l l' : aF} {n : Str} {hv : Option Value} {h5 h6 h7 : Heap} {u : Option Value} (I : bJ (C.mark hv) ρ G fo σ m l h5) (u3 : cK n .un l l') (n6 : h6.Ns C.L (mT m n .none)) (s6 : Heap.SameBut C.L h5 h6) (n7 : h7.Ns C.L (fun x => if x = n then u else mT m n .none x)) (s7 : Heap.SameBut C.L h6 h7) :
  bJ C ρ G fo σ (fun x => if x = n then u else mT m n .none x) l' h7 := by
 obtain ⟨⟨ls, os, a, b, c, d⟩, F, nd⟩ := I;obtain ⟨NR, b7, sb⟩ := bH.unset (m' := fun y => if y = n then u else mT m n .none y) (fun y hy => by rw [if_neg hy]; exact if_neg hy) u3 b nd;have sl : (ls ++ (NR ++ (fo ++ G))).Sublist (ls ++ (os ++ (fo ++ G))) := (List.Sublist.refl _).append (sb.append (.refl _));exact ⟨⟨ls, NR, a, b7, bY ((c.set s6).set s7) sl.subset, dJ d sl⟩, (F.set n6 s6).set n7 s7, by rw [u3.names]; exact nd⟩
inductive Zp (n : Str) (Q : dD) (f : Fl) (l : aF) (s : bQ) : Prop
 | mk (hf : f = .next) (l3 : aF) (u : cK n .un l l3) (h : Q .next l3 s)
theorem Ed {n : Str} {pos : Pos} {hv : Option Value} {sU : List Stmt} {Q : dD} (ok : fM g D C) (hn : aB C n) (h : SW g D (C.mark hv) ρ (fun U U U => False) sU loc σ (Zp n Q)) (uD : fM g D (C.mark hv)) {m : cV} {s : Shared} {h1 : Heap} {t1 : Tok} (I : bJ (C.mark hv) ρ G fo σ m loc h1) {Qr : Flow -> Shared -> Prop} {E' : cY} (q : Lx C ρ G fo s Q Qr) :
  wpAny (model g.prog g.w) (C.mark hv).A (execs sU C.env) (fun r s' => wpAny (model g.prog g.w) C.A (bindName C.env n .none >>= fun U => unbindBehindTheSuite C.env n pos) (fun U TC => Qr r TC) E s') E' (St s h1 t1) := by
 refine h.out uD _ fo _ (St s h1 t1) I _ _ (fun f l2 s2 G3 m3 fv h5 JR w1 w2 w3 w4 => ?_) (fun U U U U U U U U y U U => y.elim);obtain ⟨hf, l3, u3, w⟩ := w1;subst hf;induction w3.out
 have LI : (C.cs.kind == .class || (C.cs.kind == .module && C.L != mainGlobals)) = false := by rw [ok.kind]; rfl
 refine wpAny_bind (wpAny_bindName (wpAny_storeName_local (s := St s h5 JR) hn.1 w4.fr.ns (fun h6 MJ UB => ?_) LI));unfold unbindBehindTheSuite;refine wpAny_onRaise (wpAny_unbindName_local (m := mT m3 n .none) (v := .none) hn.1 MJ (if_pos rfl) LI fun h7 u RT OT => ?_);exact q .next l3 s2 G3 _ .next h7 _ w w2 .next (bJ.unset w4 u3 MJ UB RT OT)
inductive AA (g : Gl) (D : Nat) (C : Cx) (ρ : bZ) (n : Str) (Cl : Addr) (sU : List Stmt) (Q : dD) (x : uG) (l : aF) (s : bQ) : Prop
 | mk (hc : x.cls = Cl) (l1 : aF) (u : cK n (.val (.inst Cl x.ns x.vs)) l l1) (h : ∀ hv, SW g D (C.mark hv) ρ (fun U U U => False) sU l1 s (Zp n Q))
theorem SW.JM {x n : Str} {pos JC : Pos} {body : List Stmt} {Pc : Stmt} {sU : List Stmt} {params : Arguments} {Tn : List Stmt} {scope : Scope} {sf : Str} {l : List (Str × Str)} {Q : dD} (jQ : C.base = C.h₀)
  (co : tJ g Cl fI qual params Tn scope dV eW sf l) (ex : nsIn g.K mainGlobals x = some (some (.ref Cl))) (hx : C.cs.names.lookup x = some .globalImplicit) (hd : (x == ("__debug__" : Str)) = false) (hn : aB C n)
  (h : SW g D C ρ (AA g D C ρ n Cl (Pc :: sU) Q) body loc σ Q) :
  iB g D C ρ X (.Try body [.ExceptHandler (some (.Name x np)) (some n) (Pc :: sU) JC] [] [] pos) loc σ Q := by
 refine .of fun ok G fo m s I Qr Er q qe => ?_;have above := I.fr.above;refine wpAny_Try_except (h.out ok G fo m s I _ _ (fun f aC aW G' m' fv h' aN z1 z2 z3 z4 => ?_) (fun x' aC aW G' m' ev h' aN y1 y2 y3 => ?_))
 ·induction z3 with
  | next => exact wpAny_execs_nil (q .next aC aW G' m' _ h' aN z1 z2 .next z4)
  | brk => exact q .brk aC aW G' m' _ h' aN z1 z2 .brk z4
  | cont => exact q .cont aC aW G' m' _ h' aN z1 z2 .cont z4
  | ret hv => exact q (.ret _) aC aW G' m' _ h' aN z1 z2 (.ret hv) z4
 ·obtain ⟨EV, l1, u1, Vi⟩ := y1;obtain ⟨⟨e, dx, a0, es, n', vals, ls, os, B, rfl, SY, he, hv, hs, Xg, Fw, hB, hq, fl⟩, up, ns, Ng⟩ := y3;rw [EV] at fl;obtain ⟨nm, qq, N, bs, bm, hdct, sn, sub, ab, col, dd, k0, k1, k2, k3, k5, Bt, newId, jR, Mz, CX, Y, Xb⟩ := co.road;refine gC (s := St s h' aN) (P := xN B (C.env :: C.outer) e C.L (.ref Cl) a0 h') (jM _ _) SY (fun k => sF (L := C.L) ok.frames rfl fl fun h1 a b => k h1 ⟨a, b⟩) fun h1 p1 Zb => ?_;refine gC (s := St s h1 aN) (P := yI B (C.env :: C.outer) e (.ref Cl) a0 h1) (gP _ _) Zb (fun k => wpAny_landsW (s := St s h1 aN) p1.1 fun h2 a b => k h2 ⟨a, b⟩) fun h2 p2 hd2 => ?_;have F2 : Fr C.h₀ C.L h2 m' := ⟨p2.2.ns (p1.2.ns ns), fun b o hb => p2.1.1 _ _ (hB _ _ (jQ ▸ hb)), above⟩;refine aR p2.1.there fun ob Wj GU => ?_;refine wpAny_handleBy_cons (codeAny_handlers_test (nameX_K (s := (St s h2 aN)) F2 ok.fK (topRead_of ok.top) ex ?_ ok.kind hx hd)) (fun q => nomatch q)
  refine wpAny_excMatches_sub_self ((ok.fK.keeps F2.keep) _ _ CX) Wj GU Xb (codeAny_handlers_suite_as ?_);refine gC (s := St s h2 aN) (P := yI B (C.env :: C.outer) e (.ref Cl) a0 h2) (gP _ _) hd2 (fun k => lands_againW (s := St s h2 aN) p2.1 fun h3 a b => k h3 ⟨a, b⟩) fun h3 p3 HH => ?_;obtain ⟨ws, Bv, I3, _⟩ := Vj (ρ := ρ) (m := m') jQ hB p3.1 HH hs Xg Ng hq Fw ⟨p3.2.ns F2.ns, fun b o hb => p3.1.1 _ _ (hB _ _ (jQ ▸ hb)), above⟩;refine eG (ok.mark (some (.ref e))) hn.1 (s := St s h3 aN) I3 (.An (.head _) (.tail _ (.head _)) he (hv.mono (Fz _ _))) u1 fun h4 Xo I4 => ?_;exact Ed ok hn (Vi (some (.ref e))) (ok.mark _) I4 (q.sub (y2.trans (Fz _ _)))
end
def Sq (F : Str) : Prop := ∀ (prog : Program) (w : World) (A : Around) (E : cY) (s : Shared) (y : Str) (t u : Tok) (Q : cY), y.length <= 100 -> (∀ T t' k, Q (.str T t') { s with toks := k }) -> wpAny (model prog w) A (binaryOp .Mod (.str F t) (.str y u)) Q E s
section
variable {D : Nat} {C : Cx} {X : dW} {loc : aF}
theorem EW.mod {l r : Expr} {pos : Pos} (h : EW g D C ρ X l loc σ (fun a bP fE => EW g D C ρ X r bP fE (fun b bG fV => ∃ F y, a = .str F /\ b = .str y /\ Sq F /\ y.length <= 100 /\ Q .rK bG fV))) :
  EW g D C ρ X (.BinOp l .Mod r pos) loc σ Q := by
 refine EW.binop (h.mono fun a l1 s1 z => z.mono fun b l2 s2 z => ?_);obtain ⟨F, y, rfl, rfl, hF, hy, z⟩ := z;intro G s av bv ha hb T E k;induction ha.out; induction hb.out
 exact hF _ _ _ _ _ _ _ _ _ hy fun T' t' tk => k .rK _ tk z .rK
end
section
open PySem.Builtin PySem.Builtin.Str
section
variable {prog : Program} {w : World} {A : Around} {s : Shared}
theorem Dv {b : Nat} {x : Str} {t : Tok} {Q : cY} (hx : (reprText x).length <= sizeLine) (h : Q (.str (reprText x) s.toks) { s with toks := s.toks + 1 }) : wpAny (model prog w) A (pyReprObjUnder b (.str x t)) Q E s := by
 unfold pyReprObjUnder pyReprObjBy;refine wpAny_bind (show wpAny _ _ (Pure.pure ()) _ _ _ from wpAny_pure ?_);refine wpAny_bind (wpAny_specialOf (name := Str.ofString "__repr__") (typeIs_str s x t) PySem.F.slot_str_repr.lookup ?_);refine wpAny_bind (wpAny_callSpecialIfBoundBy?_slotG (name := Str.ofString "__repr__") (id := "str.__repr__") (typeIs_str s x t) PySem.F.slot_str_repr.toG ?_);have e : reprUnder? (.builtin "str.__repr__") = none := by decide +kernel
 rw [e];show wpAny _ _ (call (.builtin "str.__repr__") [.str x t]) _ _ _;refine call_gives PySem.F.slot_str_repr (typeIs_str s x t) PySem.F.entry_str_repr (PySem.F.args_str_repr_1 _) (gives_str_repr x t) ⟨hx, ?_⟩;exact wpAny_bind (wpAny_isInstance (T := "str") (b := true) rfl isSubtype_str_str (wpAny_pure h))
end
end
section
variable {D : Nat} {C : Cx} {X : dW} {loc : aF}
theorem nB.fst (h : nB ρ G kvs ks) : kvs.map (·.1) = ks.map (·.1) := by
 induction h with
 | nil => rfl
 | cons _ _ ih => exact congrArg (_ :: ·) ih
theorem Mc {prog : Program} {w : World} {vs : List Value} (hl : vs.length = kvs.length) (h : ∀ (j : Nat) v, vs[j]? = some v -> ∃ k x, kvs[j]? = some (k, x) /\ (intKind prog w).is k v = true) : cA ρ G ((kvs.map (·.1)).map V.int) vs := by
 induction kvs generalizing vs with
 | nil =>
  induction vs with
  | nil => exact .nil
  | cons _ _ => cases hl
 | cons p kvs ih =>
  induction vs with
  | nil => cases hl
  | cons v vs =>
   refine Pd (h 0 v rfl) fun k' x' e hk => ?_;cases e;obtain ⟨t, rfl⟩ := Value.isInt_shape hk;exact .cons .int (ih (Nat.succ.inj hl) fun j v hv => h (j + 1) v hv)
theorem qD {pos : Pos} {id : String} {first : List Value} {args : List Expr} {Q : cY} {s : Shared} (hs : aH pos args C.env)
  (h : wpAny (model g.prog g.w) C.A (spliced (args.map fun e => (false, eval e C.env))) (fun vals eB => wpAny (model g.prog g.w) C.A (call (.type id) (first ++ vals)) Q E eB) E s) :
  wpAny (model g.prog g.w) C.A (callWith pos (.type id) first (backTo pos (starEach args C.env)) []) Q E s := by
 have hs := hs.eq;rw [hs];refine callWith_of (P := fun U => True) ?_ (fun h U => ⟨.machine, .inr (.inl rfl), Looks.of_pure rfl⟩) ?_
 ·induction args with
  | nil => rfl
  | cons e r ih => simp [List.any_map, Function.comp_def]
 ·induction args with
  | nil =>
   unfold evalArgs;show wpAny _ _ (spliced [] >>= _) _ _ _;refine wpAny_bind (wpAny_mono h (fun vs eB z => ?_) fun U U z => z);refine wpAny_bind (wpAny_pure ?_);refine wpAny_holding ?_;simp only [List.all_nil, if_true, List.map_nil, List.filterMap_nil];refine wpAny_bind (wpAny_evalAll_nil ?_);exact wpAny_bind (wpAny_pure (wpAny_pure ⟨trivial, z⟩))
  | cons e r => exact evalArgs_plain (wpAny_mono h (fun U U z => ⟨trivial, z⟩) fun U U z => z)
theorem EW.Ko {pos : Pos} {e : Expr} (hh : C.A.handled = Option.none) (hs : aH pos [e] C.env)
  (hf : EW g D C ρ X (.Name "list" np) loc σ (fun v l s => v = .glob (.type "list") /\ EW g D C ρ X e l s (fun v l s => ∃ sc, s = some sc /\ v = .glob (.ref sc.cQ) /\ sc.keys.length <= sizeLine /\ Q (.lst ((sc.keys.map (·.1)).map V.int)) l s))) :
  EW g D C ρ X (.Call (.Name "list" np) [e] [] pos) loc σ Q := by
 refine .of fun ok G fo m s I Qr Er q qe => ?_;refine wpAny_Call_ofName (EW.seq1 hf ok I qe fun v bP fE G1 val h1 dB z1 z2 z3 z4 gU => ?_);obtain ⟨rfl, z⟩ := z1;induction z3.out
 refine qD (first := []) hs ?_;refine spliced_cons (EW.seq1 z ok (s := (St s h1 dB)) z4 gU fun v bG fV G2 rX h2 eM y1 y2 y3 y4 mU => ?_);refine spliced_nil ?_;refine Ut y1 fun sc cN nA hz hq => ?_;subst cN nA;induction y3.out
 have OW := y4;obtain ⟨⟨ls, os, a, b, c, d⟩, F, nd⟩ := OW;obtain ⟨pre, post, kvs, N, F', s1, s2, lo, hd, kr, zz⟩ := y4.jI;obtain ⟨ep, ha⟩ := KdkAt.of (hd g.prog g.w);have QP := ha.dictAt (N _ (List.mem_append_right _ (.head _))).1;have hl := kr.length;show wpAny (model g.prog g.w) C.A (call (.type "list") [.ref sc.cQ]) Qr Er (St s h2 eM);refine kdl_N (s := (St s h2 eM)) (kdl_dict (knd := intKind g.prog g.w) (kvs := kvs) (ep := ep) lo) hh F c QP (by rw [hl]; exact hz) fun B n h' tk vs F2 N2 l1 Bq hv => ?_;have uE : cA ρ G2 ((sc.keys.map (·.1)).map V.int) vs := by
  rw [← kr.fst];exact Mc Bq hv
 have dd := cF (oa := W.listOf vs.toArray n) d l1;have k1 : ∀ p ∈ G2, p ∈ [(B, W.listOf vs.toArray n)] ++ G2 := fun p hp => .tail _ hp;exact q _ bG _ ([(B, W.listOf vs.toArray n)] ++ G2) _ h' _ hq (fun p hp => k1 p (y2 p (z2 p hp))) (.lst (.head _) (uE.mono k1)) (bJ.more a b nd N2 dd F2)
theorem EW.neg {e : Expr} {pos : Pos} (h : EW g D C ρ X e loc σ (fun v l s => ∃ i, v = .int i /\ Q (.int (-i)) l s)) : EW g D C ρ X (.UnaryOp .USub e pos) loc σ Q := by
 refine .of fun ok G fo m s I Qr Er q qe => ?_;refine wpAny_UnaryOp (EW.seq1 h ok I qe fun v bP fE G1 val h1 dB z1 z2 z3 z4 gU => ?_);refine aR z1 fun i cN hq => ?_;subst cN;induction z3.out
 exact PyProof.Rows.neg_int (q _ bP fE G1 _ h1 _ hq z2 .int z4)
noncomputable def Pb : Option Int -> V
 | none => .none
 | some i => .int i
theorem BW.ED {l r : Expr} {pos : Pos} {Q : lR} (hm : behindInMarks .Eq r = false)
  (h : EW g D C ρ X l loc σ (fun a bP fE => EW g D C ρ X r bP fE (fun b bG fV => ∃ m j, a = Pb m /\ b = .int j /\ Q (m == some j) bG fV))) :
  BW g D C ρ X (.Compare l [.Eq] [r] pos) loc σ Q := by
 refine BW.cmp hm (h.mono fun a l1 s1 q => q.mono fun b l2 s2 q => ?_);obtain ⟨m, j, rfl, rfl, q⟩ := q;intro G s av bv ha hb T E k;induction hb.out
 induction m with
 | none => induction ha.out; exact PySem.EqNone.eq_none_int (k _ s.toks q)
 | some i => induction ha.out; exact PyProof.Rows.eq_int (k _ s.toks q)
theorem BW.Hc {l : Expr} {pos : Pos} {kk : Nat} {Q : lR}
  (h : EW g D C ρ X l loc σ (fun a bP fE => ∃ m, a = Pb m /\ Q m.isNone bP fE)) :
  BW g D C ρ X (.Compare l [.Is] [.Constant .none kk cp] pos) loc σ Q := by
 refine BW.bC rfl (h.mono fun a l1 s1 q => ?_);refine aR q ?_;try clear q;intro m cN q;subst cN;refine EW.none ?_;induction m with
 | none => exact q
 | some i => exact q
end
section
set_option maxHeartbeats 1000000
def Ee (F : Str) : Prop := ∀ (prog : Program) (w : World) (A : Around) (E : cY) (s : Shared) (y : Str) (t u : Tok) (Q : cY), y.length <= 100 -> (∀ c ∈ y.cps.toList, c < 16 ^ 8) -> (∀ T t' k, Q (.str T t') { s with toks := k }) -> wpAny (model prog w) A (binaryOp .Mod (.str F t) (.str y u)) Q E s
theorem Fp {z : Str} (h : z.length <= 100 /\ ∀ c ∈ z.cps.toList, c < 16 ^ 8) : (PySem.reprText z).length <= 1002 := by
 have := StrLaws.reprText_len z h.2
 lia
theorem Ld {z : Str} (h : z.length <= 100 /\ ∀ c ∈ z.cps.toList, c < 16 ^ 8) : (PySem.reprText z).length <= sizeLine := Nat.le_trans (Fp h) (by decide +kernel)
theorem Gn {c : Prop} [Decidable c] {x : Str} {t : Tok} : KPc.Obj (if c then some (.str x t) else Option.none) x := fun v e => by
 by_cases hc : c
 ·rw [if_pos hc] at e; exact ⟨t, (Option.some.inj e).symm⟩
 ·rw [if_neg hc] at e; cases e
theorem Vr {M : Model} {A : Around} {s : Shared} {β : Type} {l : List Nat} {b : β} {g : Nat -> β -> Sem (ForInStep β)} {Q : β -> Shared -> Prop} (P : (Nat -> β -> Sem (ForInStep β)) -> Prop) (hp : P g) (h : ∀ f, P f -> wpAny M A (forIn l b f) Q E s) : wpAny M A (forIn l b g) Q E s := h g hp
theorem xE {l1 l2 : List Nat} (c : Nat) (n : Nat) (h1 : (l1 ++ 37 :: c :: l2).span (· != 37) = (l1, 37 :: c :: l2)) (e1 : l1.isEmpty = false) (h2 : l2.span (· != 37) = (l2, [])) (hn : (l1 ++ 37 :: c :: l2).length = n + 4) (hc : c = 115 \/ c = 114) (hs : l1.length + 1002 + l2.length <= 16777216) (n1 : l1.length ≠ n + 4) (n2 : l2.length ≠ n + 4) {F : Str} (eF : F = ⟨(l1 ++ 37 :: c :: l2).toArray⟩) {prog : Program} {w : World} {A : Around} {s : Shared} {y : Str} {t u : Tok} {Q : cY} (hy : y.length <= 100) (GF : c = 114 -> ∀ c ∈ y.cps.toList, c < 16 ^ 8) (k : ∀ T t' k, Q (.str T t') { s with toks := k }) : wpAny (model prog w) A (binaryOp .Mod (.str F t) (.str y u)) Q E s := by
 subst eF;obtain ⟨zz, hc⟩ : ∃ zz : Str, c = 115 /\ zz = y \/ c = 114 /\ zz = PySem.reprText y := hc.elim (fun e => ⟨_, .inl ⟨e, rfl⟩⟩) fun e => ⟨_, .inr ⟨e, rfl⟩⟩;refine binaryOp_meets (T := "str") (op := .Mod) (typeIs_str s _ t) (typeIs_str s y u) PySem.F.fills_str_mod PySem.F.slot_str_mod PySem.F.entry_str_mod (PySem.F.args_str_mod_2 _ _) (S := (fun U R s => ∀ t' k, R (.ok (.ret (.str (⟨l1.toArray⟩ ++ zz ++ ⟨l2.toArray⟩) t'))) { s with toks := k })) ?_ (fun t' k' => ⟨(fun e => nomatch e), k _ t' k'⟩)
 apply KPc.meets_of
 intro prog w0 A s Q E hq;rw [KPc.entry_is_s];unfold Builtin.Str.percentFormat;refine wpAny_bind (wpAny_isInstance (typeIs_str _ _ _) F.sub_str_tuple ?_);refine wpAny_bind (wpAny_of_eq (a := some _) rfl ?_);refine wpAny_bind (KPc.wp_fills_str ?_);intro b;refine wpAny_bind (wpAny_pure ?_);refine wpAny_bind ?_;rw [KPc.range_list];have hlen : (⟨(l1 ++ 37 :: c :: l2).toArray⟩ : Str).length = n + 4 := by rw [← hn]; rfl
 rw [hlen];have Yn : (l1 ++ 37 :: c :: l2).isEmpty = false := by cases l1 <;> rfl
 refine Vr (fun f => (∀ x p w r l t' N T (Q' : ForInStep (List Value × Builtin.Str.Writer × List Nat) -> Shared -> Prop) s, KPc.Good w T N -> N <= 16777216 -> r.isEmpty = false -> r.span (· != 37) = (l, t') -> l.isEmpty = false -> l.length ≠ n + 4 -> Q' (.yield (p, w.add ⟨l.toArray⟩ Option.none, t')) s -> wpAny (model prog w0) A (f x (p, w, r)) Q' E s) /\ (∀ x p w N T (Q' : ForInStep (List Value × Builtin.Str.Writer × List Nat) -> Shared -> Prop) s, KPc.Good w T N -> N <= 16777216 -> Q' (.done (p, w, [])) s -> wpAny (model prog w0) A (f x (p, w, [])) Q' E s) /\ (∀ x w N T r (Q' : ForInStep (List Value × Builtin.Str.Writer × List Nat) -> Shared -> Prop) s, KPc.Good w T N -> N <= 16777216 -> (∀ o k, zz.length <= 1002 -> KPc.Obj o zz -> Q' (.yield ([], w.add ⟨zz.cps.toList.toArray⟩ o, r)) { s with toks := k }) -> wpAny (model prog w0) A (f x ([.str y u], w, 37 :: c :: r)) Q' E s)) ⟨?_, ?_, ?_⟩ fun f hP => ?_
 ·intro x p w r l t' N T Q' s g hN h1 h2 h3 h4 h;refine wpAny_ite (KPc.ite_no (KPc.short_good g hN) ?_);refine wpAny_ite (KPc.ite_no (by rw [h1]; decide) ?_);rw [h2];refine wpAny_ite (KPc.ite_yes (by rw [h3]; decide) ?_);rw [if_neg (by rw [beq_iff_eq]; exact h4)];exact wpAny_pure h
 ·intro x p w N T Q' s g hN h;refine wpAny_ite (KPc.ite_no (KPc.short_good g hN) ?_);exact wpAny_pure h
 ·intro x w N T r Q' s g hN h
  rcases hc with ⟨rfl, rfl⟩ | ⟨rfl, rfl⟩
  ·refine wpAny_ite (KPc.ite_no (KPc.short_good g hN) ?_);refine wpAny_bind (wpAny_holding (wpAny_bind (wpAny_of_eq (KPc.strOf_str _ _) ?_)));exact wpAny_bind (wpAny_of_eq (a := some _) rfl (wpAny_pure (wpAny_pure (h _ s.toks (Nat.le_trans hy (by decide)) Gn))))
  ·refine wpAny_ite (KPc.ite_no (KPc.short_good g hN) ?_);refine wpAny_bind (wpAny_holding (wpAny_bind (Dv (Ld ⟨hy, GF rfl⟩) ?_)));exact wpAny_bind (wpAny_of_eq (a := some _) rfl (wpAny_pure (wpAny_pure (h _ _ (Fp ⟨hy, GF rfl⟩) Gn))))
 obtain ⟨lit, fin, RK⟩ := hP;refine KPc.start fun wa ga => KPc.turn (lit _ _ _ _ _ _ _ _ _ _ ga (by decide) Yn h1 e1 n1 ?_);refine KPc.after_add0 ga rfl (KPc.obj_none rfl) fun wb gb => KPc.turn (RK _ _ _ _ _ _ _ gb (by show 0 + l1.length <= _; rw [Nat.zero_add]; exact Nat.le_trans (Nat.le_add_right _ 1002) (Nat.le_trans (Nat.le_add_right _ _) hs)) fun o k hz ho => ?_);refine KPc.after_str gb hz ho fun wc gc => ?_;have hl : 0 + (⟨l1.toArray⟩ : Str).length + 1002 <= 16777216 := by show 0 + l1.length + 1002 <= _; rw [Nat.zero_add]; exact Nat.le_trans (Nat.le_add_right _ _) hs
 have Cb : 0 + (⟨l1.toArray⟩ : Str).length + 1002 + (⟨l2.toArray⟩ : Str).length <= 16777216 := by show 0 + l1.length + 1002 + l2.length <= _; rw [Nat.zero_add]; exact hs
 cases he : l2.isEmpty with
 | true =>
  rw [List.isEmpty_iff.mp he] at hq ⊢;exact KPc.turn (fin _ _ _ _ _ _ _ gc hl (KPc.finish_ok (w := wc) (show KPc.Good wc _ _ from KPc.good_add (x := ⟨([] : List Nat).toArray⟩) (o := Option.none) gc (KPc.obj_none rfl)) hl rfl hq))
 | false =>
  refine KPc.turn (lit _ _ _ _ _ _ _ _ _ _ gc hl he h2 he n2 ?_);exact KPc.after_add gc rfl (KPc.obj_none rfl) fun wd gd => KPc.turn (fin _ _ _ _ _ _ _ gd Cb (KPc.finish_ok gd Cb rfl hq))
theorem Ou : Ee ("expected alphabetic or numeric character, but found %r" : Str) := fun U U U U U U U U U hy hc k =>
 xE (l1 := [101, 120, 112, 101, 99, 116, 101, 100, 32, 97, 108, 112, 104, 97, 98, 101, 116, 105, 99, 32, 111, 114, 32, 110, 117, 109, 101, 114, 105, 99, 32, 99, 104, 97, 114, 97, 99, 116, 101, 114, 44, 32, 98, 117, 116, 32, 102, 111, 117, 110, 100, 32]) (l2 := []) 114 50 rfl rfl rfl rfl (.inr rfl) (by decide) (by decide) (by decide) (by decide +kernel) hy (fun U => hc) k
theorem Yd : Ee ("found character %r that cannot start any token" : Str) := fun U U U U U U U U U hy hc k =>
 xE (l1 := [102, 111, 117, 110, 100, 32, 99, 104, 97, 114, 97, 99, 116, 101, 114, 32]) (l2 := [32, 116, 104, 97, 116, 32, 99, 97, 110, 110, 111, 116, 32, 115, 116, 97, 114, 116, 32, 97, 110, 121, 32, 116, 111, 107, 101, 110]) 114 42 rfl rfl rfl rfl (.inr rfl) (by decide) (by decide) (by decide) (by decide +kernel) hy (fun U => hc) k
theorem Ot : Sq ("while scanning an %s" : Str) := fun U U U U U U U U U hy k =>
 xE (l1 := [119,104,105,108,101,32,115,99,97,110,110,105,110,103,32,97,110,32]) (l2 := []) 115 16 rfl rfl rfl rfl (.inl rfl) (by decide) (by decide) (by decide) (by decide +kernel) hy (fun h => absurd h (by decide)) k
section
variable {D : Nat} {C : Cx} {X : dW} {loc : aF}
theorem EW.Ww {l r : Expr} {pos : Pos} (h : EW g D C ρ X l loc σ (fun a bP fE => EW g D C ρ X r bP fE (fun b bG fV => ∃ F y, a = .str F /\ b = .str y /\ Ee F /\ y.length <= 100 /\ (∀ c ∈ y.cps.toList, c < 16 ^ 8) /\ Q .rK bG fV))) :
  EW g D C ρ X (.BinOp l .Mod r pos) loc σ Q := by
 refine EW.binop (h.mono fun a l1 s1 z => z.mono fun b l2 s2 z => ?_);obtain ⟨F, y, rfl, rfl, hF, hy, hc, z⟩ := z;intro G s av bv ha hb T E k;induction ha.out; induction hb.out
 exact hF _ _ _ _ _ _ _ _ _ hy hc fun T' t' tk => k .rK _ tk z .rK
end
end
noncomputable def V.flat (v : V) : Bool := v.sel false true (fun U => true) (fun U => true) (fun U => true) (fun U => true)
noncomputable def LV.flat : LV -> Bool
 | .un => true
 | .val v => v.flat
 | .ml _ => false
 | .cell _ _ => false
theorem VR.flat {v : V} {val : Value} (h : VR ρ G v val) (hf : v.flat = true) : VR ρ' G' v val := by
 cases v with
 | none => induction h.out; exact .none
 | bool b => induction h.out; exact .bool
 | int i => induction h.out; exact .int
 | str s => induction h.out; exact .str
 | glob v => induction h.out; exact .glob
 | _ => exact (Bool.false_ne_true hf).elim
set_option tactic.hygienic true in
theorem bH.flat {ρ ρ' : bZ} {G G' : bB} {m : cV} {loc : aF} {os : bB} (h : bH ρ G m loc os) (hf : (loc.all fun p => p.2.flat) = true) : os = [] /\ bH ρ' G' m loc [] := by
 induction h with
 | nil => exact ⟨rfl, .nil⟩
 | @cons x lv r o os h _ ih =>
  obtain ⟨h1, h2⟩ := (Bool.and_eq_true _ _).mp hf;obtain ⟨e, k⟩ := ih h2;subst e;cases lv with
  | un => induction h.out; exact ⟨rfl, .un k⟩
  | val v => induction h.out with | val a b => exact ⟨rfl, .val a (b.flat h1) k⟩
  | ml _ => exact (Bool.false_ne_true h1).elim
  | cell _ _ => exact (Bool.false_ne_true h1).elim
theorem Tx (h₀ h : Heap) (L : Addr) : ∀ own : bB, News h₀ L h own -> ∃ tG : bB, (∀ p ∈ tG, p ∈ own) /\ (∀ p ∈ own, p ∈ tG) /\ (tG.map (·.1)).Nodup
 | [], _ => (nF ([]) (fun U h => h) (fun U h => h) (by simp))
 | p :: own, N => by
  refine fO (Tx h₀ h L own fun q hq => N q (.tail _ hq)) fun tG a b c => ?_
  by_cases hp : p.1 ∈ tG.map (·.1)
  ·refine (nF tG (fun q hq => .tail _ (a q hq)) (fun q hq => ?_) c)
   rcases List.mem_cons.mp hq with rfl | hq
   ·refine aR (List.mem_map.mp hp) fun r hr e => ?_;have h1 := (N r (.tail _ (a r hr))).1;have h2 := (N q (.head _)).1;rw [e, h2] at h1;have : r = q := Prod.ext e (Option.some.inj h1).symm;exact this ▸ hr
   ·exact b q hq
  ·refine (nF (p :: tG) (fun q hq => ?_) (fun q hq => ?_) (List.nodup_cons.mpr ⟨hp, c⟩))
   ·rcases List.mem_cons.mp hq with rfl | hq
    ·exact .head _
    ·exact .tail _ (a q hq)
   ·rcases List.mem_cons.mp hq with rfl | hq
    ·exact .head _
    ·exact .tail _ (b q hq)
theorem EW.Tp {D : Nat} {C : Cx} {X X' : dW} {loc : aF} {e : Expr} (h : EW g D C ρ X e loc σ Q) (k : ∀ x l s, X x l s -> X' x l s) : EW g D C ρ X' e loc σ Q := by
 refine .of fun ok G fo m s I Qr Er q qe => ?_;exact h.out ok G fo m s I Qr Er q fun x l' s' G' ev h' aN z => qe x l' s' G' ev h' aN (k _ _ _ z)
section
variable {D : Nat} {C : Cx} {X : dW} {loc : aF}
set_option tactic.hygienic true in
theorem SW.Py {xi xc : Str} {pk pv pt pos jA : Pos} {x1 : Nat} {e : Expr} {body : List Stmt} {Q : dD} (hh : C.A.handled = Option.none) (hi : aB C xi) (hc : aB C xc) (Gk : C.cs.kind = .function) (hs : aH jA [e] C.env) (x : Str) (J : Nat -> aF -> Prop)
  (Up : ∀ i l, J i l -> (l.all fun p => p.2.flat) = true)
  (hit : EW g D C ρ (fun U U U => False) (.Name "enumerate" np) loc none (fun v l s => v = .glob (.type "enumerate") /\ EW g D C ρ (fun U U U => False) e l s (fun v l s => v = .str x /\ s = none /\ J 0 l)))
  (turn : ∀ i c l, x.cps[i]? = some c -> J i l -> ∃ l1 l2, cK xi (.val (.int i)) l l1 /\ cK xc (.val (.str ⟨#[c]⟩)) l1 l2 /\ SW g D C ρ (fun U U U => False) body l2 none (fun f l3 s => f = .next /\ s = none /\ J (i + 1) l3))
  (fin : ∀ l, J x.length l -> Q .next l none) (sE : ∀ v, foldedSetIterable (.Call (.Name "enumerate" np) [e] [] jA) C.env v = pure v) (hp : (C.env.scope.kind == .class || (C.env.scope.kind == .module && C.env.locals != C.env.globals)) = false) :
  iB g D C ρ (fun U U U => False) (.For (.Tuple [.Name xi pk, .Name xc pv] x1 pt) (.Call (.Name "enumerate" np) [e] [] jA) body [] pos) loc none Q := by
 refine .of fun ok G fo m s I Qr Er q qe => ?_;have hE : PassesOwn (model g.prog g.w) C.A C.env (fun U U => False) := by passes_own
 suffices h : wpAny (model g.prog g.w) C.A (exec (.For (.Tuple [.Name xi pk, .Name xc pv] x1 pt) (.Call (.Name "enumerate" np) [e] [] jA) body [] pos) C.env) Qr (fun U U => False) s from wpAny_mono h (fun U U z => z) fun U U z => z.elim
 refine For_pair3F (env := C.env) (h₀ := C.h₀) I.fr hh hi.1 hc.1 hp ?_ sE hE;refine wpAny_Call_ofName (EW.seq1 (X := fun U U U => False) (hit.Tp fun U U U z => z) ok I (fun U U U U U U U z => z.elim) fun v bP fE G1 val h1 dB z1 z2 z3 z4 U => ?_);obtain ⟨rfl, z⟩ := z1;induction z3.out
 refine qD (first := []) hs ?_;refine spliced_cons (EW.seq1 (X := fun U U U => False) (z.Tp fun U U U z => z) ok (s := (St s h1 dB)) z4 (fun U U U U U U U z => z.elim) fun v bG fV G2 rX h2 eM y1 y2 y3 y4 U => ?_);refine spliced_nil ?_;refine qA y1 fun cN nA hj => ?_;subst cN nA;induction y3.out
 rename_i tok
 obtain ⟨ls, os, a, b, c, d⟩ := y4.ex;have a : ls = [] := a;subst a;obtain ⟨rfl, b0⟩ := b.flat (ρ' := ρ) (G' := G2) (Up _ _ hj);show wpAny (model g.prog g.w) C.A (call (.type "enumerate") [.str x tok]) _ _ (St s h2 eM);refine call_enum_str (s := (St s h2 eM)) hh y4.fr c fun h' e F' N' src => ?_;refine src.at C.env rfl xi xc body _ (fun i m' EA => EA = [] ++ ([] ++ (fo ++ G2)) /\ ∃ l, J i l /\ bH ρ G2 m' l [] /\ (l.map (·.1)).Nodup) ⟨rfl, bG, hj, b, y4.nd⟩ ?_ ?_
 ·rintro i a t v m₁ GD eB own ⟨iZ, EH, rfl⟩ Yv TG ⟨rfl, l, FP, hl, Fw⟩ _ JE GV AL
  obtain ⟨u, rfl⟩ := ItemKind.str_is TG;obtain ⟨cc, Sg, rfl⟩ : ∃ cc, x.cps[i]? = some cc /\ a = ⟨#[cc]⟩ := by
   unfold signs at Yv;rw [List.getElem?_map] at Yv;cases e2 : x.cps.toList[i]? with
   | none => rw [e2] at Yv; cases Yv
   | some cc => rw [e2] at Yv; cases Yv; exact (eO cc (by rw [← Array.getElem?_toList]; exact e2) rfl)
  refine pT (turn i cc l Sg FP) fun l1 l2 u1 u2 body => ?_;refine fO (Tx C.h₀ iZ C.L own fun p hp => AL p (List.mem_append_left _ hp)) fun tG o1 o2 o3 => ?_;refine aR (bH.Js (ρ := ρ) (G := G2) (v := .int i) (val := .int i t) .int u1 hl Fw) fun os1 L1 S1 => ?_;obtain ⟨os2, L2, S2⟩ := bH.Js (ρ := ρ) (G := G2) (v := .str ⟨#[cc]⟩) (val := .str ⟨#[cc]⟩ u) .str u2 L1 (by rw [u1.names]; exact Fw);have e1 : os1 = [] := List.sublist_nil.mp S1;subst e1;have e2 : os2 = [] := List.sublist_nil.mp S2;subst e2;have dj : ((tG ++ (fo ++ G2)).map (·.1)).Nodup := by
   rw [List.map_append];refine List.nodup_append.mpr (fL o3 (by simpa using d) ?_);intro p hp q hq e;refine aR (List.mem_map.mp hp) fun p' yQ cN => ?_;subst cN;refine aR (List.mem_map.mp hq) fun q' Yg cN => ?_;subst cN;exact JE p' (o1 _ yQ) q' (by simpa using Yg) e
  have JI : bJ C ρ G2 (tG ++ fo) none (fun y => if y = xc then some (.str ⟨#[cc]⟩ u) else if y = xi then some (.int i t) else m₁ y) l2 iZ := by
   refine ⟨⟨[], [], rfl, L2, ?_, ?_⟩, GV, ?_⟩
   ·refine bY AL fun p hp => ?_;simp only [List.nil_append, List.mem_append] at hp ⊢
    rcases hp with (h | h) | h
    ·exact .inl (o1 _ h)
    ·exact .inr (.inl h)
    ·exact .inr (.inr h)
   ·rw [List.nil_append, List.nil_append, List.append_assoc]; exact dj
   ·rw [u2.names, u1.names]; exact Fw
  refine body.out ok G2 (tG ++ fo) _ (St s iZ EH) JI _ _ (fun f l3 Eu G3 m3 fv h3 Dh w1 w2 w3 w4 => ?_) (fun U U U U U U U U z => z.elim);refine qA w1 fun cN nA MB => ?_;subst cN nA;induction w3.out
  obtain ⟨RM, RB, a3, b3, c3, d3⟩ := w4.ex;have a3 : RM = [] := a3;subst a3;obtain ⟨rfl, b4⟩ := b3.flat (ρ' := ρ) (G' := G2) (Up _ _ MB);refine LoopStep2.intro (news₂ := [] ++ ([] ++ (fo ++ G2))) w4.fr ?_ rfl ⟨rfl, l3, MB, b4, w4.nd⟩;refine bY c3 fun p hp => ?_;simp only [List.nil_append, List.mem_append] at hp ⊢
  rcases hp with h | h | h
  ·exact .inl (.inl (o2 _ h))
  ·exact .inl (.inr h)
  ·exact .inr (w2 _ h)
 ·rintro ID Ye TL HL SH TR _ ⟨rfl, l, FP, hl, Fw⟩
  rw [signs_length] at FP;exact q .next l none G2 TL .next ID Ye (fin l FP) (z2.trans y2) .next ⟨⟨[], [], rfl, hl, TR, by simpa using d⟩, SH, Fw⟩
end
section
variable {D : Nat} {C : Cx} {X : dW} {loc : aF}
theorem EW.Vk {l r r' : Expr} {op uX : CmpOp} {pos : Pos} (hm : behindInMarks uX r' = false)
  (h : EW g D C ρ X l loc σ (fun a bP fE => EW g D C ρ X r bP fE (fun b bG fV => tX op a b (fun c => (c = false -> Q (.bool false) bG fV) /\ (c = true -> EW g D C ρ X r' bG fV (fun d lU Eu => tX uX b d (fun c => Q (.bool c) lU Eu))))))) :
  EW g D C ρ X (.Compare l [op, uX] [r, r'] pos) loc σ Q := by
 refine .of fun ok G fo m s I Qr Er q qe => ?_;have mk : markedEach [op, uX] [r, r'] (evalEach [r, r'] C.env) = [eval r C.env, eval r' C.env] := by
  show [eval r C.env, markedBehindIn uX r' (eval r' C.env)] = _;rw [markedBehindIn_of_false hm]
 show wpAny _ _ (do compareChain pos (← eval l C.env) [op, uX] (markedEach [op, uX] [r, r'] (evalEach [r, r'] C.env))) _ _ _;rw [mk];refine wpAny_bind (EW.seq1 h ok I qe fun a bP fE G1 av h1 dB z1 z2 z3 z4 gU => ?_);show wpAny _ _ (do
  let rv ← holding [av] (eval r C.env)
  standAt pos
  let c ← holding [av, rv] (compareOp op av rv)
  release [av, rv] [c]
  if ← holding [c, rv] (truthy c) then compareChain pos rv [uX] [eval r' C.env] else pure c) _ _ _
 refine wpAny_bind (wpAny_holding (EW.seq1 z1 ok (s := (St s h1 dB)) z4 gU fun b bG fV G2 bv h2 eM y1 y2 y3 y4 mU => ?_));refine wpAny_bind (wpAny_standAt ?_);refine wpAny_bind (wpAny_holding (jB y1 (z3.mono y2) y3 fun c tk hc => ?_));refine wpAny_bind (wpAny_release ?_);refine wpAny_bind (wpAny_holding (wpAny_truthy_bool ?_));induction c with
 | false => exact wpAny_pure (q (.bool false) bG fV G2 _ h2 tk (hc.1 rfl) (z2.trans y2) .bool y4)
 | true =>
  show wpAny _ _ (do
   let rv ← holding [bv] (eval r' C.env)
   standAt pos
   operate [bv, rv] (compareOp uX bv rv)) _ _ _
  refine wpAny_bind (wpAny_holding (EW.seq1 (hc.2 rfl) ok (s := (St s h2 tk)) y4 mU fun d lU Eu G3 dv h3 Dh x1 x2 x3 x4 JS => ?_));refine wpAny_bind (wpAny_standAt ?_);exact wpAny_operating (jB x1 (y3.mono x2) x3 fun c tk hc => q (.bool c) lU Eu G3 _ h3 tk hc (fun p hp => x2 p (y2 p (z2 p hp))) .bool x4)
end
section
variable {D : Nat} {C : Cx} {X : dW} {loc : aF}
theorem EW.Vt {pos : Pos} {args : List Expr} (hs : aH pos args C.env)
  (hf : EW g D C ρ X (.Name "isinstance" np) loc σ (fun v l s => v = .glob (.builtin "isinstance") /\ AW g D C ρ X args l s (fun vs l s => ∃ x, vs = [.str x, .glob (.type "str")] /\ Q (.bool true) l s))) :
  EW g D C ρ X (.Call (.Name "isinstance" np) args [] pos) loc σ Q := by
 refine .of fun ok G fo m s I Qr Er q qe => ?_;refine wpAny_Call_ofName (EW.seq1 hf ok I qe fun v bP fE G1 val h1 dB z1 z2 z3 z4 gU => ?_);obtain ⟨rfl, z⟩ := z1;induction z3.out
 refine dR (first := []) hs ?_;refine AW.run z ok (s := (St s h1 dB)) z4 gU fun vs bG fV G2 vals2 h2 eM y1 y2 y3 y4 mU => ?_;refine aR y1 fun x cN hq => ?_;subst cN;induction y3.out with
 | cons a r =>
 induction r.out with
 | cons b r1 =>
 induction r1.out; induction a.out; induction b.out
 exact PySem.IsiPair.str_str (q _ bG fV G2 _ h2 _ hq (z2.trans y2) .bool y4)
end
section
set_option genInjectivity false
set_option genSizeOf false
noncomputable abbrev sv (l : List Nat) : V := .str ⟨l.toArray⟩
structure lE where
 no : Int
 req : Bool
 idx : Int
 line : Int
 col : Int
noncomputable def iD (buf : Str) (i l c : Int) : V := .inst 53 ["name", "index", "line", "column", "buffer", "pointer"] [.str "<unicode string>", .int i, .int l, .int c, .str buf, .int i]
noncomputable def lE.mark (b : Str) (k : lE) : V := iD b k.idx k.line k.col
noncomputable def zQ : List Str := ["token_number", "required", "index", "line", "column", "mark"]
noncomputable def lE.vals (b : Str) (k : lE) : List V := [.int k.no, .bool k.req, .int k.idx, .int k.line, .int k.col, k.mark b]
noncomputable def lE.toV (b : Str) (k : lE) : V := .inst 530 zQ (k.vals b)
structure Z where
 buf : Str
 ptr : Int
 rem : List Nat
 line : Int
 col : Int
 done : Bool
 aA : Int
 tokens : List V
 taken : Int
 indent : Int
 aG : List Int
 allow : Bool
 keys : List (Int × lE)
noncomputable def Z.sc (z : Z) (ka : Addr) (ko : Obj) : Sc :=
 { buf := z.buf, ptr := z.ptr, index := z.ptr, line := z.line, col := z.col, done := z.done, aA := z.aA, tokens := z.tokens, taken := z.taken, indent := z.indent, aG := z.aG, allow := z.allow, keys := z.keys.map fun p => (p.1, p.2.toV z.buf), cQ := ka, iW := ko }
noncomputable def Z.mark (z : Z) : V := iD z.buf z.ptr z.line z.col
inductive R (α : Type) where
 | ok (a : α) (z : Z)
 | err (cm pm : V)
 | wall
noncomputable def R.bind {α β : Type} (r : R α) (f : α -> Z -> R β) : R β := match r with | .ok a z => f a z | .err c p => .err c p | .wall => .wall
def R.wp {α : Type} (r : R α) (Q : α -> Z -> Prop) (X : V -> V -> Prop) : Prop := match r with | .ok a z => Q a z | .err c p => X c p | .wall => False
noncomputable def span (p : Nat -> Bool) : List Nat -> Option Nat
 | [] => none
 | c :: r => if p c then (span p r).map (· + 1) else some 0
theorem mG {p : Nat -> Bool} {c : Nat} {r : List Nat} : span p (c :: r) = if p c then (span p r).map (· + 1) else some 0 := rfl
noncomputable def MD : List Nat := [13, 10, 133, 8232, 8233]
noncomputable def QQ : List Nat := [0, 13, 10, 133, 8232, 8233]
noncomputable def pJ : List Nat := [0, 32, 9, 13, 10, 133, 8232, 8233]
noncomputable def QD : List Nat := [0, 32, 13, 10, 133, 8232, 8233]
noncomputable def isIn (l : List Nat) (c : Nat) : Bool := l.contains c
noncomputable def vG (c : Nat) : Bool := (decide (48 <= c) && decide (c <= 57)) || (decide (65 <= c) && decide (c <= 90)) || (decide (97 <= c) && decide (c <= 122))
noncomputable def bA (c : Nat) : Bool := (decide (48 <= c) && decide (c <= 57)) || (decide (65 <= c) && decide (c <= 90)) || (decide (97 <= c) && decide (c <= 122)) || isIn [45, 95] c
noncomputable def MA (c : Nat) : Bool := (decide (48 <= c) && decide (c <= 57)) || (decide (65 <= c) && decide (c <= 90)) || (decide (97 <= c) && decide (c <= 122)) || isIn [45, 59, 47, 63, 58, 64, 38, 61, 43, 36, 44, 95, 46, 33, 126, 42, 39, 40, 41, 91, 93, 37] c
noncomputable def peek (k : Nat) (z : Z) : R Nat := match z.rem[k]? with | some c => .ok c z | none => .wall
noncomputable def aX (z : Z) : R Unit :=
 match z.rem with
 | [] => .wall
 | c :: r =>
  if isIn [10, 133, 8232, 8233] c then .ok () { z with ptr := z.ptr + 1, rem := r, line := z.line + 1, col := 0 }
  else if c = 13 then
   match r with
   | [] => .wall
   | d :: _ => if d = 10 then .ok () { z with ptr := z.ptr + 1, rem := r, col := z.col + 1 } else .ok () { z with ptr := z.ptr + 1, rem := r, line := z.line + 1, col := 0 }
  else if c = 65279 then .ok () { z with ptr := z.ptr + 1, rem := r }
  else .ok () { z with ptr := z.ptr + 1, rem := r, col := z.col + 1 }
noncomputable def fwd : Nat -> Z -> R Unit
 | 0, z => .ok () z
 | n + 1, z => (aX z).bind fun U z => fwd n z
noncomputable def lK (p : Nat -> Bool) (z : Z) : R Unit := match span p z.rem with | some n => fwd n z | none => .wall
noncomputable def push (t : V) (z : Z) : R Unit := if z.tokens.length <= 1000 then .ok () { z with tokens := z.tokens ++ [t] } else .wall
noncomputable def fR (i : Int) (t : V) (z : Z) : R Unit := if 0 <= i /\ i.toNat <= z.tokens.length /\ z.tokens.length <= 1000 then .ok () { z with tokens := z.tokens.take i.toNat ++ t :: z.tokens.drop i.toNat } else .wall
noncomputable def cW (ks : List (Int × lE)) (k : Int) : Option lE := (ks.find? fun kv => decide (kv.1 = k)).map (·.2)
noncomputable def fQ (ks : List (Int × lE)) (k : Int) : List (Int × lE) := ks.filter fun kv => decide (kv.1 ≠ k)
noncomputable def mE (ks : List (Int × lE)) (k : Int) (v : lE) : List (Int × lE) := if ks.any (fun kv => decide (kv.1 = k)) then ks.map (fun kv => if kv.1 = k then (kv.1, v) else kv) else ks ++ [(k, v)]
noncomputable def tk (C : Addr) (s e : V) : V := .inst C ["start_mark", "end_mark"] [s, e]
noncomputable def Ge (C : Addr) (v s e : V) : V := .inst C ["value", "start_mark", "end_mark"] [v, s, e]
noncomputable def Bj (v : V) (pl : Bool) (s e st : V) : V := .inst 499 ["value", "plain", "start_mark", "end_mark", "style"] [v, .bool pl, s, e, st]
noncomputable def bT (z : Z) : R Unit :=
 match cW z.keys z.aA with
 | some k => if k.req = true then .wall else if z.keys.length <= 1000 then .ok () { z with keys := fQ z.keys z.aA } else .wall
 | none => .ok () z
noncomputable def dY (z : Z) : R Unit :=
 if z.allow = true then
  (bT z).bind fun U z1 => if z1.keys.length <= 1000 /\ z1.tokens.length <= 1000 then .ok () { z1 with keys := mE z1.keys z1.aA ⟨z1.taken + z1.tokens.length, decide (z.aA = 0) && decide (z.indent = z.col), z1.ptr, z1.line, z1.col⟩ } else .wall
 else .ok () z
noncomputable def unwind : Nat -> Int -> Z -> R Unit
 | 0, c, z => if c < z.indent then .wall else .ok () z
 | n + 1, c, z => if c < z.indent then
   match z.aG.getLast? with
   | some i => if z.aG.length <= 1000 then (push (tk 326 z.mark z.mark) { z with indent := i, aG := z.aG.dropLast }).bind fun U z => unwind n c z else .wall
   | none => .wall
  else .ok () z
theorem Be {c : Int} : unwind 0 c z = if c < z.indent then .wall else .ok () z := rfl
theorem nZ {n : Nat} {c : Int} : unwind (n + 1) c z = if c < z.indent then
   match z.aG.getLast? with
   | some i => if z.aG.length <= 1000 then (push (tk 326 z.mark z.mark) { z with indent := i, aG := z.aG.dropLast }).bind fun U z => unwind n c z else .wall
   | none => .wall
  else .ok () z := rfl
noncomputable def dK (c : Int) (z : Z) : R Unit := if z.aA = 0 then unwind 4 c z else .ok () z
noncomputable def eR (c : Int) (z : Z) : R Bool := if z.indent < c then if z.aG.length <= 1000 then .ok true { z with aG := z.aG ++ [z.indent], indent := c } else .wall else .ok false z
noncomputable def dX : List Int -> Z -> R Unit
 | [], z => .ok () z
 | l :: r, z =>
  match cW z.keys l with
  | none => .wall
  | some k =>
   if k.line ≠ z.line \/ 1024 < z.ptr - k.idx then
    if k.req = true then .wall else if z.keys.length <= 1000 then dX r { z with keys := fQ z.keys l } else .wall
   else dX r z
theorem mK {l : Int} {r : List Int} : dX (l :: r) z =
  match cW z.keys l with
  | none => .wall
  | some k =>
   if k.line ≠ z.line \/ 1024 < z.ptr - k.idx then
    if k.req = true then .wall else if z.keys.length <= 1000 then dX r { z with keys := fQ z.keys l } else .wall
   else dX r z := rfl
noncomputable def stale (z : Z) : R Unit := if z.keys.length <= 1000 then dX (z.keys.map (·.1)) z else .wall
noncomputable def gM (ks : List (Int × lE)) : Option Int -> List Int -> Option (Option Int)
 | m, [] => some m
 | m, l :: r => match cW ks l with | none => none | some k => gM ks (some (match m with | none => k.no | some i => if k.no < i then k.no else i)) r
theorem sX {ks : List (Int × lE)} {m : Option Int} {l : Int} {r : List Int} : gM ks m (l :: r) = match cW ks l with | none => none | some k => gM ks (some (match m with | none => k.no | some i => if k.no < i then k.no else i)) r := rfl
noncomputable def gG (z : Z) : R Unit :=
 (dK (-1) z).bind fun U z => (bT z).bind fun U z =>
 (push (tk 290 z.mark z.mark) { z with allow := false, keys := [] }).bind fun U z => .ok () { z with done := true }
noncomputable def cB (C : Addr) (z : Z) : R Unit := (aX z).bind fun U z1 => push (tk C z.mark z1.mark) z1
noncomputable def eQ (C : Addr) (z : Z) : R Unit := (dY z).bind fun U z => cB C { z with aA := z.aA + 1, allow := true }
noncomputable def gK (C : Addr) (z : Z) : R Unit := (bT z).bind fun U z => cB C { z with aA := z.aA - 1, allow := false }
noncomputable def hR (z : Z) : R Unit := (bT { z with allow := true }).bind fun U z => cB 422 z
noncomputable def eY (z : Z) : R Unit :=
 if z.aA = 0 then
  if z.allow = true then ((eR z.col z).bind fun b z => if b = true then push (tk 302 z.mark z.mark) z else .ok () z).bind fun U z => (bT { z with allow := true }).bind fun U z => cB 410 z
  else .wall
 else .wall
noncomputable def iK (z : Z) : R Unit :=
 if z.aA = 0 then if z.allow = true then .wall else .err .none z.mark
 else (bT { z with allow := false }).bind fun U z => cB 386 z
noncomputable def eZ (bN : Z) : R Unit :=
 match cW bN.keys bN.aA with
 | some k => if bN.keys.length <= 1000 then
   (fR (k.no - bN.taken) (tk 386 (k.mark bN.buf) (k.mark bN.buf)) { bN with keys := fQ bN.keys bN.aA }).bind fun U z =>
   (if z.aA = 0 then (eR k.col z).bind fun b z => if b = true then fR (k.no - z.taken) (tk 314 (k.mark bN.buf) (k.mark bN.buf)) z else .ok () z else .ok () z).bind fun U z => cB 398 { z with allow := false }
  else .wall
 | none => .wall
noncomputable def lineBreak (z : Z) : R (List Nat) :=
 match z.rem with
 | [] => .wall
 | c :: r => if isIn [13, 10, 133] c then
   if z.rem.take 2 = [13, 10] then (fwd 2 z).bind fun U z => .ok [10] z else (fwd 1 z).bind fun U z => .ok [10] z
  else if isIn [8232, 8233] c then (fwd 1 z).bind fun U z => .ok [c] z else .ok [] z
noncomputable def dH : Nat -> Z -> R Unit
 | 0, _ => .wall
 | n + 1, z => (lK (· == 32) z).bind fun U z => (peek 0 z).bind fun c z => if c = 35 then .wall else
  (lineBreak z).bind fun lb z => if lb = [] then .ok () z else dH n (if z.aA = 0 then { z with allow := true } else z)
theorem iA {n : Nat} : dH (n + 1) z = (lK (· == 32) z).bind fun U z => (peek 0 z).bind fun c z => if c = 35 then .wall else
  (lineBreak z).bind fun lb z => if lb = [] then .ok () z else dH n (if z.aA = 0 then { z with allow := true } else z) := rfl
noncomputable def fT (n : Nat) (z : Z) : R Unit := if z.ptr = 0 then (peek 0 z).bind fun c z => if c = 65279 then .wall else dH n z else dH n z
noncomputable def cX (C : Addr) (z : Z) : R V :=
 (peek 0 z).bind fun U z => (aX z).bind fun U z1 =>
 match span bA z1.rem with
 | none => .wall
 | some 0 => .err z.mark z1.mark
 | some n => (fwd n z1).bind fun U z2 => (peek 0 z2).bind fun c z2 =>
  if isIn [0, 32, 9, 13, 10, 133, 8232, 8233, 63, 58, 44, 93, 125, 37, 64, 96] c then .ok (Ge C (sv (z1.rem.take n)) z.mark z2.mark) z2 else .err z.mark z2.mark
noncomputable def cJ (C : Addr) (z : Z) : R Unit := (dY z).bind fun U z => (cX C { z with allow := false }).bind fun t z => push t z
noncomputable def pC (z : Z) (k : R α) : R α := if z.rem.take 3 = [45, 45, 45] then .wall else if z.rem.take 3 = [46, 46, 46] then .wall else k
noncomputable def fZ (z : Z) : R (List (List Nat)) :=
 match span (fun c => !isIn [39, 34, 92, 0, 32, 9, 13, 10, 133, 8232, 8233] c) z.rem with
 | none => .wall
 | some 0 => .wall
 | some n => (fwd n z).bind fun U z1 => (peek 0 z1).bind fun c z1 => if c = 39 then (peek 1 z1).bind fun d z2 => if d = 39 then .wall else .ok [z.rem.take n] z2 else .wall
noncomputable def cU (z : Z) : R V :=
 (peek 0 z).bind fun q z => if q = 39 then (aX z).bind fun U z1 => (fZ z1).bind fun cs z2 => if cs.flatten.length + cs.length <= 1000000 then (peek 0 z2).bind fun c z3 => if c = 39 then (aX z3).bind fun U z4 => .ok (Bj (sv cs.flatten) false z.mark z4.mark (sv [39])) z4 else .wall else .wall else .wall
noncomputable def cO (z : Z) : R Unit := (dY z).bind fun U z => (cU { z with allow := false }).bind fun t z => push t z
noncomputable def dG (aA : Bool) : List Nat -> Option Nat
 | [] => none
 | c :: r => if isIn pJ c then some 0 else if c = 58 then
   match r with
   | [] => none
   | d :: _ => if isIn (pJ ++ (if aA then [44, 91, 93, 123, 125] else [])) d then some 0 else (dG aA r).map (· + 1)
  else if aA && isIn [44, 63, 91, 93, 123, 125] c then some 0 else (dG aA r).map (· + 1)
theorem tZ {aA : Bool} {c : Nat} {r : List Nat} : dG aA (c :: r) = if isIn pJ c then some 0 else if c = 58 then
   match r with
   | [] => none
   | d :: _ => if isIn (pJ ++ (if aA then [44, 91, 93, 123, 125] else [])) d then some 0 else (dG aA r).map (· + 1)
  else if aA && isIn [44, 63, 91, 93, 123, 125] c then some 0 else (dG aA r).map (· + 1) := rfl
noncomputable def dM (z : Z) : R Bool :=
 match span (· == 32) z.rem with
 | none => .wall
 | some 0 => (peek 0 z).bind fun c z1 =>
  if isIn MD c then (lineBreak z1).bind fun lb z => pC z (if lb = [10] then (peek 0 { z with allow := true }).bind fun d z => if isIn [32, 13, 10, 133, 8232, 8233] d then .wall else .ok true z else .wall) else .ok false z1
 | some _ => .wall
noncomputable def fY (z : Z) : R V :=
 (peek 0 z).bind fun c z => if c = 35 then .wall else
  match dG (z.aA != 0) z.rem with
  | none => .wall
  | some 0 => .wall
  | some k => (fwd k { z with allow := false }).bind fun U z1 => (dM z1).bind fun b z2 => if b = true then (peek 0 z2).bind fun c z2 => if c = 35 then .wall else
   if z2.aA = 0 /\ z2.col < z.indent + 1 then .ok (Bj (sv (z.rem.take k)) true z.mark z1.mark .none) z2 else .wall else .ok (Bj (sv (z.rem.take k)) true z.mark z1.mark .none) z2
noncomputable def fS (z : Z) : R Unit := (dY z).bind fun U z => (fY { z with allow := false }).bind fun t z => push t z
noncomputable def lX : List Nat := [0, 32, 9, 13, 10, 133, 8232, 8233, 45, 63, 58, 44, 91, 93, 123, 125, 35, 38, 42, 33, 124, 62, 39, 34, 37, 64, 96]
noncomputable def fC (c : Nat) (z : Z) : R Bool :=
 if isIn lX c then (peek 1 z).bind fun d z => .ok (!isIn pJ d && (c == 45 || (decide (z.aA = 0) && isIn [63, 58] c))) z else .ok true z
noncomputable def gN (z : Z) : R Bool := if z.aA = 0 then (peek 1 z).bind fun d z => .ok (isIn pJ d) z else .ok true z
noncomputable def fG (c : Nat) (z : Z) : R Unit :=
 if c = 0 then gG z
 else if c = 37 /\ z.col = 0 then .wall
 else if c = 45 /\ z.col = 0 /\ z.rem.take 3 = [45, 45, 45] then .wall
 else if c = 46 /\ z.col = 0 /\ z.rem.take 3 = [46, 46, 46] then .wall
 else if c = 91 then eQ 338 z
 else if c = 123 then .wall
 else if c = 93 then gK 362 z
 else if c = 125 then gK 374 z
 else if c = 44 then hR z
 else (if c = 45 then (peek 1 z).bind fun d z => .ok (isIn pJ d) z else .ok false z).bind fun b z =>
 if b = true then eY z
 else (if c = 63 then gN z else .ok false z).bind fun b z =>
 if b = true then iK z
 else (if c = 58 then gN z else .ok false z).bind fun b z =>
 if b = true then eZ z
 else if c = 42 then cJ 441 z
 else if c = 38 then cJ 460 z
 else if c = 33 then .wall
 else if c = 124 /\ z.aA = 0 then .wall
 else if c = 62 /\ z.aA = 0 then .wall
 else if c = 39 then cO z
 else if c = 34 then .wall
 else (fC c z).bind fun b z => if b = true then fS z else .err .none z.mark
noncomputable def bI (f : Nat) (z : Z) : R Unit := (fT f z).bind fun U z => (stale z).bind fun U z => (dK z.col z).bind fun U z => (peek 0 z).bind fun c z => fG c z
noncomputable def cM (z : Z) : R Bool :=
 if z.done = true then .ok false z else if z.tokens.length <= 1000 then (if z.tokens = [] then .ok true z else (stale z).bind fun U z => match gM z.keys none (z.keys.map (·.1)) with | none => .wall | some m => .ok (m == some z.taken) z) else .wall
noncomputable def eN (f : Nat) : Nat -> Z -> R (Option V)
 | 0, _ => .wall
 | n + 1, z => (cM z).bind fun b z => if b = true then (bI f z).bind fun U z => eN f n z else
  match z.tokens with
  | [] => .ok none z
  | t :: r => if z.tokens.length <= 1000 then .ok (some t) { z with taken := z.taken + 1, tokens := r } else .wall
theorem jL {f n : Nat} : eN f (n + 1) z = (cM z).bind fun b z => if b = true then (bI f z).bind fun U z => eN f n z else
  match z.tokens with
  | [] => .ok none z
  | t :: r => if z.tokens.length <= 1000 then .ok (some t) { z with taken := z.taken + 1, tokens := r } else .wall := rfl
noncomputable def fH (s e en : V) : V := .inst 278 ["start_mark", "end_mark", "encoding"] [s, e, en]
noncomputable def Z.init (text : List Nat) : Z :=
 { buf := ⟨(text ++ [0]).toArray⟩, ptr := 0, rem := text ++ [0], line := 0, col := 0, done := false, aA := 0, tokens := [fH (iD ⟨(text ++ [0]).toArray⟩ 0 0 0) (iD ⟨(text ++ [0]).toArray⟩ 0 0 0) .none], taken := 0, indent := -1, aG := [], allow := true, keys := [] }
noncomputable def kT (f : Nat) : Nat -> Z -> List V -> Option (List V × Option (V × V))
 | 0, _, _ => none
 | n + 1, z, got => match eN f f z with
  | .ok none _ => some (got, none)
  | .ok (some t) z => kT f n z (got ++ [t])
  | .err c p => some (got, some (c, p))
  | .wall => none
theorem Ga {f n : Nat} : kT f (n + 1) z got = match eN f f z with
  | .ok none _ => some (got, none)
  | .ok (some t) z => kT f n z (got ++ [t])
  | .err c p => some (got, some (c, p))
  | .wall => none := rfl
end
section
set_option genInjectivity false
set_option genSizeOf false
noncomputable def jW {α : Type} : List α -> Nat -> Option α
 | [], _ => none
 | a :: r, i =>
  match i with
  | 0 => some a
  | i + 1 => jW r i
theorem aO {α : Type} {x : α} {l : List α} (i : Nat) (h : jW l i = some x) : x ∈ l := by
 induction l generalizing i with
 | nil => cases h
 | cons a r ih =>
  induction i with
  | zero => cases h; exact .head _
  | succ i => exact .tail _ (ih i h)
noncomputable def Mg (p : Str × LV) (i : Nat) : aF -> aF
 | [] => []
 | a :: r =>
  match i with
  | 0 => p :: r
  | i + 1 => a :: Mg p i r
noncomputable def Dp : aF -> Nat -> Str
 | [], _ => ""
 | a :: r, i =>
  match i with
  | 0 => a.1
  | i + 1 => Dp r i
theorem cK.cH {x : Str} {lv : LV} {l : aF} (i : Nat) (hl : Nat.blt i l.length = true) (h : Dp l i = x) : cK x lv l (Mg (x, lv) i l) := by
 induction l generalizing i with
 | nil => cases hl
 | cons a r ih =>
  induction i with
  | zero => induction a; induction h; exact .head
  | succ i => exact .tail (ih i hl h)
noncomputable abbrev pw : Program := PySem.Challenge.pw_te0054_01
structure FD where
 name : Str
 args : Arguments
 body : List Stmt
 scope : Scope
noncomputable def PO : ExceptHandler -> List Stmt
 | .ExceptHandler _ _ b _ => b
noncomputable def zF : FD := ⟨"", ⟨[], [], none, [], [], none, []⟩, [], { kind := .function, names := [], isGenerator := false, isCoroutine := false, more := [] }⟩
noncomputable def Mv : Expr := .Constant .none 0 default
noncomputable def wA : List (List Stmt) × Expr × Pos × FD := ([], Mv, default, zF)
noncomputable def FZ (s : Stmt) : List (List Stmt) × Expr × Pos × FD :=
 Stmt.casesOn s (fun n a b U U U s U U U => ([], Mv, default, ⟨n, a, b, s⟩)) (fun U U U U U U U U U U => wA) (fun U U U b U U U U U U U => ([b], Mv, default, zF)) (fun U U => wA) (fun U U => wA) (fun U e U => ([], e, default, zF)) (fun U U U U U U U => wA) (fun U U U U => wA) (fun U U U U U => wA)
  (fun U U b U U => ([b], Mv, default, zF)) (fun U U U U U => wA) (fun e b U p => ([b], e, p, zF)) (fun e b o p => ([b, o], e, p, zF)) (fun U U U => wA) (fun U U U => wA) (fun U U U => wA) (fun U U U => wA) (fun b hs U U U => (b :: hs.map PO, Mv, default, zF)) (fun U U U U U => wA)
  (fun U U U => wA) (fun U U => wA) (fun U U U U => wA) (fun U U => wA) (fun U U => wA) (fun e U => ([], e, default, zF)) (fun U => wA) (fun U => wA) fun U => wA
noncomputable def Qf (s : Stmt) : List (List Stmt) := (FZ s).1
noncomputable def Ts (s : Stmt) : FD := (FZ s).2.2.2
noncomputable def qZ (b : List Stmt) (i k : Nat) : List Stmt := (Qf (b.getD i (.Pass default))).getD k []
noncomputable def Bc (s : Stmt) : Expr := (FZ s).2.1
noncomputable def Yq (e : Expr) : List Expr :=
 Expr.casesOn e (fun U l U => l) (fun U U U => []) (fun U U U U => []) (fun U U U => []) (fun U U U U => []) (fun U U U U => []) (fun U U U => []) (fun U U U => []) (fun U U U U => []) (fun U U U U => []) (fun U U U U U => []) (fun U U U U => []) (fun U U => []) (fun U U => []) (fun U U => []) (fun U U U U => [])
  (fun U l U U => l) (fun U U U U => []) (fun U U => []) (fun U U U => []) (fun U U U => []) (fun U U U => []) (fun U U => []) (fun U U => []) (fun U U => []) (fun l U U => l) fun U U U U => []
noncomputable def Zb (b : List Stmt) : Stmt := b.getD 0 (.Pass default)
noncomputable def k0 (s : Stmt) : List Stmt := (Qf s).getD 0 []
noncomputable def k1 (s : Stmt) : List Stmt := (Qf s).getD 1 []
noncomputable def BI (s : Stmt) : Pos := (FZ s).2.2.1
noncomputable def Kh (s : Stmt) : List Stmt := (Qf s).getD 0 []
noncomputable def Jk (p : Program) (i : Nat) : Stmt := p.main.body.getD i (.Pass default)
noncomputable def top (i : Nat) : FD := Ts (Jk pw i)
noncomputable def aL (i j : Nat) : FD := Ts ((Kh (Jk pw i)).getD j (.Pass default))
structure Bd (C : Cx) (fd : FD) : Prop where
 cs : C.cs = fd.scope
 hh : C.A.handled = none
theorem Bd.loc {C : Cx} {x : Str} (B : Bd C fd) (e : fd.scope.names.lookup x = some .local) (hd : (x == ("__debug__" : Str)) = false) : aB C x := by
 refine ⟨?_, hd⟩;show (C.cs.names.lookup x) = _;rw [B.cs]; exact e
theorem Bd.glob {C : Cx} {x : Str} (B : Bd C fd) (e : fd.scope.names.lookup x = some .globalImplicit) : C.cs.names.lookup x = some .globalImplicit := by
 rw [B.cs]; exact e
theorem Bd.int {C : Cx} (B : Bd C fd) (k : fd.scope.kind = .function) : interactive C.env = false := by
 show ((C.cs.kind == .module) && _) = false;rw [B.cs, k]; rfl
inductive pU (g : Gl) (f : Addr) (fd : FD) (names : List Str) (k : Nat) (kws : List Str) (iI : List V) : Prop
 | mk (qual dV eW cR : _) (a : xM g f qual fd.args fd.body fd.scope dV eW) (b : ∀ ρ G, cA ρ G iI cR) (c : ∀ vals cT : List Value, vals.length = k -> cT.length = kws.length -> ∀ s : Shared, g.K.In s.heap -> ∀ name kV doc pm an ct,
  BindsTo s (fnOf name qual fd.args fd.body fd.scope dV kV doc pm an eW ct) ⟨vals, kws.zip cT⟩ (names.zip ((vals ++ cT) ++ cR)))
theorem EW.lv {D : Nat} {C : Cx} {X : dW} {loc : aF} {x : Str} {pos : Pos} {v : V} (B : Bd C fd) (i : Nat) (e : fd.scope.names.lookup x = some .local) (hd : (x == ("__debug__" : Str)) = false) (hv : jW loc i = some (x, .val v)) (h : Q v loc σ) :
  EW g D C ρ X (.Name x pos) loc σ Q := EW.var (B.loc e hd) (aO i hv) h
section
variable {D : Nat} {C : Cx} {X : dW} {l : aF} {s : bQ}
theorem yJ.p1 {body orelse : List Stmt} {Q : dD} (h : SW g D C ρ X body l s Q) : yJ g D C ρ X body orelse Q true l s := ⟨fun U => h, fun z => Bool.noConfusion z⟩
theorem yJ.p2 {body orelse : List Stmt} {Q : dD} (h : SW g D C ρ X orelse l s Q) : yJ g D C ρ X body orelse Q false l s := ⟨fun z => Bool.noConfusion z, fun U => h⟩
theorem zN.p1 {r : Expr} {Q : lR} (h : Q false l s) : zN g D C ρ X r Q false l s := ⟨fun U => h, fun z => Bool.noConfusion z⟩
theorem zN.p2 {r : Expr} {Q : lR} (h : BW g D C ρ X r l s Q) : zN g D C ρ X r Q true l s := ⟨fun z => Bool.noConfusion z, fun U => h⟩
theorem zB.p1 {r : Expr} {Q : lR} (h : Q true l s) : zB g D C ρ X r Q true l s := ⟨fun U => h, fun z => Bool.noConfusion z⟩
theorem zB.p2 {r : Expr} {Q : lR} (h : BW g D C ρ X r l s Q) : zB g D C ρ X r Q false l s := ⟨fun z => Bool.noConfusion z, fun U => h⟩
theorem Wt.p1 {body orelse : Expr} (h : EW g D C ρ X body l s Q) : Wt g D C ρ X body orelse Q true l s := ⟨fun U => h, fun z => Bool.noConfusion z⟩
theorem Wt.p2 {body orelse : Expr} (h : EW g D C ρ X orelse l s Q) : Wt g D C ρ X body orelse Q false l s := ⟨fun z => Bool.noConfusion z, fun U => h⟩
theorem Pa.p1 {body : List Stmt} {J : Nat -> aF -> bQ -> Prop} {n : Nat} {Q : dD} (h : SW g D C ρ X body l s (Xu J n Q)) : Pa g D C ρ X body J n Q true l s := ⟨fun U => h, fun z => Bool.noConfusion z⟩
theorem Pa.p2 {body : List Stmt} {J : Nat -> aF -> bQ -> Prop} {n : Nat} {Q : dD} (h : Q .next l s) : Pa g D C ρ X body J n Q false l s := ⟨fun z => Bool.noConfusion z, fun U => h⟩
end
section
variable {D : Nat}
theorem Br.go {X : kP} {f : Addr} {names : List Str} {kws : List (Str × V)} {k : Nat} {args : List V} {Q : jZ} (df : pU g f fd names k (kws.map (·.1)) iI) (others : List Str) (hk : args.length = k)
  (hlen : names.length = ((args ++ kws.map (·.2)) ++ iI).length) (hn : (names ++ others).Nodup) (sH : (names.all fun x => decide (fd.scope.names.lookup x = some .local)) = true)
  (h : ∀ C', Bd C' fd -> SW g D C' ρ (fun x U s => X x s) fd.body (iC names ((args ++ kws.map (·.2)) ++ iI) others) σ (eC Q)) :
  Br g D ρ X f args kws σ Q := by
 obtain ⟨qual, dV, eW, cR, fn, yU, hb⟩ := df;refine Br.intro fn hn hlen yU (fun vals cT h1 h2 s hs name kV doc pm an ct => hb vals cT (h1.trans hk) (by rw [h2, List.length_map]) s hs name kV doc pm an ct) ?_ (fun C' a b c d e i => h C' ⟨a, i⟩);intro x hx;have := List.all_eq_true.mp sH x hx;exact of_decide_eq_true this
theorem FW.go {X : kP} {f : Addr} {fd : FD} {names : List Str} {k : Nat} {args iI : List V} {σ : bQ} {Q : jZ} (df : pU g f fd names k [] iI) (others : List Str) (hk : args.length = k)
  (hlen : names.length = (args ++ iI).length) (hn : (names ++ others).Nodup) (sH : (names.all fun x => decide (fd.scope.names.lookup x = some .local)) = true)
  (h : ∀ C', Bd C' fd -> SW g D C' ρ (fun x U s => X x s) fd.body (iC names (args ++ iI) others) σ (eC Q)) :
  FW g D ρ X f args σ Q := by
 refine Br.go (kws := []) df others hk (by simpa using hlen) hn sH fun C' b => ?_
 simpa using h C' b
end
section
variable {D : Nat} {C : Cx} {X : dW} {loc : aF}
theorem SW.cut {b : List Stmt} {Q : dD} (e : b = Zb b :: b.tail) (h : iB g D C ρ X (Zb b) loc σ (lO g D C ρ X b.tail Q)) : SW g D C ρ X b loc σ Q := by
 rw [e]; exact SW.cons h
theorem SW.hZ {st : Stmt} {Q : dD} (e : st = .If (Bc st) (k0 st) (k1 st) (BI st)) (h : BW g D C ρ X (Bc st) loc σ (yJ g D C ρ X (k0 st) (k1 st) Q)) : iB g D C ρ X st loc σ Q := by
 rw [e]; exact SW.nN h
theorem SW.Sn {st : Stmt} {Q : dD} (e : st = .While (Bc st) (k0 st) [] (BI st)) (J : Nat -> aF -> bQ -> Prop) (n : Nat) (h0 : J n loc σ) (turn : ∀ n loc σ, J n loc σ -> BW g D C ρ X (Bc st) loc σ (Pa g D C ρ X (k0 st) J n Q)) : iB g D C ρ X st loc σ Q := by
 rw [e]; exact SW.nX J n h0 turn
end
theorem SW.gen {D : Nat} {C : Cx} {X : dW} {b : List Stmt} {l : aF} {s : bQ} {Q : dD} (h : ∀ Q' : Fl -> aF -> bQ -> Prop, (∀ f l s, Q f l s -> Q' f l s) -> SW g D C ρ X b l s Q') : SW g D C ρ X b l s Q := h Q fun U U U z => z
noncomputable def oP : List Str := ["context", "context_mark", "problem", "problem_mark", "note"]
def Au (x : uG) (cm pm : V) : Prop := x.cls = 511 /\ x.ns = oP /\ ∃ c p, x.vs = [c, cm, p, pm, .none]
structure Ok (z : Z) : Prop where
 ex : ∃ n : Nat, z.ptr = n /\ z.rem = z.buf.cps.toList.drop n /\ n + z.rem.length = z.buf.length
 sz : z.buf.length <= 100000
 cs : ∀ c ∈ z.buf.cps.toList, c < 16 ^ 8
theorem R.mono {α : Type} {r : R α} {Q Q' : α -> Z -> Prop} {X' : V -> V -> Prop} (H : r.wp Q X) (h : ∀ a z, Q a z -> Q' a z) (hx : ∀ c p, X c p -> X' c p) : r.wp Q' X' := by
 induction r with
 | ok a z => exact h a z H
 | err c p => exact hx c p H
 | wall => exact H
theorem R.yV {α : Type} {c : Prop} [Decidable c] {a b : R α} {Q : α -> Z -> Prop} (h : c) (H : (if c then a else b).wp Q X) : a.wp Q X := (if_pos h : (if c then a else b) = a) ▸ H
theorem R.Oo {α : Type} {c : Prop} [Decidable c] {a b : R α} {Q : α -> Z -> Prop} (h : ¬ c) (H : (if c then a else b).wp Q X) : b.wp Q X := (if_neg h : (if c then a else b) = b) ▸ H
theorem R.aJ {α β : Type} {r : R α} {f : α -> Z -> R β} {Q : β -> Z -> Prop} (H : (r.bind f).wp Q X) : r.wp (fun a z => (f a z).wp Q X) X := by
 induction r with
 | ok a z => exact H
 | err c p => exact H
 | wall => exact H
theorem R.step {α β : Type} {r : R α} {f : α -> Z -> R β} {Q : β -> Z -> Prop} {Q' : α -> Z -> Prop} (H : (r.bind f).wp Q X) (h : ∀ a z, (f a z).wp Q X -> Q' a z) : r.wp Q' X := R.mono (R.aJ H) h fun U U h => h
theorem R.iT {β : Type} {k : Nat} {f : Nat -> Z -> R β} {Q : β -> Z -> Prop} (H : ((peek k z).bind f).wp Q X) : ∃ c, z.rem[k]? = some c /\ (f c z).wp Q X := by
 unfold peek at H;cases e : z.rem[k]? with
 | none => rw [e] at H; exact H.elim
 | some c => rw [e] at H; exact ⟨c, rfl, H⟩
noncomputable abbrev PQ {α : Type} (enc : α -> V) (Q : jZ) : α -> Z -> Prop := fun a z => ∀ ka ko, Ok z -> Q (enc a) (some (z.sc ka ko))
noncomputable abbrev PX (X : kP) : V -> V -> Prop := fun cm pm => ∀ x s, Au x cm pm -> X x s
def Sp (g : Gl) (ρ : bZ) (d : Nat) (f : Addr) (args : List V) {α : Type} (enc : α -> V) (m : Z -> R α) : Prop :=
 ∀ z ka ko (Q : jZ) (X : kP), Ok z -> (m z).wp (PQ enc Q) (PX X) -> FW g d ρ X f (.self :: args) (some (z.sc ka ko)) Q
section
variable {D : Nat} {C : Cx} {X : dW} {loc : aF}
theorem jU {name : Str} {u : V} : ∀ {ns : List Str} {vs : List V} {i : Nat}, ns[i]? = some name -> vs[i]? = some u -> (name, u) ∈ ns.zip vs
 | [], _, i, h, _ => by simp at h
 | n :: ns, [], i, _, h => by simp at h
 | n :: ns, v :: vs, 0, h, h' => by
  simp only [List.getElem?_cons_zero, Option.some.injEq] at h h';rw [h, h']; exact .head _
 | n :: ns, v :: vs, i + 1, h, h' => .tail _ (jU (i := i) (by simpa using h) (by simpa using h'))
theorem EW.fld {name : Str} {pos : Pos} {i : Nat} {u : V} {sc : Sc} (A : eT g 1048 name) (hS : aB C "self") (hi : aD[i]? = some name) (hv : (eA sc)[i]? = some u) (hp : u.plain = true)
  (he : eval (.Attribute (.Name "self" np) name pos) C.env = (do
   let ov ← eval (.Name "self" np) C.env
   standAt pos.atName
   let r ← holding [ov] (getAttr ov name true)
   letTemporaryGo (.Name "self" np) ov r
   pure r))
  (h : Q u (("self", .val .self) :: loc) (some sc)) : EW g D C ρ X (.Attribute (.Name "self" np) name pos) (("self", .val .self) :: loc) (some sc) Q := by
 refine EW.Le A he (EW.var hS (.head _) ⟨rfl, sc, u, rfl, ?_, hp, h⟩);have UE : i < 19 := by
  have := (List.getElem?_eq_some_iff.mp hv).1
  simpa [eA] using this
 exact jU hi hv
end
end
inductive oU (g : Gl) (Cl : Addr) (l : List (Str × Str)) (n : Nat) (iI : List V) : Prop
 | mk (fI qual params body scope dV eW sf cR : _) (a : vY g Cl fI qual params body scope dV eW sf l) (b : ∀ ρ G, cA ρ G iI cR) (c : l.length = n + iI.length) (d : ∀ (vals : List Value), vals.length = n -> ∀ (x : Addr) (s : Shared), g.K.In s.heap -> ∀ name kV doc pm an ct,
  BindsTo s (fnOf name qual params body scope dV kV doc pm an eW ct) ⟨.ref x :: vals, []⟩ ((sf :: l.map (·.2)).zip (.ref x :: (vals ++ cR))))
inductive Ep (g : Gl) (Cl : Addr) (l : List (Str × Str)) (n : Nat) (iI : List V) : Prop
 | mk (fI qual params body scope dV eW sf cR : _) (a : tJ g Cl fI qual params body scope dV eW sf l) (b : ∀ ρ G, cA ρ G iI cR) (c : l.length = n + iI.length) (d : ∀ (vals : List Value), vals.length = n -> ∀ (x : Addr) (s : Shared), g.K.In s.heap -> ∀ name kV doc pm an ct,
  BindsTo s (fnOf name qual params body scope dV kV doc pm an eW ct) ⟨.ref x :: vals, []⟩ ((sf :: l.map (·.2)).zip (.ref x :: (vals ++ cR))))
inductive Qm (g : Gl) (Cl : Addr) (l : List (Str × Str)) (n : Nat) (kn : Str) : Prop
 | mk (fI qual params body scope dV eW sf : _) (a : vY g Cl fI qual params body scope dV eW sf l) (b : l.length = n + 1) (c : ∀ (vals : List Value) (kv : Value), vals.length = n -> ∀ (x : Addr) (s : Shared), g.K.In s.heap -> ∀ name kV doc pm an ct,
  BindsTo s (fnOf name qual params body scope dV kV doc pm an eW ct) ⟨.ref x :: vals, [(kn, kv)]⟩ ((sf :: l.map (·.2)).zip (.ref x :: (vals ++ [kv]))))
noncomputable def ll (l : List Str) : List (Str × Str) := l.map fun x => (x, x)
noncomputable def pe (n : Str) (a : Addr) : Str × Addr := (n, a)
noncomputable def de (f : Addr) (fd : FD) (ns : List Str) (k : Nat) (iI : List V) : Addr × FD × List Str × Nat × List V := (f, fd, ns, k, iI)
noncomputable def ce (a : Addr) (l : List Str) (n : Nat) (iI : List V) : Addr × List Str × Nat × List V := (a, l, n, iI)
noncomputable def Sx : List (Str × Addr) := [(pe "peek" 152), (pe "prefix" 160), (pe "forward" 168), (pe "get_mark" 175), (pe "check_printable" 182), (pe "update" 189), (pe "get_token" 573), (pe "need_more_tokens" 580), (pe "fetch_more_tokens" 587), (pe "next_possible_simple_key" 594), (pe "stale_possible_simple_keys" 601), (pe "save_possible_simple_key" 608), (pe "remove_possible_simple_key" 615), (pe "unwind_indent" 622), (pe "add_indent" 629), (pe "fetch_stream_start" 636), (pe "fetch_stream_end" 643), (pe "fetch_flow_sequence_start" 678), (pe "fetch_flow_collection_start" 692), (pe "fetch_flow_sequence_end" 699), (pe "fetch_flow_mapping_end" 706), (pe "fetch_flow_collection_end" 713), (pe "fetch_flow_entry" 720), (pe "fetch_block_entry" 727), (pe "fetch_key" 734), (pe "fetch_value" 741), (pe "fetch_alias" 748), (pe "fetch_anchor" 755), (pe "fetch_single" 790), (pe "fetch_flow_scalar" 804), (pe "fetch_plain" 811), (pe "check_directive" 818), (pe "check_document_start" 825), (pe "check_document_end" 832), (pe "check_block_entry" 839), (pe "check_key" 846), (pe "check_value" 853), (pe "check_plain" 860), (pe "scan_to_next_token" 867), (pe "scan_anchor" 930), (pe "scan_flow_scalar" 979), (pe "scan_flow_scalar_non_spaces" 989), (pe "scan_plain" 1010), (pe "scan_plain_spaces" 1017), (pe "scan_line_break" 1045)]
noncomputable def DF : List (Addr × FD × List Str × Nat × List V) := [de 152 (aL 8 1) ["self", "index"] 2 [],
 de 152 (aL 8 1) ["self", "index"] 1 [.int 0],
 de 160 (aL 8 2) ["self", "length"] 2 [],
 de 168 (aL 8 3) ["self", "length"] 2 [],
 de 168 (aL 8 3) ["self", "length"] 1 [.int 1],
 de 175 (aL 8 4) ["self"] 1 [],
 de 182 (aL 8 5) ["self", "data"] 2 [],
 de 189 (aL 8 6) ["self", "length"] 2 [],
 de 573 (aL 34 3) ["self"] 1 [],
 de 580 (aL 34 4) ["self"] 1 [],
 de 587 (aL 34 5) ["self"] 1 [],
 de 594 (aL 34 6) ["self"] 1 [],
 de 601 (aL 34 7) ["self"] 1 [],
 de 608 (aL 34 8) ["self"] 1 [],
 de 615 (aL 34 9) ["self"] 1 [],
 de 622 (aL 34 10) ["self", "column"] 2 [],
 de 629 (aL 34 11) ["self", "column"] 2 [],
 de 636 (aL 34 12) ["self"] 1 [],
 de 643 (aL 34 13) ["self"] 1 [],
 de 678 (aL 34 18) ["self"] 1 [],
 de 692 (aL 34 20) ["self", "TokenClass"] 2 [],
 de 699 (aL 34 21) ["self"] 1 [],
 de 706 (aL 34 22) ["self"] 1 [],
 de 713 (aL 34 23) ["self", "TokenClass"] 2 [],
 de 720 (aL 34 24) ["self"] 1 [],
 de 727 (aL 34 25) ["self"] 1 [],
 de 734 (aL 34 26) ["self"] 1 [],
 de 741 (aL 34 27) ["self"] 1 [],
 de 748 (aL 34 28) ["self"] 1 [],
 de 755 (aL 34 29) ["self"] 1 [],
 de 790 (aL 34 34) ["self"] 1 [],
 de 811 (aL 34 37) ["self"] 1 [],
 de 818 (aL 34 38) ["self"] 1 [],
 de 825 (aL 34 39) ["self"] 1 [],
 de 832 (aL 34 40) ["self"] 1 [],
 de 839 (aL 34 41) ["self"] 1 [],
 de 846 (aL 34 42) ["self"] 1 [],
 de 853 (aL 34 43) ["self"] 1 [],
 de 860 (aL 34 44) ["self"] 1 [],
 de 867 (aL 34 45) ["self"] 1 [],
 de 930 (aL 34 54) ["self", "TokenClass"] 2 [],
 de 979 (aL 34 61) ["self", "style"] 2 [],
 de 989 (aL 34 64) ["self", "double", "start_mark"] 3 [],
 de 1010 (aL 34 67) ["self"] 1 [],
 de 1017 (aL 34 68) ["self", "indent", "start_mark"] 3 [],
 de 1045 (aL 34 72) ["self"] 1 [],
 de 130 (top 7) ["ch"] 1 [],
 de 144 (aL 8 0) ["self", "stream"] 2 []]
noncomputable def BB : List Str := ["len", "list", "str", "isinstance", "enumerate", "range", "chr"]
noncomputable def NW : List (Str × Addr) := [(pe "Mark" 53), (pe "ScannerError" 511), (pe "SimpleKey" 530), (pe "StreamEndToken" 290), (pe "BlockSequenceStartToken" 302), (pe "BlockMappingStartToken" 314), (pe "BlockEndToken" 326), (pe "FlowSequenceStartToken" 338), (pe "FlowSequenceEndToken" 362), (pe "FlowMappingEndToken" 374), (pe "KeyToken" 386), (pe "ValueToken" 398), (pe "BlockEntryToken" 410), (pe "FlowEntryToken" 422), (pe "AliasToken" 441), (pe "AnchorToken" 460), (pe "ScalarToken" 499), (pe "_is_printable" 130), (pe "Scanner" 1048), (pe "StreamStartToken" 278)]
noncomputable def BR : List (Addr × List Str × Nat × List V) := [ce 53 ["name", "index", "line", "column", "buffer", "pointer"] 6 [], ce 530 ["token_number", "required", "index", "line", "column", "mark"] 6 [], ce 290 ["start_mark", "end_mark"] 2 [], ce 302 ["start_mark", "end_mark"] 2 [], ce 314 ["start_mark", "end_mark"] 2 [], ce 326 ["start_mark", "end_mark"] 2 [], ce 338 ["start_mark", "end_mark"] 2 [], ce 362 ["start_mark", "end_mark"] 2 [], ce 374 ["start_mark", "end_mark"] 2 [], ce 386 ["start_mark", "end_mark"] 2 [], ce 398 ["start_mark", "end_mark"] 2 [], ce 410 ["start_mark", "end_mark"] 2 [], ce 422 ["start_mark", "end_mark"] 2 [], ce 441 ["value", "start_mark", "end_mark"] 3 [], ce 460 ["value", "start_mark", "end_mark"] 3 [], ce 499 ["value", "plain", "start_mark", "end_mark", "style"] 5 [], ce 499 ["value", "plain", "start_mark", "end_mark", "style"] 4 [.none]]
structure aE (g : Gl) : Prop where
 m : ∀ {n : Str} {f : Addr} (i : Nat), jW Sx i = some (n, f) -> lF g 1048 n f
 d : ∀ {f : Addr} {fd : FD} {ns : List Str} {k : Nat} {iI : List V} (i : Nat), jW DF i = some (f, fd, ns, k, iI) -> pU g f fd ns k [] iI
 n : ∀ {x : Str} (i : Nat), jW BB i = some x -> nsIn g.K mainGlobals x = some none
 gl : ∀ {x : Str} {a : Addr} (i : Nat), jW NW i = some (x, a) -> nsIn g.K mainGlobals x = some (some (.ref a))
 c : ∀ {a : Addr} {l : List Str} {n : Nat} {iI : List V} (i : Nat), jW BR i = some (a, l, n, iI) -> oU g a (ll l) n iI
 attr : ∀ n ∈ aD, eT g 1048 n
 so : mW g 1048
 Fh : ∀ n ∈ aD, takerIn g.K 1048 n = some none
 iS : pU g 804 (aL 34 36) ["self", "style"] 1 ["style"] []
 Uh : ∀ n ∈ zQ, eT g 530 n
 Nn : eT g 53 "index"
 So : lV g 130
 Tu : Qm g 278 (ll ["start_mark", "end_mark", "encoding"]) 2 "encoding"
 Me : Ep g 511 (ll oP) 4 [.none]
section
variable {D : Nat} {C : Cx} {X : dW} {loc : aF}
theorem EW.yS {l : List (Str × Str)} {n : Nat} {x : Str} {pos : Pos} {args : List Expr} (co : oU g Cl l n iI) (hn : args.length = n) (hD : 2 <= D) (hs : aH pos args C.env)
  (h : EW g D C ρ X (.Name x np) loc σ (fun v l1 s => v = .glob (.ref Cl) /\ AW g D C ρ X args l1 s (fun vs l2 s => vs.length = args.length /\ Q (.inst Cl (l.map (·.1)) (vs ++ iI)) l2 s))) :
  EW g D C ρ X (.Call (.Name x np) args [] pos) loc σ Q := by
 obtain ⟨fI, qual, params, body, scope, dV, eW, sf, cR, co, yU, hl, hb⟩ := co;exact EW.mk co hD hs yU (by rw [hl, hn]) (fun vals h => hb vals (h.trans hn)) h
theorem SW.Yf {l : List (Str × Str)} {n : Nat} {x : Str} {jA pos : Pos} {args : List Expr} {Q : dD} (co : Ep g Cl l n iI) (hn : args.length = n) (LD : n <= 1000) (hh : C.A.handled = Option.none) (hD : 2 <= D) (hs : aH jA args C.env)
  (h : EW g D C ρ X (.Name x np) loc σ (fun v l1 s => v = .glob (.ref Cl) /\ AW g D C ρ X args l1 s (fun vs l2 s => vs.length = args.length /\ X ⟨Cl, l.map (·.1), vs ++ iI⟩ l2 s))) :
  iB g D C ρ X (.Raise (some (.Call (.Name x np) args [] jA)) none pos) loc σ Q := by
 obtain ⟨fI, qual, params, body, scope, dV, eW, sf, cR, co, yU, hl, hb⟩ := co;exact SW.raise hh co hD hs yU (by rw [hl, hn]) (by lia) (fun vals h => hb vals (h.trans hn)) h
theorem EW.iG {pos : Pos} (F : aE g) (hS : aB C "self") (h : Q (.str z.buf) (("self", .val .self) :: loc) (some (z.sc ka ko))) :
  EW g D C ρ X (.Attribute (.Name "self" np) "buffer" pos) (("self", .val .self) :: loc) (some (z.sc ka ko)) Q := EW.fld (i := 4) (F.attr _ (by simp [aD])) hS rfl rfl rfl rfl h
theorem EW.fJ {pos : Pos} (F : aE g) (hS : aB C "self") (h : Q (.int z.ptr) (("self", .val .self) :: loc) (some (z.sc ka ko))) :
  EW g D C ρ X (.Attribute (.Name "self" np) "pointer" pos) (("self", .val .self) :: loc) (some (z.sc ka ko)) Q := EW.fld (i := 5) (F.attr _ (by simp [aD])) hS rfl rfl rfl rfl h
theorem EW.yK {pos : Pos} (F : aE g) (hS : aB C "self") (h : Q (.none) (("self", .val .self) :: loc) (some (z.sc ka ko))) :
  EW g D C ρ X (.Attribute (.Name "self" np) "raw_buffer" pos) (("self", .val .self) :: loc) (some (z.sc ka ko)) Q := EW.fld (i := 6) (F.attr _ (by simp [aD])) hS rfl rfl rfl rfl h
theorem EW.Nm {pos : Pos} (F : aE g) (hS : aB C "self") (h : Q (.none) (("self", .val .self) :: loc) (some (z.sc ka ko))) :
  EW g D C ρ X (.Attribute (.Name "self" np) "stream" pos) (("self", .val .self) :: loc) (some (z.sc ka ko)) Q := EW.fld (i := 1) (F.attr _ (by simp [aD])) hS rfl rfl rfl rfl h
theorem EW.Vz {pos : Pos} (F : aE g) (hS : aB C "self") (h : Q (.str "<unicode string>") (("self", .val .self) :: loc) (some (z.sc ka ko))) :
  EW g D C ρ X (.Attribute (.Name "self" np) "name" pos) (("self", .val .self) :: loc) (some (z.sc ka ko)) Q := EW.fld (i := 0) (F.attr _ (by simp [aD])) hS rfl rfl rfl rfl h
theorem EW.rR {pos : Pos} (F : aE g) (hS : aB C "self") (h : Q (.int z.ptr) (("self", .val .self) :: loc) (some (z.sc ka ko))) :
  EW g D C ρ X (.Attribute (.Name "self" np) "index" pos) (("self", .val .self) :: loc) (some (z.sc ka ko)) Q := EW.fld (i := 9) (F.attr _ (by simp [aD])) hS rfl rfl rfl rfl h
theorem EW.Ea {pos : Pos} (F : aE g) (hS : aB C "self") (h : Q (.int z.line) (("self", .val .self) :: loc) (some (z.sc ka ko))) :
  EW g D C ρ X (.Attribute (.Name "self" np) "line" pos) (("self", .val .self) :: loc) (some (z.sc ka ko)) Q := EW.fld (i := 10) (F.attr _ (by simp [aD])) hS rfl rfl rfl rfl h
theorem EW.gI {pos : Pos} (F : aE g) (hS : aB C "self") (h : Q (.int z.col) (("self", .val .self) :: loc) (some (z.sc ka ko))) :
  EW g D C ρ X (.Attribute (.Name "self" np) "column" pos) (("self", .val .self) :: loc) (some (z.sc ka ko)) Q := EW.fld (i := 11) (F.attr _ (by simp [aD])) hS rfl rfl rfl rfl h
theorem EW.Uq {pos : Pos} (F : aE g) (hS : aB C "self") (h : Q (.bool z.done) (("self", .val .self) :: loc) (some (z.sc ka ko))) :
  EW g D C ρ X (.Attribute (.Name "self" np) "done" pos) (("self", .val .self) :: loc) (some (z.sc ka ko)) Q := EW.fld (i := 12) (F.attr _ (by simp [aD])) hS rfl rfl rfl rfl h
theorem EW.aU {pos : Pos} (F : aE g) (hS : aB C "self") (h : Q (.int z.aA) (("self", .val .self) :: loc) (some (z.sc ka ko))) :
  EW g D C ρ X (.Attribute (.Name "self" np) "flow_level" pos) (("self", .val .self) :: loc) (some (z.sc ka ko)) Q := EW.fld (i := 13) (F.attr _ (by simp [aD])) hS rfl rfl rfl rfl h
theorem EW.jV {pos : Pos} (F : aE g) (hS : aB C "self") (h : Q (.toks) (("self", .val .self) :: loc) (some (z.sc ka ko))) :
  EW g D C ρ X (.Attribute (.Name "self" np) "tokens" pos) (("self", .val .self) :: loc) (some (z.sc ka ko)) Q := EW.fld (i := 14) (F.attr _ (by simp [aD])) hS rfl rfl rfl rfl h
theorem EW.gO {pos : Pos} (F : aE g) (hS : aB C "self") (h : Q (.int z.taken) (("self", .val .self) :: loc) (some (z.sc ka ko))) :
  EW g D C ρ X (.Attribute (.Name "self" np) "tokens_taken" pos) (("self", .val .self) :: loc) (some (z.sc ka ko)) Q := EW.fld (i := 15) (F.attr _ (by simp [aD])) hS rfl rfl rfl rfl h
theorem EW.lS {pos : Pos} (F : aE g) (hS : aB C "self") (h : Q (.int z.indent) (("self", .val .self) :: loc) (some (z.sc ka ko))) :
  EW g D C ρ X (.Attribute (.Name "self" np) "indent" pos) (("self", .val .self) :: loc) (some (z.sc ka ko)) Q := EW.fld (i := 16) (F.attr _ (by simp [aD])) hS rfl rfl rfl rfl h
theorem EW.vP {pos : Pos} (F : aE g) (hS : aB C "self") (h : Q (.rC) (("self", .val .self) :: loc) (some (z.sc ka ko))) :
  EW g D C ρ X (.Attribute (.Name "self" np) "indents" pos) (("self", .val .self) :: loc) (some (z.sc ka ko)) Q := EW.fld (i := 17) (F.attr _ (by simp [aD])) hS rfl rfl rfl rfl h
theorem EW.fW {pos : Pos} (F : aE g) (hS : aB C "self") (h : Q (.bool z.allow) (("self", .val .self) :: loc) (some (z.sc ka ko))) :
  EW g D C ρ X (.Attribute (.Name "self" np) "allow_simple_key" pos) (("self", .val .self) :: loc) (some (z.sc ka ko)) Q := EW.fld (i := 18) (F.attr _ (by simp [aD])) hS rfl rfl rfl rfl h
theorem EW.pN {pos : Pos} (F : aE g) (hS : aB C "self") (h : Q (.glob (.ref ka)) (("self", .val .self) :: loc) (some (z.sc ka ko))) :
  EW g D C ρ X (.Attribute (.Name "self" np) "possible_simple_keys" pos) (("self", .val .self) :: loc) (some (z.sc ka ko)) Q := EW.Jj (F.attr _ (by simp [aD])) rfl (EW.var hS (.head _) ⟨rfl, _, rfl, h⟩)
theorem SW.Xt {p pos : Pos} {e : Expr} {Q : dD} (F : aE g) (hS : aB C "self") (hs : swapsWith e (some (.Attribute (.Name "self" np) "done" p)) pos.line C.env = pure false)
  (h : EW g D C ρ X e loc σ (fun v l s => ∃ (b : Bool) (z : Z) (ka : Addr) (ko : Obj) (l' : aF), v = .bool b /\ s = some (z.sc ka ko) /\ l = (("self", .val .self) :: l' : aF) /\ Q .next l (some ({ z with done := b }.sc ka ko)))) :
  iB g D C ρ X (.Assign [.Attribute (.Name "self" np) "done" p] e pos) loc σ Q := by
 refine SW.jY (i := 12) F.so (F.Fh _ (by simp [aD])) hs rfl (by decide) (h.mono fun v l s q => ?_);refine Df q ?_;try clear q;intro b z ka ko l' cN nA zX q;subst cN nA zX;exact EW.var hS (.head _) ⟨rfl, z.sc ka ko, ({ z with done := b } : Z).sc ka ko, rfl, rfl, rfl, rfl, (fL rfl rfl rfl), q⟩
theorem SW.yW {p pos : Pos} {e : Expr} {Q : dD} (F : aE g) (hS : aB C "self") (hs : swapsWith e (some (.Attribute (.Name "self" np) "indent" p)) pos.line C.env = pure false)
  (h : EW g D C ρ X e loc σ (fun v l s => ∃ (b : Int) (z : Z) (ka : Addr) (ko : Obj) (l' : aF), v = .int b /\ s = some (z.sc ka ko) /\ l = (("self", .val .self) :: l' : aF) /\ Q .next l (some ({ z with indent := b }.sc ka ko)))) :
  iB g D C ρ X (.Assign [.Attribute (.Name "self" np) "indent" p] e pos) loc σ Q := by
 refine SW.jY (i := 16) F.so (F.Fh _ (by simp [aD])) hs rfl (by decide) (h.mono fun v l s q => ?_);refine Df q ?_;try clear q;intro b z ka ko l' cN nA zX q;subst cN nA zX;exact EW.var hS (.head _) ⟨rfl, z.sc ka ko, ({ z with indent := b } : Z).sc ka ko, rfl, rfl, rfl, rfl, (fL rfl rfl rfl), q⟩
theorem SW.aQ {p pos : Pos} {e : Expr} {Q : dD} (F : aE g) (hS : aB C "self") (hs : swapsWith e (some (.Attribute (.Name "self" np) "allow_simple_key" p)) pos.line C.env = pure false)
  (h : EW g D C ρ X e loc σ (fun v l s => ∃ (b : Bool) (z : Z) (ka : Addr) (ko : Obj) (l' : aF), v = .bool b /\ s = some (z.sc ka ko) /\ l = (("self", .val .self) :: l' : aF) /\ Q .next l (some ({ z with allow := b }.sc ka ko)))) :
  iB g D C ρ X (.Assign [.Attribute (.Name "self" np) "allow_simple_key" p] e pos) loc σ Q := by
 refine SW.jY (i := 18) F.so (F.Fh _ (by simp [aD])) hs rfl (by decide) (h.mono fun v l s q => ?_);refine Df q ?_;try clear q;intro b z ka ko l' cN nA zX q;subst cN nA zX;exact EW.var hS (.head _) ⟨rfl, z.sc ka ko, ({ z with allow := b } : Z).sc ka ko, rfl, rfl, rfl, rfl, (fL rfl rfl rfl), q⟩
theorem SW.Jv {p pos : Pos} {e : Expr} {Q : dD} (F : aE g) (hS : aB C "self") (hs : swapsWith e (some (.Attribute (.Name "self" np) "column" p)) pos.line C.env = pure false)
  (h : EW g D C ρ X e loc σ (fun v l s => ∃ (b : Int) (z : Z) (ka : Addr) (ko : Obj) (l' : aF), v = .int b /\ s = some (z.sc ka ko) /\ l = (("self", .val .self) :: l' : aF) /\ Q .next l (some ({ z with col := b }.sc ka ko)))) :
  iB g D C ρ X (.Assign [.Attribute (.Name "self" np) "column" p] e pos) loc σ Q := by
 refine SW.jY (i := 11) F.so (F.Fh _ (by simp [aD])) hs rfl (by decide) (h.mono fun v l s q => ?_);refine Df q ?_;try clear q;intro b z ka ko l' cN nA zX q;subst cN nA zX;exact EW.var hS (.head _) ⟨rfl, z.sc ka ko, ({ z with col := b } : Z).sc ka ko, rfl, rfl, rfl, rfl, (fL rfl rfl rfl), q⟩
theorem SW.mL {o : Expr} {e : Expr} {name : Str} {p pos : Pos} {i : Nat} {Q : dD} (hm : eT g 1048 name) (so : mW g 1048) (tk : takerIn g.K 1048 name = some none) (hi : aD[i]? = some name) (Oy : i < 19)
  (h : EW g D C ρ X o loc σ (fun u l s => u = .self /\ ∃ sc a, s = some sc /\ (name, V.int a) ∈ aD.zip (eA sc) /\ EW g D C ρ X e l s (fun v l' s' => s' = s /\ ∃ b gV, v = .int b /\ eA gV = (eA sc).set i (.int (a + b)) /\ gV.tokens = sc.tokens /\ gV.aG = sc.aG /\ (gV.keys = sc.keys /\ gV.cQ = sc.cQ /\ gV.iW = sc.iW) /\ Q .next l' (some gV)))) :
  iB g D C ρ X (.AugAssign (.Attribute o name p) .Add e pos) loc σ Q := by
 refine SW.Ew (i := i) (.inl rfl) hm so tk hi Oy (h.mono fun u l s q => ?_);obtain ⟨e1, sc, a, e2, e3, q⟩ := q;refine ⟨e1, sc, a, e2, e3, q.mono fun v l' s' q => ?_⟩;obtain ⟨e4, b, gV, e5, e6, e7⟩ := q;refine ⟨e4, b, gV, e5, ?_, e7⟩;rw [e6]
 congr 2
theorem SW.Sd {o : Expr} {e : Expr} {name : Str} {p pos : Pos} {i : Nat} {Q : dD} (hm : eT g 1048 name) (so : mW g 1048) (tk : takerIn g.K 1048 name = some none) (hi : aD[i]? = some name) (Oy : i < 19)
  (h : EW g D C ρ X o loc σ (fun u l s => u = .self /\ ∃ sc a, s = some sc /\ (name, V.int a) ∈ aD.zip (eA sc) /\ EW g D C ρ X e l s (fun v l' s' => s' = s /\ ∃ b gV, v = .int b /\ eA gV = (eA sc).set i (.int (a - b)) /\ gV.tokens = sc.tokens /\ gV.aG = sc.aG /\ (gV.keys = sc.keys /\ gV.cQ = sc.cQ /\ gV.iW = sc.iW) /\ Q .next l' (some gV)))) :
  iB g D C ρ X (.AugAssign (.Attribute o name p) .Sub e pos) loc σ Q := by
 refine SW.Ew (i := i) (.inr rfl) hm so tk hi Oy (h.mono fun u l s q => ?_);obtain ⟨e1, sc, a, e2, e3, q⟩ := q;refine ⟨e1, sc, a, e2, e3, q.mono fun v l' s' q => ?_⟩;obtain ⟨e4, b, gV, e5, e6, e7⟩ := q;refine ⟨e4, b, gV, e5, ?_, e7⟩;rw [e6]
 congr 2
theorem SW.Gu {p pos : Pos} {k : Nat} {Q : dD} (F : aE g) (hS : aB C "self") (h : Q .next (("self", .val .self) :: loc) (some ({ z with line := z.line + j }.sc ka ko))) :
  iB g D C ρ X (.AugAssign (.Attribute (.Name "self" np) "line" p) .Add (.Constant (.int j) k cp) pos) (("self", .val .self) :: loc) (some (z.sc ka ko)) Q :=
 SW.mL (i := 10) (F.attr _ (by simp [aD])) F.so (F.Fh _ (by simp [aD])) rfl (by decide) (EW.var hS (.head _) ⟨rfl, z.sc ka ko, z.line, rfl, jU (i := 10) rfl rfl, EW.int ⟨rfl, j, ({ z with line := z.line + j } : Z).sc ka ko, rfl, rfl, rfl, rfl, (fL rfl rfl rfl), h⟩⟩)
theorem SW.zU {p pos : Pos} {k : Nat} {Q : dD} (F : aE g) (hS : aB C "self") (h : Q .next (("self", .val .self) :: loc) (some ({ z with col := z.col + j }.sc ka ko))) :
  iB g D C ρ X (.AugAssign (.Attribute (.Name "self" np) "column" p) .Add (.Constant (.int j) k cp) pos) (("self", .val .self) :: loc) (some (z.sc ka ko)) Q :=
 SW.mL (i := 11) (F.attr _ (by simp [aD])) F.so (F.Fh _ (by simp [aD])) rfl (by decide) (EW.var hS (.head _) ⟨rfl, z.sc ka ko, z.col, rfl, jU (i := 11) rfl rfl, EW.int ⟨rfl, j, ({ z with col := z.col + j } : Z).sc ka ko, rfl, rfl, rfl, rfl, (fL rfl rfl rfl), h⟩⟩)
theorem SW.oD {p pos : Pos} {k : Nat} {Q : dD} (F : aE g) (hS : aB C "self") (h : Q .next (("self", .val .self) :: loc) (some ({ z with taken := z.taken + j }.sc ka ko))) :
  iB g D C ρ X (.AugAssign (.Attribute (.Name "self" np) "tokens_taken" p) .Add (.Constant (.int j) k cp) pos) (("self", .val .self) :: loc) (some (z.sc ka ko)) Q :=
 SW.mL (i := 15) (F.attr _ (by simp [aD])) F.so (F.Fh _ (by simp [aD])) rfl (by decide) (EW.var hS (.head _) ⟨rfl, z.sc ka ko, z.taken, rfl, jU (i := 15) rfl rfl, EW.int ⟨rfl, j, ({ z with taken := z.taken + j } : Z).sc ka ko, rfl, rfl, rfl, rfl, (fL rfl rfl rfl), h⟩⟩)
theorem SW.rG {p pos : Pos} {k : Nat} {Q : dD} (F : aE g) (hS : aB C "self") (h : Q .next (("self", .val .self) :: loc) (some ({ z with aA := z.aA + j }.sc ka ko))) :
  iB g D C ρ X (.AugAssign (.Attribute (.Name "self" np) "flow_level" p) .Add (.Constant (.int j) k cp) pos) (("self", .val .self) :: loc) (some (z.sc ka ko)) Q :=
 SW.mL (i := 13) (F.attr _ (by simp [aD])) F.so (F.Fh _ (by simp [aD])) rfl (by decide) (EW.var hS (.head _) ⟨rfl, z.sc ka ko, z.aA, rfl, jU (i := 13) rfl rfl, EW.int ⟨rfl, j, ({ z with aA := z.aA + j } : Z).sc ka ko, rfl, rfl, rfl, rfl, (fL rfl rfl rfl), h⟩⟩)
theorem SW.rD {p pos : Pos} {k : Nat} {Q : dD} (F : aE g) (hS : aB C "self") (h : Q .next (("self", .val .self) :: loc) (some ({ z with aA := z.aA - j }.sc ka ko))) :
  iB g D C ρ X (.AugAssign (.Attribute (.Name "self" np) "flow_level" p) .Sub (.Constant (.int j) k cp) pos) (("self", .val .self) :: loc) (some (z.sc ka ko)) Q :=
 SW.Sd (i := 13) (F.attr _ (by simp [aD])) F.so (F.Fh _ (by simp [aD])) rfl (by decide) (EW.var hS (.head _) ⟨rfl, z.sc ka ko, z.aA, rfl, jU (i := 13) rfl rfl, EW.int ⟨rfl, j, ({ z with aA := z.aA - j } : Z).sc ka ko, rfl, rfl, rfl, rfl, (fL rfl rfl rfl), h⟩⟩)
end
theorem eH (x : Str) (c : Nat) : Txt.contains x ⟨#[c]⟩ = x.cps.toList.contains c := by
 unfold Txt.contains;rw [StrLaws.found_one];rw [List.contains_eq_mem]
theorem fD {c : Nat} {y : Str} (l : List Nat) {k : Bool -> Prop} (e : y.cps.toList = l) (hk : k (isIn l c)) : tX .In (sv [c]) (.str y) k := by
 show k (Txt.contains y ⟨#[c]⟩);rw [eH, e]; exact hk
theorem rS {c : Nat} {y : Str} (l : List Nat) {k : Bool -> Prop} (e : y.cps.toList = l) (hk : k (!isIn l c)) : tX .NotIn (sv [c]) (.str y) k := by
 show k (!Txt.contains y ⟨#[c]⟩);rw [eH, e]; exact hk
theorem Fs (x y : Str) : (x == y) = decide (x.cps.toList = y.cps.toList) := by
 obtain ⟨⟨x⟩⟩ := x; obtain ⟨⟨y⟩⟩ := y
 by_cases h : x = y
 ·subst h; simp
 ·have : (Str.mk ⟨x⟩ == Str.mk ⟨y⟩) = false := by
   rw [beq_eq_false_iff_ne]; intro e; cases e; exact h rfl
  rw [this]; simp [h]
theorem qI {l : List Nat} {y : Str} (d : List Nat) {k : Bool -> Prop} (e : y.cps.toList = d) (hk : k (decide (l = d))) : tX .Eq (sv l) (.str y) k := by
 show k ((⟨l.toArray⟩ : Str) == y);rw [Fs, e]; exact hk
theorem Kd {l : List Nat} {y : Str} (d : List Nat) {k : Bool -> Prop} (e : y.cps.toList = d) (hk : k (decide (l ≠ d))) : tX .NotEq (sv l) (.str y) k := by
 show k ((⟨l.toArray⟩ : Str) != y);have : ((⟨l.toArray⟩ : Str) != y) = decide (l ≠ d) := by
  rw [bne, Fs, e]; simp
 rw [this]; exact hk
theorem dQ {c : Nat} {y : Str} (d : Nat) {k : Bool -> Prop} (e : y.cps.toList = [d]) (hk : k (decide (c = d))) : tX .Eq (sv [c]) (.str y) k := by
 refine qI [d] e ?_;have : decide ([c] = [d]) = decide (c = d) := by simp
 rw [this]; exact hk
theorem xO {c : Nat} {y : Str} (d : Nat) {k : Bool -> Prop} (e : y.cps.toList = [d]) (hk : k (decide (c ≠ d))) : tX .NotEq (sv [c]) (.str y) k := by
 refine Kd [d] e ?_;have : decide ([c] ≠ [d]) = decide (c ≠ d) := by simp
 rw [this]; exact hk
theorem rU {c d : Nat} {x y : Str} {k : Bool -> Prop} (ex : x.cps.toList = [c]) (e : y.cps.toList = [d]) (hk : k (decide (c <= d))) : tX .LtE (.str x) (.str y) k := by
 show k (!decide (y.cps.toList < x.cps.toList));have : (!decide (y.cps.toList < x.cps.toList)) = decide (c <= d) := by
  rw [e, ex]
  by_cases h : c <= d
  ·have : ¬ [d] < [c] := by intro q; rw [List.cons_lt_cons_iff] at q; exact q.elim (fun q => absurd q (by lia)) fun q => List.not_lt_nil _ q.2
   simp [h, this]
  ·have : [d] < [c] := by rw [List.cons_lt_cons_iff]; exact .inl (by lia)
   simp [h, this]
 rw [this]; exact hk
theorem Dw (l : List Nat) {p : Nat} (hp : p <= l.length) : ∀ m, m <= l.length - p -> ((List.range m).map (p + ·)).filterMap (fun i => l[i]?) = (l.drop p).take m := by
 intro m;induction m with
 | zero => intro _; simp
 | succ m ih =>
  intro hm;rw [List.range_succ, List.map_append, List.filterMap_append, ih (by lia)];have pK : p + m < l.length := by lia
  rw [List.take_add_one, List.getElem?_drop]
  simp [pK]
theorem nM (x : Str) {lo up : Option Int} {p m : Nat} (hp : p <= x.length) (hm : m <= x.length - p) (hi : Builtin.Str.strSliceIndices lo up 1 x.length = (List.range m).map (p + ·)) : Txt.slice x lo up = ⟨((x.cps.toList.drop p).take m).toArray⟩ := by
 obtain ⟨⟨l⟩⟩ := x;have hl : Str.length ⟨⟨l⟩⟩ = l.length := rfl;rw [hl] at hp hm hi;unfold Txt.slice;rw [hl, hi]
 split
 ·rename_i h
  simp only [beq_self_eq_true, Bool.true_and, beq_iff_eq, List.length_map, List.length_range] at h;have MS : l.length = 0 \/ p = 0 := by lia
  rcases MS with h0 | h0
  ·have : l = [] := List.length_eq_zero_iff.mp h0;subst this; simp
  ·subst h0;rw [List.drop_zero, List.take_of_length_le (by show l.length <= m; lia)]
 ·have e : (fun (i : Nat) => (⟨l⟩ : Array Nat)[i]?) = fun i => l[i]? := by funext i; simp
  show Str.mk (List.filterMap (fun (i : Nat) => (⟨l⟩ : Array Nat)[i]?) _).toArray = _;rw [e, Dw l hp m hm]
theorem jT (p q : Nat) : sliceRange (p : Int) (q : Int) 1 = (List.range (q - p)).map (p + ·) := by
 have e : (if (p : Int) < q then ((q : Int) - p + 1 - 1) / 1 else 0).toNat = q - p := by
  split
  ·rw [Int.ediv_one]; lia
  ·lia
 show (List.range (if (p : Int) < q then ((q : Int) - p + 1 - 1) / 1 else 0).toNat).map _ = _;rw [e];exact List.map_congr_left fun k U => by lia
theorem Kj (i l : Nat) : max (0 : Int) (min (if (i : Int) < 0 then (i : Int) + l else i) l) = ((min i l : Nat) : Int) := by
 rw [if_neg (Int.not_lt.mpr (Int.natCast_nonneg i))]
 rcases Nat.le_total i l with h | h
 ·rw [Nat.min_eq_left h, Int.min_eq_left (Int.ofNat_le.mpr h), Int.max_eq_right (Int.natCast_nonneg _)]
 ·rw [Nat.min_eq_right h, Int.min_eq_right (Int.ofNat_le.mpr h), Int.max_eq_right (Int.natCast_nonneg _)]
theorem IC (p n l : Nat) : min (p + n) l - p = min n (l - p) := by
 rw [← Nat.sub_min_sub_right, Nat.add_sub_cancel_left]
theorem Gx (a : Int) (m : Nat) (h : 0 < (m : Int)) : (a % (m : Int)).toNat < m := (Int.toNat_lt (Int.emod_nonneg a (Int.ne_of_gt h))).mpr (Int.emod_lt_of_pos a h)
theorem pW (x : Str) {p n : Nat} (hp : p <= x.length) : Txt.slice x (some (p : Int)) (some ((p : Int) + n)) = ⟨((x.cps.toList.drop p).take n).toArray⟩ := by
 rw [nM x (p := p) (m := min n (x.length - p)) hp (Nat.min_le_right _ _) ?_]
 ·have : (x.cps.toList.drop p).length = x.length - p := List.length_drop ..;rw [← this, ← List.take_eq_take_min]
 ·show sliceRange (max 0 (min (if ((p : Nat) : Int) < 0 then (p : Int) + (x.length : Nat) else p) (x.length : Nat))) (max 0 (min (if (p : Int) + n < 0 then (p : Int) + n + (x.length : Nat) else (p : Int) + n) (x.length : Nat))) 1 = _;rw [Kj p, ← Int.natCast_add p n, Kj (p + n), jT, Nat.min_eq_left hp, IC]
theorem Ok.item (ok : Ok z) {k c : Nat} (h : z.rem[k]? = some c) : fitsSsize (z.ptr + k) = true /\ -(z.buf.length : Int) <= z.ptr + k /\ z.ptr + k < z.buf.length /\ Txt.item z.buf (z.ptr + k) = ⟨#[c]⟩ := by
 refine fO ok.ex fun n e1 e2 e3 => ?_;have hk : k < z.rem.length := (List.getElem?_eq_some_iff.mp h).1;have hs := ok.sz;have pK : z.ptr + k < z.buf.length := by lia
 have h0 : 0 <= z.ptr + k := by lia
 refine ⟨?_, by lia, pK, ?_⟩
 ·unfold fitsSsize;have h1 : ¬ (z.ptr + (k : Int) < -2 ^ 63) := by lia
  have h2 : ¬ (z.ptr + (k : Int) ≥ 2 ^ 63) := by lia
  simp only [h1, h2, decide_false, Bool.or_self, Bool.not_false]
 ·rw [item_meets ⟨h0, pK⟩];have : (z.ptr + ↑k).toNat = n + k := by lia
  rw [this];rw [e2, List.getElem?_drop] at h;rw [Array.getD_eq_getD_getElem?, ← Array.getElem?_toList, h]
  rfl
section
variable {D : Nat}
theorem Pl (F : aE g) {k c : Nat} (ok : Ok z) (hc : z.rem[k]? = some c) {X : kP} {Q : jZ} (h : Q (sv [c]) (some (z.sc ka ko))) :
  FW g 0 ρ X 152 [.self, .int k] (some (z.sc ka ko)) Q := by
 refine FW.go (F.d 0 rfl) [] rfl rfl (by decide) (by decide +kernel) fun C' B => ?_;have hS : aB C' "self" := B.loc rfl rfl;refine SW.cut rfl (SW.Ul ?_);refine SW.cut rfl (SW.ret ?_);refine EW.kE (fun U U U U => rfl) (fun U U U => rfl) ?_;refine EW.iG F hS ?_;refine EW.add ?_;refine EW.fJ F hS ?_;refine EW.var (B.loc rfl rfl) (.tail _ (.head _)) ?_;refine Ht (ok.item hc) fun h1 h2 h3 h4 => ?_;refine ⟨_, _, rfl, rfl, z.buf, _, rfl, rfl, h1, h2, h3, ?_⟩;rw [h4];exact h
theorem EW.call {C : Cx} {X : dW} {loc : aF} {D' : Nat} {pos : Pos} {name : Str} {args : List Expr} {f : Addr} {sc : Sc} (hh : C.A.handled = Option.none) (m : lF g 1048 name f) (hn : name ∉ aD) (hD : D' + 1 <= D) (hS : aB C "self") (he : bS (.Name "self" np) name apos pos args C.env) (hs : aH pos args C.env)
  (h : AW g D C ρ X args (("self", .val .self) :: loc) (some sc) (fun vs l' s' => FW g D' ρ (fun x s => X x l' s) f (.self :: vs) s' (fun r s2 => Q r l' s2))) :
  EW g D C ρ X (.Call (.Attribute (.Name "self" np) name apos) args [] pos) (("self", .val .self) :: loc) (some sc) Q :=
 EW.Ab hh m hn hD he hs (EW.var hS (.head _) ⟨rfl, rfl, h⟩)
theorem Ki (F : aE g) {c : Nat} (ok : Ok z) (hc : z.rem[0]? = some c) {X : kP} {Q : jZ} (h : Q (sv [c]) (some (z.sc ka ko))) :
  FW g 0 ρ X 152 [.self] (some (z.sc ka ko)) Q := by
 refine FW.go (F.d 1 rfl) [] rfl rfl (by decide) (by decide +kernel) fun C' B => ?_;have hS : aB C' "self" := B.loc rfl rfl;refine SW.cut rfl (SW.Ul ?_);refine SW.cut rfl (SW.ret ?_);refine EW.kE (fun U U U U => rfl) (fun U U U => rfl) ?_;refine EW.iG F hS ?_;refine EW.add ?_;refine EW.fJ F hS ?_;refine EW.var (B.loc rfl rfl) (.tail _ (.head _)) ?_;refine Ht (ok.item hc) fun h1 h2 h3 h4 => ?_;refine ⟨_, _, rfl, rfl, z.buf, _, rfl, rfl, h1, h2, h3, ?_⟩;rw [show z.ptr + 0 = z.ptr + ((0 : Nat) : Int) from rfl, h4];exact h
theorem vK (F : aE g) {v : V} {X : kP} {Q : jZ} (h : Q .none (some (z.sc ka ko))) :
  FW g 0 ρ X 189 [.self, v] (some (z.sc ka ko)) Q := by
 refine FW.go (F.d 7 rfl) [] rfl rfl (by decide) (by decide +kernel) fun C' B => ?_;have hS : aB C' "self" := B.loc rfl rfl;refine SW.cut rfl (SW.hZ rfl (BW.bC rfl ?_));refine EW.yK F hS ?_;refine EW.none ?_;refine ⟨fun U => ?_, fun h => by cases h⟩;exact SW.cut rfl (SW.AI h)
theorem Pj (F : aE g) {X : kP} {Q : jZ} (h : Q z.mark (some (z.sc ka ko))) :
  FW g 2 ρ X 175 [.self] (some (z.sc ka ko)) Q := by
 refine FW.go (F.d 5 rfl) [] rfl rfl (by decide) (by decide +kernel) fun C' B => ?_;have hS : aB C' "self" := B.loc rfl rfl;refine SW.cut rfl (SW.hZ rfl (BW.bC rfl ?_));refine EW.Nm F hS ?_;refine EW.none ?_;refine ⟨fun U => ?_, fun h => by cases h⟩;refine SW.cut rfl (SW.ret (EW.yS (F.c 0 rfl) rfl (by decide) rfl ?_));refine EW.glob (F.gl 0 rfl) (B.glob rfl) rfl ⟨rfl, ?_⟩;refine EW.Vz F hS ?_;refine EW.rR F hS ?_;refine EW.Ea F hS ?_;refine EW.gI F hS ?_;refine EW.iG F hS ?_;refine EW.fJ F hS ?_;exact ⟨rfl, h⟩
theorem Hn (F : aE g) (k : Nat) (ok : Ok z) {X : kP} {Q : jZ} (h : Q (sv (z.rem.take k)) (some (z.sc ka ko))) :
  FW g 1 ρ X 160 [.self, .int k] (some (z.sc ka ko)) Q := by
 refine FW.go (F.d 2 rfl) [] rfl rfl (by decide) (by decide +kernel) fun C' B => ?_;have hS : aB C' "self" := B.loc rfl rfl;have fin : SW g 1 C' ρ (fun x U s => X x s) ((aL 8 2).body.drop 1) [("self", .val .self), ("length", .val (.int k))] (some (z.sc ka ko)) (eC Q) := by
  refine SW.cut rfl (SW.ret ?_);refine EW.tH (fun U U U => rfl) (fun U U U => rfl) ?_;refine EW.iG F hS ?_;refine EW.fJ F hS ?_;refine EW.add ?_;refine EW.fJ F hS ?_;refine EW.lv B 1 rfl rfl rfl ?_;refine fO ok.ex fun n e1 e2 e3 => ?_;have hs := ok.sz;refine ⟨_, _, rfl, rfl, z.buf, _, _, rfl, rfl, rfl, by unfold sizeLine; lia, ?_⟩;rw [e1, pW z.buf (by lia), ← e2];exact h
 refine SW.cut rfl (SW.hZ rfl (BW.bC rfl ?_));refine EW.add ?_;refine EW.fJ F hS ?_;refine EW.lv B 1 rfl rfl rfl ?_;refine ⟨_, _, rfl, rfl, ?_⟩;refine EW.len rfl (EW.builtin (F.n 0 rfl) rfl (by decide) (B.glob rfl) rfl ⟨rfl, ?_⟩);refine EW.iG F hS ?_;refine ⟨by have := ok.sz; unfold sizeLine; lia, ?_⟩;refine ⟨fun U => ?_, fun U => SW.nil fin⟩;refine SW.cut rfl (SW.expr (B.int rfl) rfl ?_);refine EW.call B.hh (F.m 5 rfl) (by decide +kernel) (D' := 0) (by decide) hS ⟨_, rfl⟩ rfl ?_;refine EW.lv B 1 rfl rfl rfl ?_;refine vK F ?_;exact ⟨rfl, SW.nil fin⟩
end
section
variable {D : Nat}
theorem AW.mono {C : Cx} {X : dW} : ∀ {args : List Expr} {loc : aF} {σ : bQ} {Q Q' : List V -> aF -> bQ -> Prop}, AW g D C ρ X args loc σ Q -> (∀ vs l s, Q vs l s -> Q' vs l s) -> AW g D C ρ X args loc σ Q'
 | [], _, _, _, _, h, k => k _ _ _ h
 | _ :: _, _, _, _, _, h, k => EW.mono h fun U U U h => AW.mono h fun U U U h => k _ _ _ h
theorem Ok.SR (ok : Ok z) {c : Nat} {r : List Nat} (e : z.rem = c :: r) {z' : Z} (e1 : z'.buf = z.buf) (e2 : z'.ptr = z.ptr + 1) (e3 : z'.rem = r) : Ok z' := by
 refine fO ok.ex fun n a b d => ?_;refine ⟨(nF (n + 1) ?_ ?_ ?_), ?_, by rw [e1]; exact ok.cs⟩
 ·rw [e2, a]; rfl
 ·rw [e3, e1];have : z.buf.cps.toList.drop (n + 1) = (z.buf.cps.toList.drop n).drop 1 := by rw [List.drop_drop]
  rw [this, ← b, e]; rfl
 ·rw [e3, e1]; rw [e] at d; simp only [List.length_cons] at d; lia
 ·rw [e1]; exact ok.sz
theorem Ok.same {z' : Z} (ok : Ok z) (e1 : z'.buf = z.buf) (e2 : z'.ptr = z.ptr) (e3 : z'.rem = z.rem) : Ok z' := by
 refine fO ok.ex fun n a b d => ?_;exact ⟨(nF n (e2.trans a) (by rw [e3, e1]; exact b) (by rw [e3, e1]; exact d)), by rw [e1]; exact ok.sz, by rw [e1]; exact ok.cs⟩
theorem Oc (ok : Ok z) : z.buf.length <= sizeLine := by have := ok.sz; unfold sizeLine; lia
theorem wU (F : aE g) {C : Cx} {X : dW} (B : Bd C (aL 8 3)) {m : Nat} {lv : LV} (ok : Ok z) {Q : dD} {P : Z -> Prop} (H : (aX z).wp (fun U z => P z) (fun U U => True))
  (h : ∀ z' lv ka ko, Ok z' -> P z' -> Q .next [("self", .val .self), ("length", .val (.int (m : Int))), ("ch", lv)] (some (z'.sc ka ko))) :
  SW g 1 C ρ X (qZ (aL 8 3).body 1 0) [("self", .val .self), ("length", .val (.int ((m + 1 : Nat) : Int))), ("ch", lv)] (some (z.sc ka ko)) Q := by
 have hS : aB C "self" := B.loc rfl rfl;cases e : z.rem with
 | nil => unfold aX at H; rw [e] at H; exact H.elim
 | cons c r =>
 unfold aX at H; rw [e] at H; dsimp only at H;have hc : z.rem[0]? = some c := by rw [e]; rfl
 refine Ht (ok.item hc) fun h1 h2 h3 h4 => ?_;rw [show z.ptr + ((0 : Nat) : Int) = z.ptr by omega] at h1 h2 h3 h4;refine SW.cut rfl (SW.assign rfl (B.loc (x := "ch") rfl rfl).1 ?_);refine EW.kE (fun U U U U => rfl) (fun U U U => rfl) ?_;refine EW.iG F hS ?_;refine EW.fJ F hS ?_;refine ⟨z.buf, _, rfl, rfl, h1, h2, h3, _, .cH 2 rfl rfl, ?_⟩;rw [h4];refine SW.cut rfl (SW.mL (i := 5) (F.attr _ (by simp [aD])) F.so (F.Fh _ (by simp [aD])) rfl (by decide) (EW.var hS (.head _) ⟨rfl, z.sc ka ko, z.ptr, rfl, jU (i := 5) rfl rfl, EW.int ⟨rfl, 1, { z.sc ka ko with ptr := z.ptr + 1 }, rfl, rfl, rfl, rfl, (fL rfl rfl rfl), ?_⟩⟩))
 refine SW.cut rfl (SW.mL (i := 9) (F.attr _ (by simp [aD])) F.so (F.Fh _ (by simp [aD])) rfl (by decide) (EW.var hS (.head _) ⟨rfl, { z.sc ka ko with ptr := z.ptr + 1 }, z.ptr, rfl, jU (i := 9) rfl rfl, EW.int ⟨rfl, 1, ({ z with ptr := z.ptr + 1, rem := r } : Z).sc ka ko, rfl, rfl, rfl, rfl, (fL rfl rfl rfl), ?_⟩⟩))
 have FY : Ok { z with ptr := z.ptr + 1, rem := r } := ok.SR e rfl rfl rfl
 have fin : ∀ z', Ok z' -> P z' -> SW g 1 C ρ X ((qZ (aL 8 3).body 1 0).drop 4) [("self", .val .self), ("length", .val (.int ((m + 1 : Nat) : Int))), ("ch", .val (sv [c]))] (some (z'.sc ka ko)) Q := by
  intro z' Ao hP;refine SW.cut rfl (SW.Xa (B.loc (x := "length") rfl rfl).1 (aO 1 rfl) (EW.int ⟨1, rfl, _, .cH 1 rfl rfl, SW.nil ?_⟩));rw [show (((m + 1 : Nat) : Int) - 1) = (m : Int) by omega];exact h z' _ ka ko Ao hP
 have nl : P { z with ptr := z.ptr + 1, rem := r, line := z.line + 1, col := 0 } -> SW g 1 C ρ X (qZ (qZ (aL 8 3).body 1 0) 3 0) [("self", .val .self), ("length", .val (.int ((m + 1 : Nat) : Int))), ("ch", .val (sv [c]))] (some (({ z with ptr := z.ptr + 1, rem := r } : Z).sc ka ko))
   (lO g 1 C ρ X ((qZ (aL 8 3).body 1 0).drop 4) Q) := by
  intro hP;refine SW.cut rfl (SW.Gu F hS ?_);refine SW.cut rfl (SW.Jv F hS rfl (EW.int (lP _ _ ka ko _ rfl rfl rfl (SW.nil ?_))));exact fin _ (FY.same rfl rfl rfl) hP
 have el : (if c = 65279 then P { z with ptr := z.ptr + 1, rem := r } else P { z with ptr := z.ptr + 1, rem := r, col := z.col + 1 }) -> SW g 1 C ρ X (qZ (qZ (aL 8 3).body 1 0) 3 1) [("self", .val .self), ("length", .val (.int ((m + 1 : Nat) : Int))), ("ch", .val (sv [c]))] (some (({ z with ptr := z.ptr + 1, rem := r } : Z).sc ka ko))
   (lO g 1 C ρ X ((qZ (aL 8 3).body 1 0).drop 4) Q) := by
  intro hP;refine SW.cut rfl (SW.hZ rfl (BW.bC rfl ?_));refine EW.var (B.loc rfl rfl) (.tail _ (.tail _ (.head _))) ?_;refine EW.str ?_;refine xO 65279 rfl ⟨fun hb => ?_, fun hb => ?_⟩
  ·rw [if_neg (of_decide_eq_true hb)] at hP;refine SW.cut rfl (SW.zU F hS (SW.nil (SW.nil ?_)));exact fin _ (FY.same rfl rfl rfl) hP
  ·rw [if_pos (by simpa using hb)] at hP;exact SW.nil (SW.nil (fin _ FY hP))
 refine SW.cut rfl (SW.hZ rfl (BW.yT (BW.bC rfl ?_)));refine EW.var (B.loc rfl rfl) (.tail _ (.tail _ (.head _))) ?_;refine EW.str ?_;refine fD [10, 133, 8232, 8233] rfl ⟨fun hb => ?_, fun hb => ?_⟩
 ·refine ⟨fun U => ?_, fun h => by cases h⟩;rw [if_pos hb] at H;exact nl H
 rw [if_neg (by rw [hb]; decide)] at H;refine BW.Ie (BW.jH (BW.bC rfl ?_));refine EW.var (B.loc rfl rfl) (.tail _ (.tail _ (.head _))) ?_;refine EW.str ?_;refine dQ 13 rfl ⟨fun hc => ?_, fun hc => ?_⟩
 ·rw [if_neg (of_decide_eq_false hc)] at H;refine ⟨fun h => (by cases h), fun U => ?_⟩;refine el ?_
  split
  ·rename_i q; rw [if_pos q] at H; exact H
  ·rename_i q; rw [if_neg q] at H; exact H
 ·have hc := of_decide_eq_true hc;rw [if_pos hc] at H;induction r with
  | nil => exact H.elim
  | cons d r' =>
  dsimp only at H;refine Ht (FY.item (k := 0) (c := d) rfl) fun h1 h2 h3 h4 => ?_;refine BW.oY (BW.bC rfl ?_);refine EW.kE (fun U U U U => rfl) (fun U U U => rfl) ?_;refine EW.iG F hS ?_;refine EW.fJ F hS ?_;rw [show ({ z with ptr := z.ptr + 1, rem := d :: r' } : Z).ptr + ((0 : Nat) : Int) = z.ptr + 1 by show z.ptr + 1 + 0 = _; omega] at h1 h2 h3 h4
  refine (zS z.buf _ rfl rfl h1 h2 h3 ?_);rw [h4];refine EW.str ?_;refine xO 10 rfl ⟨fun hb => ?_, fun hb => ?_⟩
  ·rw [if_neg (of_decide_eq_true hb)] at H;exact nl H
  ·rw [if_pos (by simpa using hb)] at H;refine el ?_;rw [if_neg (by omega)];exact H
theorem sD {P : Z -> Prop} (H : (aX z).wp (fun U z => P z) X) : (aX z).wp (fun U z => P z) (fun U U => True) := by
 refine R.mono H (fun U U h => h) (fun U U U => trivial)
theorem oA (F : aE g) {C' : Cx} (B : Bd C' (aL 8 3)) {n : Nat} (ok : Ok z) {X : kP} {Q : jZ} {Xw : V -> V -> Prop} (H : (fwd n z).wp (fun U z' => ∀ ka ko, Ok z' -> Q .none (some (z'.sc ka ko))) Xw) :
  SW g 1 C' ρ (fun x U s => X x s) (aL 8 3).body [("self", .val .self), ("length", .val (.int n)), ("ch", .un)] (some (z.sc ka ko)) (eC Q) := by
 have hS : aB C' "self" := B.loc rfl rfl;have fin : SW g 1 C' ρ (fun x U s => X x s) ((aL 8 3).body.drop 1) [("self", .val .self), ("length", .val (.int n)), ("ch", .un)] (some (z.sc ka ko)) (eC Q) := by
  refine SW.cut rfl (SW.Sn rfl (fun m l s => ∃ z lv ka ko, l = ([("self", .val .self), ("length", .val (.int (m : Int))), ("ch", lv)] : aF) /\ s = some (Z.sc z ka ko) /\ Ok z /\ (fwd m z).wp (fun U z' => ∀ ka ko, Ok z' -> Q .none (some (z'.sc ka ko))) Xw) n (HM z _ ka ko rfl rfl ok H) ?_)
  rintro m l s ⟨z, lv, ka, ko, rfl, rfl, ok, H⟩
  refine BW.val (fun U => rfl) (EW.var (B.loc rfl rfl) (.tail _ (.head _)) ?_);induction m with
  | zero =>
   refine ⟨fun h => (by cases h), fun U => SW.nil (H ka ko ok)⟩
  | succ m =>
   refine ⟨fun U => ?_, fun h => ?_⟩
   ·refine wU F B ok (P := fun z => (fwd m z).wp (fun U z' => ∀ ka ko, Ok z' -> Q .none (some (z'.sc ka ko))) Xw) (sD (R.aJ H)) ?_;intro z' lv ka ko Ao hP;exact ⟨m, by omega, z', lv, ka, ko, rfl, rfl, Ao, hP⟩
   ·exfalso
    have : (((m + 1 : Nat) : Int) != 0) = true := by rw [bne_iff_ne]; omega
    rw [this] at h; cases h
 refine SW.cut rfl (SW.hZ rfl (BW.bC rfl ?_));refine EW.add ?_;refine EW.add ?_;refine EW.fJ F hS ?_;refine EW.lv B 1 rfl rfl rfl ?_;refine ⟨_, _, rfl, rfl, ?_⟩;refine EW.int ⟨_, _, rfl, rfl, ?_⟩;refine EW.len rfl (EW.builtin (F.n 0 rfl) rfl (by decide) (B.glob rfl) rfl ⟨rfl, ?_⟩);refine EW.iG F hS ?_;refine ⟨Oc ok, ?_⟩;refine ⟨fun U => ?_, fun U => SW.nil fin⟩;refine SW.cut rfl (SW.expr (B.int rfl) rfl ?_);refine EW.call B.hh (F.m 5 rfl) (by decide +kernel) (D' := 0) (by decide) hS ⟨_, rfl⟩ rfl ?_;refine EW.add ?_;refine EW.lv B 1 rfl rfl rfl ?_;refine EW.int ⟨_, _, rfl, rfl, ?_⟩;refine vK F ?_;exact ⟨rfl, SW.nil fin⟩
theorem Ec (F : aE g) {n : Nat} (ok : Ok z) {X : kP} {Q : jZ} {Xw : V -> V -> Prop} (H : (fwd n z).wp (fun U z' => ∀ ka ko, Ok z' -> Q .none (some (z'.sc ka ko))) Xw) :
  FW g 1 ρ X 168 [.self, .int n] (some (z.sc ka ko)) Q :=
 FW.go (F.d 3 rfl) ["ch"] rfl rfl (by decide) (by decide +kernel) fun C' B => oA F B ok H
theorem Af (F : aE g) (ok : Ok z) {X : kP} {Q : jZ} {Xw : V -> V -> Prop} (H : (fwd 1 z).wp (fun U z' => ∀ ka ko, Ok z' -> Q .none (some (z'.sc ka ko))) Xw) :
  FW g 1 ρ X 168 [.self] (some (z.sc ka ko)) Q :=
 FW.go (F.d 4 rfl) ["ch"] rfl rfl (by decide) (by decide +kernel) fun C' B => oA F B (n := 1) ok H
theorem Rr {P : Unit -> Z -> Prop} (H : (aX z).wp P X) : (fwd 1 z).wp P X := by
 change ((aX z).bind fun U z => fwd 0 z).wp P X;cases e : aX z with
 | ok a z => rw [e] at H; exact H
 | err c p => rw [e] at H; exact H
 | wall => rw [e] at H; exact H
section
variable {C : Cx} {X : dW} {loc : aF} {pos pos' : Pos}
noncomputable abbrev gH : Str × LV := ("self", .val .self)
inductive DS (Q : nG) (v : V) (l : aF) (s : bQ) : Prop
 | mk (k c : Nat) (z : Z) (ka : Addr) (ko : Obj) (ev : v = .int k) (es : s = some (z.sc ka ko)) (ok : Ok z) (hc : z.rem[k]? = some c) (h : Q (sv [c]) l s)
inductive DP (Q : nG) (v : V) (l : aF) (s : bQ) : Prop
 | mk (k : Nat) (z : Z) (ka : Addr) (ko : Obj) (ev : v = .int k) (es : s = some (z.sc ka ko)) (ok : Ok z) (h : Q (sv (z.rem.take k)) l s)
inductive KD (z : Z) (ka : Addr) (ko : Obj) (loc : aF) (P : Z -> Prop) (Xw : V -> V -> Prop) (v : V) (l : aF) (s : bQ) : Prop
 | mk (k : Nat) (ev : v = .int k) (es : s = some (z.sc ka ko)) (el : l = gH :: loc) (H : (fwd k z).wp (fun U z => P z) Xw)
noncomputable def SN {α : Type} (enc : α -> V) (Q : nG) (l : aF) : α -> Z -> Prop := fun a z' => ∀ ka ko, Ok z' -> Q (enc a) l (some (z'.sc ka ko))
noncomputable def QW (X : dW) (l : aF) : V -> V -> Prop := fun cm pm => ∀ x s, Au x cm pm -> X x l s
inductive MN {α : Type} (m : Z -> R α) (enc : α -> V) (sL : List V) (Q : nG) (X : dW) (vs : List V) (l : aF) (s : bQ) : Prop
 | mk (z : Z) (ka : Addr) (ko : Obj) (ev : vs = sL) (es : s = some (z.sc ka ko)) (ok : Ok z) (H : (m z).wp (SN enc Q l) (QW X l))
theorem EW.jJ {c : Nat} (F : aE g) (B : Bd C fd) (hD : 1 <= D) (hS : aB C "self") (he : bS (.Name "self" np) "peek" apos pos [] C.env) (ok : Ok z) (hc : z.rem[0]? = some c) (h : Q (sv [c]) (gH :: loc) (some (z.sc ka ko))) :
  EW g D C ρ X (.Call (.Attribute (.Name "self" np) "peek" apos) [] [] pos) (gH :: loc) (some (z.sc ka ko)) Q :=
 EW.call B.hh (F.m 0 rfl) (by decide +kernel) hD hS he rfl (Ki F ok hc h)
theorem EW.peekA {e : Expr} (F : aE g) (B : Bd C fd) (hD : 1 <= D) (hS : aB C "self") (he : bS (.Name "self" np) "peek" apos pos [e] C.env) (hs : aH pos [e] C.env)
  (h : EW g D C ρ X e (gH :: loc) (some (z.sc ka ko)) (DS Q)) :
  EW g D C ρ X (.Call (.Attribute (.Name "self" np) "peek" apos) [e] [] pos) (gH :: loc) (some (z.sc ka ko)) Q := by
 refine EW.call B.hh (F.m 0 rfl) (by decide +kernel) hD hS he hs (h.mono fun v l s q => ?_);obtain ⟨k, c, z, ka, ko, rfl, rfl, ok, hc, q⟩ := q;exact Pl F ok hc q
theorem EW.kA {e : Expr} (F : aE g) (B : Bd C fd) (hD : 2 <= D) (hS : aB C "self") (he : bS (.Name "self" np) "prefix" apos pos [e] C.env) (hs : aH pos [e] C.env)
  (h : EW g D C ρ X e (gH :: loc) (some (z.sc ka ko)) (DP Q)) :
  EW g D C ρ X (.Call (.Attribute (.Name "self" np) "prefix" apos) [e] [] pos) (gH :: loc) (some (z.sc ka ko)) Q := by
 refine EW.call B.hh (F.m 1 rfl) (by decide +kernel) hD hS he hs (h.mono fun v l s q => ?_);obtain ⟨k, z, ka, ko, rfl, rfl, ok, q⟩ := q;exact Hn F k ok q
theorem EW.mark (F : aE g) (B : Bd C fd) (hD : 3 <= D) (hS : aB C "self") (he : bS (.Name "self" np) "get_mark" apos pos [] C.env) (h : Q z.mark (gH :: loc) (some (z.sc ka ko))) :
  EW g D C ρ X (.Call (.Attribute (.Name "self" np) "get_mark" apos) [] [] pos) (gH :: loc) (some (z.sc ka ko)) Q :=
 EW.call B.hh (F.m 3 rfl) (by decide +kernel) hD hS he rfl (Pj F h)
theorem SW.rJ {Q : dD} {P : Z -> Prop} {Xw : V -> V -> Prop} (F : aE g) (B : Bd C fd) (hD : 2 <= D) (hS : aB C "self") (he : bS (.Name "self" np) "forward" apos pos [] C.env) (ok : Ok z) (H : (aX z).wp (fun U z => P z) Xw) (h : ∀ z' ka ko, Ok z' -> P z' -> Q .next (gH :: loc) (some (z'.sc ka ko)))
  (hi : interactive C.env = false) : iB g D C ρ X (.Expr (.Call (.Attribute (.Name "self" np) "forward" apos) [] [] pos) pos') (gH :: loc) (some (z.sc ka ko)) Q := by
 refine SW.expr hi rfl (EW.call B.hh (F.m 2 rfl) (by decide +kernel) hD hS he rfl (Af F ok (Rr (R.mono H (fun U z' p ka ko Ao => ?_) fun U U x => x))));exact ⟨rfl, h z' ka ko Ao p⟩
theorem SW.Jo {Q : dD} {P : Z -> Prop} {Xw : V -> V -> Prop} {e : Expr} (F : aE g) (B : Bd C fd) (hD : 2 <= D) (hS : aB C "self") (he : bS (.Name "self" np) "forward" apos pos [e] C.env) (hs : aH pos [e] C.env) (hi : interactive C.env = false)
  (hv : EW g D C ρ X e (gH :: loc) (some (z.sc ka ko)) (KD z ka ko loc P Xw)) (ok : Ok z) (h : ∀ z' ka ko, Ok z' -> P z' -> Q .next (gH :: loc) (some (z'.sc ka ko))) :
  iB g D C ρ X (.Expr (.Call (.Attribute (.Name "self" np) "forward" apos) [e] [] pos) pos') (gH :: loc) (some (z.sc ka ko)) Q := by
 refine SW.expr hi rfl (EW.call B.hh (F.m 2 rfl) (by decide +kernel) hD hS he hs (hv.mono fun v l s q => ?_));obtain ⟨k, rfl, rfl, rfl, H⟩ := q;refine Ec F ok (R.mono H (fun U z' p ka ko Ao => ?_) fun U U x => x);exact ⟨rfl, h z' ka ko Ao p⟩
theorem EW.sp {α : Type} {m : Z -> R α} {enc : α -> V} {d : Nat} {f : Addr} {sL : List V} {name : Str} {args : List Expr} (S : Sp g ρ d f sL enc m) (M : lF g 1048 name f) (B : Bd C fd) (hD : d + 1 <= D) (hS : aB C "self") (hn : name ∉ aD) (he : bS (.Name "self" np) name apos pos args C.env) (hs : aH pos args C.env)
  (h : AW g D C ρ X args (gH :: loc) (some (z.sc ka ko)) (MN m enc sL Q X)) :
  EW g D C ρ X (.Call (.Attribute (.Name "self" np) name apos) args [] pos) (gH :: loc) (some (z.sc ka ko)) Q := by
 refine EW.call B.hh M hn hD hS he hs ?_;refine AW.mono h fun vs l s q => ?_;obtain ⟨z, ka, ko, rfl, rfl, ok, H⟩ := q;exact S z ka ko _ _ ok H
theorem SW.sp {α : Type} {m : Z -> R α} {enc : α -> V} {d : Nat} {f : Addr} {sL : List V} {name : Str} {args : List Expr} {Q : dD} (S : Sp g ρ d f sL enc m) (M : lF g 1048 name f) (B : Bd C fd) (hD : d + 1 <= D) (hS : aB C "self") (hn : name ∉ aD) (he : bS (.Name "self" np) name apos pos args C.env) (hs : aH pos args C.env) (hi : interactive C.env = false)
  (Zi : ∀ a, (enc a).small = true)
  (h : AW g D C ρ X args (gH :: loc) (some (z.sc ka ko)) (MN m enc sL (fun U => Q .next) X)) (zY : swapsWith (.Call (.Attribute (.Name "self" np) name apos) args [] pos) none pos'.line C.env = pure false) :
  iB g D C ρ X (.Expr (.Call (.Attribute (.Name "self" np) name apos) args [] pos) pos') (gH :: loc) (some (z.sc ka ko)) Q := by
 refine SW.expr hi zY (EW.sp S M B hD hS hn he hs (AW.mono h fun vs l s q => ?_));obtain ⟨z, ka, ko, e1, e2, ok, H⟩ := q;refine ⟨z, ka, ko, e1, e2, ok, R.mono H (fun a z' p ka ko Ao => ?_) fun U U x => x⟩;exact ⟨Zi a, p ka ko Ao⟩
end
end
theorem oX (b : Str) (k : Int) : ∀ ks : List (Int × lE), oV (ks.map fun p => (p.1, p.2.toV b)) k = (cW ks k).map (lE.toV b)
 | [] => rfl
 | (j, v) :: r => by
  have ih := oX b k r;unfold oV cW at ih ⊢;rw [List.map_cons, List.find?_cons, List.find?_cons]
  by_cases e : j = k
  ·simp [e]
  ·simpa [e] using ih
theorem Nu (b : Str) (k : Int) (ks : List (Int × lE)) : Il (ks.map fun p => (p.1, p.2.toV b)) k = (fQ ks k).map fun p => (p.1, p.2.toV b) := by
 unfold Il fQ;rw [List.filter_map]; rfl
theorem Jy (b : Str) (k : Int) (v : lE) (ks : List (Int × lE)) : Iq (ks.map fun p => (p.1, p.2.toV b)) k (v.toV b) = (mE ks k v).map fun p => (p.1, p.2.toV b) := by
 unfold Iq mE;rw [List.any_map];have e : ((fun kv : Int × V => decide (kv.1 = k)) ∘ fun p : Int × lE => (p.1, p.2.toV b)) = fun kv => decide (kv.1 = k) := rfl;rw [e]
 split
 ·rw [List.map_map, List.map_map];refine List.map_congr_left fun p U => ?_
  by_cases h : p.1 = k <;> simp [h]
 ·simp
section
variable {D : Nat}
section
variable {C : Cx} {X : dW} {loc : aF} {Qg qT pos pos' : Pos}
inductive GR (z : Z) (ka : Addr) (ko : Obj) (loc : aF) (Q : lR) (a : V) (l : aF) (s : bQ) : Prop
 | mk (k : Int) (ea : a = .int k) (el : l = gH :: loc) (es : s = some (z.sc ka ko)) (h : Q (cW z.keys k).isSome l s)
inductive Vx (z : Z) (ka : Addr) (ko : Obj) (Q : nG) (a : V) (l : aF) (s : bQ) : Prop
 | mk (k : Int) (key : lE) (ea : a = .int k) (es : s = some (z.sc ka ko)) (hk : cW z.keys k = some key) (h : Q (key.toV z.buf) l s)
inductive EO (z : Z) (ka : Addr) (ko : Obj) (Q : dD) (a : V) (l : aF) (s : bQ) : Prop
 | mk (k : Int) (ea : a = .int k) (es : s = some (z.sc ka ko)) (hk : (cW z.keys k).isSome = true) (hl : z.keys.length <= 1000) (h : ∀ ob, Q .next l (some (({ z with keys := fQ z.keys k } : Z).sc ka ob)))
inductive EE (z : Z) (ka : Addr) (ko : Obj) (key : lE) (Q : dD) (a : V) (l : aF) (s : bQ) : Prop
 | mk (k : Int) (ea : a = .int k) (es : s = some (z.sc ka ko)) (hl : z.keys.length <= 1000) (h : ∀ ob, Q .next l (some (({ z with keys := mE z.keys k key } : Z).sc ka ob)))
inductive AV (g : Gl) (D : Nat) (C : Cx) (ρ : bZ) (X : dW) (z : Z) (ka : Addr) (ko : Obj) (loc : aF) (e : Expr) (Q : dD) (v : V) (l : aF) (s : bQ) : Prop
 | mk (key : lE) (ev : v = lE.toV z.buf key) (el : l = gH :: loc) (es : s = some (z.sc ka ko)) (h : EW g D C ρ X e l s (EE z ka ko key Q))
inductive JK (X : dW) (vs : List V) (l : aF) (s : bQ) : Prop
 | mk (c cm p pm : V) (ev : vs = [c, cm, p, pm]) (h : ∀ x, Au x cm pm -> X x l s)
theorem BW.NT {e : Expr} {Q : lR} (F : aE g) (hS : aB C "self") (hm : behindInMarks .In (.Attribute (.Name "self" Qg) "possible_simple_keys" qT) = false)
  (h : EW g D C ρ X e (gH :: loc) (some (z.sc ka ko)) (GR z ka ko loc Q)) :
  BW g D C ρ X (.Compare e [.In] [.Attribute (.Name "self" Qg) "possible_simple_keys" qT] pos) (gH :: loc) (some (z.sc ka ko)) Q := by
 refine BW.Xd hm (h.mono fun a l s q => ?_);obtain ⟨k, rfl, rfl, rfl, q⟩ := q;refine EW.pN F hS (Zv k _ rfl rfl rfl ?_);have : (oV (z.sc ka ko).keys k).isSome = (cW z.keys k).isSome := by
  show (oV (z.keys.map fun p => (p.1, p.2.toV z.buf)) k).isSome = _;rw [oX]; cases cW z.keys k <;> rfl
 rw [this]; exact q
theorem EW.Fc {e : Expr} (F : aE g) (hS : aB C "self")
  (hs : ∀ a i u, subscripted e false (.ref a) (.int i u) = operate [.ref a, .int i u] (getItem (.ref a) (.int i u)))
  (h : EW g D C ρ X e (gH :: loc) (some (z.sc ka ko)) (Vx z ka ko Q)) :
  EW g D C ρ X (.Subscript (.Attribute (.Name "self" Qg) "possible_simple_keys" qT) e pos) (gH :: loc) (some (z.sc ka ko)) Q := by
 refine EW.Ml hs (EW.pN F hS (h.mono fun a l s q => ?_));obtain ⟨k, key, rfl, rfl, hk, q⟩ := q;refine (Vu k _ _ rfl rfl rfl ?_ q);show oV (z.keys.map fun p => (p.1, p.2.toV z.buf)) k = _;rw [oX, hk]; rfl
theorem SW.Wa {e : Expr} {Q : dD} (F : aE g) (hS : aB C "self")
  (h : EW g D C ρ X e (gH :: loc) (some (z.sc ka ko)) (EO z ka ko Q)) :
  iB g D C ρ X (.Delete [.Subscript (.Attribute (.Name "self" Qg) "possible_simple_keys" qT) e pos] pos') (gH :: loc) (some (z.sc ka ko)) Q := by
 refine SW.Px (EW.pN F hS (h.mono fun a l s q => ?_));obtain ⟨k, rfl, rfl, hk, hl, q⟩ := q;refine (zS k _ rfl rfl rfl ?_ ?_ (fun ob => ?_))
 ·show (oV (z.keys.map fun p => (p.1, p.2.toV z.buf)) k).isSome = true;rw [oX]; cases e : cW z.keys k with
  | none => rw [e] at hk; cases hk
  | some _ => rfl
 ·show (z.keys.map _).length <= _;rw [List.length_map]; unfold sizeLine; lia
 ·have := q ob;have e : ({ z.sc ka ko with keys := Il (z.sc ka ko).keys k, iW := ob } : Sc) = ({ z with keys := fQ z.keys k } : Z).sc ka ob := by
   unfold Z.sc; simp only [Nu]
  rw [e]; exact this
theorem SW.KH {e es : Expr} {Q : dD} (F : aE g) (hS : aB C "self") (zY : swapsWith es (some (.Subscript (.Attribute (.Name "self" Qg) "possible_simple_keys" qT) e pos)) pos'.line C.env = pure false)
  (h : EW g D C ρ X es (gH :: loc) (some (z.sc ka ko)) (AV g D C ρ X z ka ko loc e Q)) :
  iB g D C ρ X (.Assign [.Subscript (.Attribute (.Name "self" Qg) "possible_simple_keys" qT) e pos] es pos') (gH :: loc) (some (z.sc ka ko)) Q := by
 refine SW.Rk zY (h.mono fun v l s q => ?_);obtain ⟨key, rfl, rfl, rfl, q⟩ := q;refine EW.pN F hS (q.mono fun a l s q => ?_);obtain ⟨k, rfl, rfl, hl, q⟩ := q;refine (Wv k _ rfl rfl rfl ?_ (fun ob => ?_))
 ·show (z.keys.map _).length <= _;rw [List.length_map]; unfold sizeLine; lia
 ·have := q ob;have e : ({ z.sc ka ko with keys := Iq (z.sc ka ko).keys k (key.toV z.buf), iW := ob } : Sc) = ({ z with keys := mE z.keys k key } : Z).sc ka ob := by
   unfold Z.sc; simp only [Jy]
  rw [e]; exact this
theorem EW.jX {x name : Str} {i : Nat} {u : V} {key : lE} {b : Str} (F : aE g) (hx : aB C x) (hv : (x, LV.val (key.toV b)) ∈ loc) (hi : zQ[i]? = some name) (hu : (key.vals b)[i]? = some u) (hp : u.plain = true)
  (he : eval (.Attribute (.Name x np) name pos) C.env = (do
   let ov ← eval (.Name x np) C.env
   standAt pos.atName
   let r ← holding [ov] (getAttr ov name true)
   letTemporaryGo (.Name x np) ov r
   pure r))
  (h : Q u loc σ) : EW g D C ρ X (.Attribute (.Name x np) name pos) loc σ Q :=
 EW.kU he (EW.var hx hv (BV 530 zQ (key.vals b) u rfl (F.Uh _ (List.mem_of_getElem? hi)) (by decide) (jU hi hu) hp h))
theorem SW.err {x : Str} {jA : Pos} {args : List Expr} {Q : dD} (F : aE g) (B : Bd C fd) (hD : 2 <= D) (hn : args.length = 4) (hs : aH jA args C.env) (hx : x = "ScannerError") (Gk : fd.scope.names.lookup x = some .globalImplicit)
  (h : AW g D C ρ X args loc σ (JK X)) :
  iB g D C ρ X (.Raise (some (.Call (.Name x np) args [] jA)) none pos) loc σ Q := by
 subst hx;refine SW.Yf F.Me hn (by decide) B.hh hD hs (EW.glob (F.gl 1 rfl) (B.glob Gk) rfl ⟨rfl, AW.mono h fun vs l s q => ?_⟩);obtain ⟨c, cm, p, pm, rfl, q⟩ := q;exact ⟨by rw [hn]; rfl, q _ ⟨rfl, rfl, c, p, rfl⟩⟩
end
theorem pG (F : aE g) : Sp g ρ 2 1045 [] sv lineBreak := by
 intro z ka ko Q X ok H;refine FW.go (F.d 45 rfl) ["ch"] rfl rfl (by decide) (by decide +kernel) fun C' B => ?_;have hS : aB C' "self" := B.loc rfl rfl;unfold lineBreak at H;cases e : z.rem with
 | nil => rw [e] at H; exact H.elim
 | cons c r =>
 rw [e] at H; dsimp only at H;have hc : z.rem[0]? = some c := by rw [e]; rfl
 refine SW.cut rfl (SW.assign rfl (B.loc (x := "ch") rfl rfl).1 (EW.jJ F B (by decide) hS ⟨_, rfl⟩ ok hc ⟨_, .cH 1 rfl rfl, ?_⟩));refine SW.cut rfl (SW.hZ rfl (BW.bC rfl ?_));refine EW.lv B 1 rfl rfl rfl (EW.str ?_);refine fD [13, 10, 133] rfl ⟨fun hb => ?_, fun hb => ?_⟩
 ·rw [if_pos hb] at H;refine SW.cut rfl (SW.hZ rfl (BW.bC rfl ?_));refine EW.kA F B (by decide) hS ⟨_, rfl⟩ rfl (EW.int ⟨2, z, ka, ko, rfl, rfl, ok, ?_⟩);refine EW.str (qI [13, 10] rfl ⟨fun hb => ?_, fun hb => ?_⟩)
  ·rw [e] at hb;rw [if_pos (of_decide_eq_true hb)] at H;have H := R.aJ H;refine SW.cut rfl (SW.Jo F B (by decide) hS ⟨_, rfl⟩ rfl (B.int rfl) (EW.int ⟨2, rfl, rfl, rfl, H⟩) ok fun z' ka ko Ao H => SW.nil ?_);exact SW.cut rfl (SW.ret (EW.str (H ka ko Ao)))
  ·rw [e] at hb;rw [if_neg (of_decide_eq_false hb)] at H;refine SW.cut rfl (SW.rJ F B (by decide) hS ⟨_, rfl⟩ ok (R.aJ (f := fun U z => fwd 0 z) (R.aJ H)) (fun z' ka ko Ao H => SW.nil ?_) (B.int rfl));exact SW.cut rfl (SW.ret (EW.str (H ka ko Ao)))
 ·rw [if_neg (by rw [hb]; decide)] at H;refine SW.cut rfl (SW.hZ rfl (BW.bC rfl ?_));refine EW.var (B.loc rfl rfl) (.tail _ (.head _)) (EW.str ?_);refine fD [8232, 8233] rfl ⟨fun hb => ?_, fun hb => ?_⟩
  ·rw [if_pos hb] at H;refine SW.cut rfl (SW.rJ F B (by decide) hS ⟨_, rfl⟩ ok (R.aJ (f := fun U z => fwd 0 z) (R.aJ H)) (fun z' ka ko Ao H => ?_) (B.int rfl));exact SW.cut rfl (SW.ret (EW.var (B.loc rfl rfl) (.tail _ (.head _)) (H ka ko Ao)))
  ·rw [if_neg (by rw [hb]; decide)] at H;exact SW.nil (SW.nil (SW.cut rfl (SW.ret (EW.str (H ka ko ok)))))
theorem jC (F : aE g) : Sp g ρ 3 615 [] (fun U => V.none) bT := by
 intro z ka ko Q X ok H;refine FW.go (F.d 14 rfl) ["key"] rfl rfl (by decide) (by decide +kernel) fun C' B => ?_;have hS : aB C' "self" := B.loc rfl rfl;unfold bT at H;refine SW.cut rfl (SW.hZ rfl (BW.NT F hS rfl (EW.aU F hS ⟨_, rfl, rfl, rfl, ?_⟩)));cases e : cW z.keys z.aA with
 | none =>
  rw [e] at H;exact ⟨fun h => (by cases h), fun U => SW.nil (SW.nil (H ka ko ok))⟩
 | some k =>
  rw [e] at H; dsimp only at H;refine ⟨fun U => ?_, fun h => by cases h⟩;refine SW.cut rfl (SW.assign rfl (B.loc (x := "key") rfl rfl).1 (EW.Fc F hS (fun U U U => rfl) (EW.aU F hS ⟨_, k, rfl, rfl, e, _, .cH 1 rfl rfl, ?_⟩)));refine SW.cut rfl (SW.hZ rfl (BW.val (fun U => rfl) (EW.jX (i := 1) F (B.loc rfl rfl) (aO 1 rfl) rfl rfl rfl rfl ⟨fun hb => ?_, fun hb => ?_⟩)))
  ·rw [if_pos hb] at H; exact H.elim
  ·rw [if_neg (by rw [hb]; decide)] at H
   by_cases hl : z.keys.length <= 1000
   ·rw [if_pos hl] at H;refine SW.nil (SW.cut rfl (SW.Wa F hS (EW.aU F hS ⟨_, rfl, rfl, by rw [e]; rfl, hl, fun ob => SW.nil (SW.nil ?_)⟩)));exact H ka ob (ok.same rfl rfl rfl)
   ·rw [if_neg hl] at H; exact H.elim
end
theorem R.Ss {α : Type} {t : V} {f : Unit -> Z -> R α} {Q : α -> Z -> Prop} (H : ((push t z).bind f).wp Q X) : z.tokens.length <= 1000 /\ (f () { z with tokens := z.tokens ++ [t] }).wp Q X := by
 unfold push at H
 by_cases h : z.tokens.length <= 1000
 ·rw [if_pos h] at H; exact ⟨h, H⟩
 ·rw [if_neg h] at H; exact H.elim
theorem R.jS {t : V} {Q : Unit -> Z -> Prop} (H : (push t z).wp Q X) : z.tokens.length <= 1000 /\ Q () { z with tokens := z.tokens ++ [t] } := by
 unfold push at H
 by_cases h : z.tokens.length <= 1000
 ·rw [if_pos h] at H; exact ⟨h, H⟩
 ·rw [if_neg h] at H; exact H.elim
section
variable {D : Nat}
section
variable {C : Cx} {X : dW} {loc : aF} {Qg ap qT pos pos' : Pos}
inductive CC (Q : dD) (v : V) (l : aF) (s : bQ) : Prop
 | mk (z : Z) (ka : Addr) (ko : Obj) (es : s = some (z.sc ka ko)) (hl : z.tokens.length <= 1000) (h : Q .next l (some (({ z with tokens := z.tokens ++ [v] } : Z).sc ka ko)))
inductive HQ (Q : dD) (iv v : V) (l : aF) (s : bQ) : Prop
 | mk (i : Int) (z : Z) (ka : Addr) (ko : Obj) (ei : iv = .int i) (es : s = some (z.sc ka ko)) (h0 : 0 <= i) (h1 : i.toNat <= z.tokens.length) (hl : z.tokens.length <= 1000) (h : Q .next l (some (({ z with tokens := z.tokens.take i.toNat ++ v :: z.tokens.drop i.toNat } : Z).sc ka ko)))
theorem SW.push {e : Expr} {Q : dD} (F : aE g) (hS : aB C "self") (hi : interactive C.env = false) (he : bS (.Attribute (.Name "self" np) "tokens" ap) "append" apos pos [e] C.env) (hs : aH pos [e] C.env)
  (zY : swapsWith (.Call (.Attribute (.Attribute (.Name "self" np) "tokens" ap) "append" apos) [e] [] pos) none pos'.line C.env = pure false)
  (h : EW g D C ρ X e (gH :: loc) (some (z.sc ka ko)) (CC Q)) :
  iB g D C ρ X (.Expr (.Call (.Attribute (.Attribute (.Name "self" np) "tokens" ap) "append" apos) [e] [] pos) pos') (gH :: loc) (some (z.sc ka ko)) Q := by
 refine SW.expr hi zY (EW.Hx he hs (EW.jV F hS (fL rfl rfl (h.mono fun v l s q => ?_))));obtain ⟨z, ka, ko, rfl, hl, q⟩ := q;exact ⟨_, rfl, by show z.tokens.length <= _; unfold sizeLine; lia, rfl, q⟩
theorem SW.insert {ei e : Expr} {Q : dD} (F : aE g) (hS : aB C "self") (hi : interactive C.env = false) (he : bS (.Attribute (.Name "self" np) "tokens" ap) "insert" apos pos [ei, e] C.env) (hs : aH pos [ei, e] C.env)
  (zY : swapsWith (.Call (.Attribute (.Attribute (.Name "self" np) "tokens" ap) "insert" apos) [ei, e] [] pos) none pos'.line C.env = pure false)
  (h : EW g D C ρ X ei (gH :: loc) (some (z.sc ka ko)) (Bx g D C ρ X e (HQ Q))) :
  iB g D C ρ X (.Expr (.Call (.Attribute (.Attribute (.Name "self" np) "tokens" ap) "insert" apos) [ei, e] [] pos) pos') (gH :: loc) (some (z.sc ka ko)) Q := by
 refine SW.expr hi zY (EW.Hg he hs (EW.jV F hS (fL rfl rfl (h.mono fun iv l s q => q.mono fun v l s q => ?_))));obtain ⟨i, z, ka, ko, rfl, rfl, h0, h1, hl, qq⟩ := q;exact ⟨_, i, rfl, rfl, h0, h1, by show z.tokens.length <= _; unfold sizeLine; lia, rfl, qq⟩
end
theorem oB (F : aE g) : Sp g ρ 4 608 [] (fun U => V.none) dY := by
 intro z ka ko Q X ok H;refine FW.go (F.d 13 rfl) ["required", "token_number", "key"] rfl rfl (by decide) (by decide +kernel) fun C' B => ?_;have hS : aB C' "self" := B.loc rfl rfl;unfold dY at H;have go : SW g 4 C' ρ (fun x U s => X x s) ((aL 34 8).body.drop 1) [gH, ("required", .val (.bool (decide (z.aA = 0) && decide (z.indent = z.col)))), ("token_number", .un), ("key", .un)] (some (z.sc ka ko)) (eC Q) := by
  refine SW.cut rfl (SW.hZ rfl (BW.val (fun U => rfl) (EW.fW F hS ⟨fun hb => ?_, fun hb => ?_⟩)))
  ·rw [if_pos hb] at H;have H := R.aJ H;refine SW.cut rfl (SW.sp (jC F) (F.m 12 rfl) B (by decide) hS (by decide +kernel) ⟨_, rfl⟩ rfl (B.int rfl) (fun U => rfl) ⟨z, ka, ko, rfl, rfl, ok, R.mono H (fun a z1 H ka ko ok => ?_) fun U U x => x⟩ rfl)
   by_cases hl : z1.keys.length <= 1000 /\ z1.tokens.length <= 1000
   ·rw [if_pos hl] at H;refine SW.cut rfl (SW.assign rfl (B.loc (x := "token_number") rfl rfl).1 (EW.add (EW.gO F hS (EW.len rfl (EW.builtin (F.n 0 rfl) rfl (by decide) (B.glob rfl) rfl ⟨rfl, ?_⟩)))));refine EW.jV F hS ⟨_, rfl, by have := hl.2; show z1.tokens.length <= _; unfold sizeLine; lia, _, _, rfl, rfl, _, .cH 2 rfl rfl, ?_⟩;refine SW.cut rfl (SW.assign rfl (B.loc (x := "key") rfl rfl).1 (EW.yS (F.c 1 rfl) rfl (by decide) rfl (EW.glob (F.gl 2 rfl) (B.glob rfl) rfl ⟨rfl, ?_⟩)));refine EW.lv B 2 rfl rfl rfl (EW.lv B 1 rfl rfl rfl ?_);refine EW.rR F hS (EW.Ea F hS (EW.gI F hS (EW.mark F B (by decide) hS ⟨_, rfl⟩ ⟨rfl, _, .tail (.tail (.tail .head)), ?_⟩)));refine SW.cut rfl (SW.KH F hS rfl (EW.var (B.loc rfl rfl) (.tail _ (.tail _ (.tail _ (.head _)))) ⟨⟨z1.taken + z1.tokens.length, decide (z.aA = 0) && decide (z.indent = z.col), z1.ptr, z1.line, z1.col⟩, rfl, rfl, rfl, ?_⟩));refine EW.aU F hS ⟨_, rfl, rfl, hl.1, fun ob => SW.nil (SW.nil ?_)⟩;exact H ka ob (ok.same rfl rfl rfl)
   ·rw [if_neg hl] at H; exact H.elim
  ·rw [if_neg (by rw [hb]; decide)] at H;exact SW.nil (SW.nil (H ka ko ok))
 refine SW.cut rfl (SW.assign rfl (B.loc (x := "required") rfl rfl).1 (EW.mH (EW.not (EW.aU F hS ?_))))
 by_cases hf : z.aA = 0
 ·have e1 : (!(z.aA != 0)) = true := by simp [hf]
  have e2 : decide (z.aA = 0) = true := by simp [hf]
  rw [e2, Bool.true_and] at go;show pV _ _ _ _ _ _ _ _ (.bool (!(z.aA != 0))) _ _ (!(z.aA != 0)); rw [e1];refine ⟨fun h => (by cases h), fun U => EW.qV (EW.bC rfl (EW.lS F hS (EW.gI F hS ⟨_, .tail .head, ?_⟩)))⟩;have e3 : (z.indent == z.col) = decide (z.indent = z.col) := rfl;exact go
 ·have e1 : (!(z.aA != 0)) = false := by simp [hf]
  have e2 : decide (z.aA = 0) = false := by simp [hf]
  rw [e2, Bool.false_and] at go;show pV _ _ _ _ _ _ _ _ (.bool (!(z.aA != 0))) _ _ (!(z.aA != 0)); rw [e1];exact ⟨fun U => ⟨_, .tail .head, go⟩, fun h => (by cases h)⟩
theorem oC (F : aE g) (c : Int) : Sp g ρ 0 629 [.int c] (fun b => V.bool b) (eR c) := by
 intro z ka ko Q X ok H;refine FW.go (F.d 16 rfl) [] rfl rfl (by decide) (by decide +kernel) fun C' B => ?_;have hS : aB C' "self" := B.loc rfl rfl;unfold eR at H;refine SW.cut rfl (SW.hZ rfl (BW.bC rfl (EW.lS F hS (EW.lv B 1 rfl rfl rfl ⟨fun hb => ?_, fun hb => ?_⟩))))
 ·rw [if_pos (of_decide_eq_true hb)] at H
  by_cases hl : z.aG.length <= 1000
  ·rw [if_pos hl] at H;refine SW.cut rfl (SW.expr (B.int rfl) rfl (EW.Ii ⟨_, rfl⟩ rfl (EW.vP F hS (fL rfl rfl (EW.lS F hS ⟨_, _, rfl, rfl, by show z.aG.length <= _; unfold sizeLine; lia, rfl, ?_⟩)))));refine SW.cut rfl (SW.yW F hS rfl (EW.lv B 1 rfl rfl rfl (lP c ({ z with aG := z.aG ++ [z.indent] }) ka ko _ rfl rfl rfl ?_)))
   exact SW.cut rfl (SW.ret (EW.bool (H ka ko (ok.same rfl rfl rfl))))
  ·rw [if_neg hl] at H; exact H.elim
 ·rw [if_neg (of_decide_eq_false hb)] at H;exact SW.nil (SW.cut rfl (SW.ret (EW.bool (H ka ko ok))))
inductive KU (c : Int) (Q : jZ) (X : kP) (n : Nat) (l : aF) (s : bQ) : Prop
 | mk (z : Z) (lv : LV) (ka : Addr) (ko : Obj) (el : l = [gH, ("column", .val (.int c)), ("mark", lv)]) (es : s = some (z.sc ka ko)) (ok : Ok z) (H : (unwind n c z).wp (PQ (fun U => V.none) Q) (PX X))
theorem vS (F : aE g) (c : Int) : Sp g ρ 3 622 [.int c] (fun U => V.none) (dK c) := by
 intro z ka ko Q X ok H;refine FW.go (F.d 15 rfl) ["mark"] rfl rfl (by decide) (by decide +kernel) fun C' B => ?_;have hS : aB C' "self" := B.loc rfl rfl;unfold dK at H;refine SW.cut rfl (SW.hZ rfl (BW.val (fun U => rfl) (EW.aU F hS ⟨fun hb => ?_, fun hb => ?_⟩)))
 ·rw [if_neg (by simpa using hb)] at H;exact SW.cut rfl (SW.AI (H ka ko ok))
 ·rw [if_pos (by simpa using hb)] at H;refine SW.nil (SW.cut rfl (SW.Sn rfl (KU c Q X) 4 ⟨z, _, ka, ko, rfl, rfl, ok, H⟩ ?_))
  rintro n l s ⟨z, lv, ka, ko, rfl, rfl, ok, H⟩
  refine BW.bC rfl (EW.lS F hS (EW.lv B 1 rfl rfl rfl ⟨fun hb => ?_, fun hb => ?_⟩))
  ·have hb := of_decide_eq_true hb;induction n with
   | zero => rw [Be, if_pos hb] at H; exact H.elim
   | succ n =>
   rw [nZ, if_pos hb] at H;cases e : z.aG.getLast? with
   | none => rw [e] at H; exact H.elim
   | some i =>
   rw [e] at H; dsimp only at H
   by_cases hl : z.aG.length <= 1000
   ·rw [if_pos hl] at H;have H := R.Ss H;have ei : z.aG = z.aG.dropLast ++ [i] := by
     rw [List.getLast?_eq_some_iff] at e; obtain ⟨ys, e⟩ := e; rw [e]; simp
    refine SW.cut rfl (SW.assign rfl (B.loc (x := "mark") rfl rfl).1 (EW.mark F B (by decide) hS ⟨_, rfl⟩ ⟨_, .cH 2 rfl rfl, ?_⟩));refine SW.cut rfl (SW.yW F hS rfl (EW.Ve ⟨_, rfl⟩ rfl (EW.vP F hS ⟨rfl, _, i, z.aG.dropLast, rfl, ei, by show z.aG.length <= _; unfold sizeLine; lia, i, { z with aG := z.aG.dropLast }, ka, ko, _, rfl, rfl, rfl, ?_⟩)))
    refine SW.cut rfl (SW.push F hS (B.int rfl) ⟨_, rfl⟩ rfl rfl (EW.yS (F.c 5 rfl) rfl (by decide) rfl (EW.glob (F.gl 6 rfl) (B.glob rfl) rfl ⟨rfl, ?_⟩)));refine EW.lv B 2 rfl rfl rfl (EW.lv B 2 rfl rfl rfl ⟨rfl, { z with indent := i, aG := z.aG.dropLast }, ka, ko, rfl, H.1, SW.nil ?_⟩)
    exact ⟨n, by lia, _, _, ka, ko, rfl, rfl, ok.same rfl rfl rfl, H.2⟩
   ·rw [if_neg hl] at H; exact H.elim
  ·have hb := of_decide_eq_false hb;refine SW.nil ?_;induction n with
   | zero => rw [Be, if_neg hb] at H; exact H ka ko ok
   | succ n => rw [nZ, if_neg hb] at H; exact H ka ko ok
theorem xV (F : aE g) (Cl : Addr) (hC : oU g Cl (ll ["start_mark", "end_mark"]) 2 []) : Sp g ρ 5 692 [.glob (.ref Cl)] (fun U => V.none) (eQ Cl) := by
 intro z ka ko Q X ok H;refine FW.go (F.d 20 rfl) ["start_mark", "end_mark"] rfl rfl (by decide) (by decide +kernel) fun C' B => ?_;have hS : aB C' "self" := B.loc rfl rfl;have H := R.aJ H;refine SW.cut rfl (SW.sp (oB F) (F.m 11 rfl) B (by decide) hS (by decide +kernel) ⟨_, rfl⟩ rfl (B.int rfl) (fun U => rfl) ⟨z, ka, ko, rfl, rfl, ok, R.mono H (fun a z H ka ko ok => ?_) fun U U x => x⟩ rfl);refine SW.cut rfl (SW.rG F hS ?_);refine SW.cut rfl (SW.aQ F hS rfl (EW.bool (lP _ ({ z with aA := z.aA + 1 }) ka ko _ rfl rfl rfl ?_)))
 have ok : Ok { z with aA := z.aA + 1, allow := true } := ok.same rfl rfl rfl
 ·skip
  unfold cB at H;have H := R.aJ H;refine SW.cut rfl (SW.assign rfl (B.loc (x := "start_mark") rfl rfl).1 (EW.mark F B (by decide) hS ⟨_, rfl⟩ ⟨_, .cH 2 rfl rfl, ?_⟩));refine SW.cut rfl (SW.rJ F B (by decide) hS ⟨_, rfl⟩ ok H (fun z1 ka ko ok H => ?_) (B.int rfl));refine SW.cut rfl (SW.assign rfl (B.loc (x := "end_mark") rfl rfl).1 (EW.mark F B (by decide) hS ⟨_, rfl⟩ ⟨_, .cH 3 rfl rfl, ?_⟩));have H := R.jS H;refine SW.cut rfl (SW.push F hS (B.int rfl) ⟨_, rfl⟩ rfl rfl (EW.yS hC rfl (by decide) rfl (EW.lv B 1 rfl rfl rfl ⟨rfl, ?_⟩)));refine EW.lv B 2 rfl rfl rfl (EW.lv B 3 rfl rfl rfl ⟨rfl, z1, ka, ko, rfl, H.1, SW.nil ?_⟩);exact H.2 ka ko (ok.same rfl rfl rfl)
theorem sM (F : aE g) (Cl : Addr) (hC : oU g Cl (ll ["start_mark", "end_mark"]) 2 []) : Sp g ρ 4 713 [.glob (.ref Cl)] (fun U => V.none) (gK Cl) := by
 intro z ka ko Q X ok H;refine FW.go (F.d 23 rfl) ["start_mark", "end_mark"] rfl rfl (by decide) (by decide +kernel) fun C' B => ?_;have hS : aB C' "self" := B.loc rfl rfl;have H := R.aJ H;refine SW.cut rfl (SW.sp (jC F) (F.m 12 rfl) B (by decide) hS (by decide +kernel) ⟨_, rfl⟩ rfl (B.int rfl) (fun U => rfl) ⟨z, ka, ko, rfl, rfl, ok, R.mono H (fun a z H ka ko ok => ?_) fun U U x => x⟩ rfl);refine SW.cut rfl (SW.rD F hS ?_);refine SW.cut rfl (SW.aQ F hS rfl (EW.bool (lP _ ({ z with aA := z.aA - 1 }) ka ko _ rfl rfl rfl ?_)))
 have ok : Ok { z with aA := z.aA - 1, allow := false } := ok.same rfl rfl rfl
 ·skip
  unfold cB at H;have H := R.aJ H;refine SW.cut rfl (SW.assign rfl (B.loc (x := "start_mark") rfl rfl).1 (EW.mark F B (by decide) hS ⟨_, rfl⟩ ⟨_, .cH 2 rfl rfl, ?_⟩));refine SW.cut rfl (SW.rJ F B (by decide) hS ⟨_, rfl⟩ ok H (fun z1 ka ko ok H => ?_) (B.int rfl));refine SW.cut rfl (SW.assign rfl (B.loc (x := "end_mark") rfl rfl).1 (EW.mark F B (by decide) hS ⟨_, rfl⟩ ⟨_, .cH 3 rfl rfl, ?_⟩));have H := R.jS H;refine SW.cut rfl (SW.push F hS (B.int rfl) ⟨_, rfl⟩ rfl rfl (EW.yS hC rfl (by decide) rfl (EW.lv B 1 rfl rfl rfl ⟨rfl, ?_⟩)));refine EW.lv B 2 rfl rfl rfl (EW.lv B 3 rfl rfl rfl ⟨rfl, z1, ka, ko, rfl, H.1, SW.nil ?_⟩);exact H.2 ka ko (ok.same rfl rfl rfl)
theorem xZ (F : aE g) : Sp g ρ 4 720 [] (fun U => V.none) hR := by
 intro z ka ko Q X ok H;refine FW.go (F.d 24 rfl) ["start_mark", "end_mark"] rfl rfl (by decide) (by decide +kernel) fun C' B => ?_;have hS : aB C' "self" := B.loc rfl rfl;have H := R.aJ H;refine SW.cut rfl (SW.aQ F hS rfl (EW.bool (lP _ z ka ko _ rfl rfl rfl ?_)));refine SW.cut rfl (SW.sp (jC F) (F.m 12 rfl) B (by decide) hS (by decide +kernel) ⟨_, rfl⟩ rfl (B.int rfl) (fun U => rfl) ⟨{ z with allow := true }, ka, ko, rfl, rfl, ok.same rfl rfl rfl, R.mono H (fun a z H ka ko ok => ?_) fun U U x => x⟩ rfl)
 ·skip
  unfold cB at H;have H := R.aJ H;refine SW.cut rfl (SW.assign rfl (B.loc (x := "start_mark") rfl rfl).1 (EW.mark F B (by decide) hS ⟨_, rfl⟩ ⟨_, .cH 1 rfl rfl, ?_⟩));refine SW.cut rfl (SW.rJ F B (by decide) hS ⟨_, rfl⟩ ok H (fun z1 ka ko ok H => ?_) (B.int rfl));refine SW.cut rfl (SW.assign rfl (B.loc (x := "end_mark") rfl rfl).1 (EW.mark F B (by decide) hS ⟨_, rfl⟩ ⟨_, .cH 2 rfl rfl, ?_⟩));have H := R.jS H;refine SW.cut rfl (SW.push F hS (B.int rfl) ⟨_, rfl⟩ rfl rfl (EW.yS (F.c 12 rfl) rfl (by decide) rfl (EW.glob (F.gl 13 rfl) (B.glob rfl) rfl ⟨rfl, ?_⟩)));refine EW.lv B 1 rfl rfl rfl (EW.lv B 2 rfl rfl rfl ⟨rfl, z1, ka, ko, rfl, H.1, SW.nil ?_⟩);exact H.2 ka ko (ok.same rfl rfl rfl)
theorem uH (F : aE g) : Sp g ρ 4 727 [] (fun U => V.none) eY := by
 intro z ka ko Q X ok H;refine FW.go (F.d 25 rfl) ["mark", "start_mark", "end_mark"] rfl rfl (by decide) (by decide +kernel) fun C' B => ?_;have hS : aB C' "self" := B.loc rfl rfl;unfold eY at H;have go : ∀ (z : Z) ka ko lv, Ok z -> ((bT { z with allow := true }).bind fun U z => cB 410 z).wp (PQ (fun U => V.none) Q) (PX X) -> SW g 4 C' ρ (fun x U s => X x s) ((aL 34 25).body.drop 1) [gH, ("mark", lv), ("start_mark", .un), ("end_mark", .un)] (some (z.sc ka ko)) (eC Q) := by
  intro z ka ko lv ok H;have H := R.aJ H;refine SW.cut rfl (SW.aQ F hS rfl (EW.bool (lP _ z ka ko _ rfl rfl rfl ?_)));refine SW.cut rfl (SW.sp (jC F) (F.m 12 rfl) B (by decide) hS (by decide +kernel) ⟨_, rfl⟩ rfl (B.int rfl) (fun U => rfl) ⟨{ z with allow := true }, ka, ko, rfl, rfl, ok.same rfl rfl rfl, R.mono H (fun a z H ka ko ok => ?_) fun U U x => x⟩ rfl)
  unfold cB at H;have H := R.aJ H;refine SW.cut rfl (SW.assign rfl (B.loc (x := "start_mark") rfl rfl).1 (EW.mark F B (by decide) hS ⟨_, rfl⟩ ⟨_, .cH 2 rfl rfl, ?_⟩));refine SW.cut rfl (SW.rJ F B (by decide) hS ⟨_, rfl⟩ ok H (fun z1 ka ko ok H => ?_) (B.int rfl));refine SW.cut rfl (SW.assign rfl (B.loc (x := "end_mark") rfl rfl).1 (EW.mark F B (by decide) hS ⟨_, rfl⟩ ⟨_, .cH 3 rfl rfl, ?_⟩));have H := R.jS H;refine SW.cut rfl (SW.push F hS (B.int rfl) ⟨_, rfl⟩ rfl rfl (EW.yS (F.c 11 rfl) rfl (by decide) rfl (EW.glob (F.gl 12 rfl) (B.glob rfl) rfl ⟨rfl, ?_⟩)));refine EW.lv B 2 rfl rfl rfl (EW.lv B 3 rfl rfl rfl ⟨rfl, z1, ka, ko, rfl, H.1, SW.nil ?_⟩);exact H.2 ka ko (ok.same rfl rfl rfl)
 refine SW.cut rfl (SW.hZ rfl (BW.not (BW.val (fun U => rfl) (EW.aU F hS ⟨fun hb => ?_, fun hb => ?_⟩))))
 ·have hf : z.aA = 0 := by simpa using hb
  rw [if_pos hf] at H;refine SW.cut rfl (SW.hZ rfl (BW.not (BW.val (fun U => rfl) (EW.fW F hS ⟨fun hb => ?_, fun hb => ?_⟩))))
  ·rw [if_neg (by simpa using hb)] at H; exact H.elim
  ·rw [if_pos (by simpa using hb)] at H;have H := R.aJ H;have H := R.aJ H;refine SW.nil (SW.cut rfl (SW.hZ rfl (BW.val (fun U => rfl) (EW.sp (oC F z.col) (F.m 14 rfl) B (by decide) hS (by decide +kernel) ⟨_, rfl⟩ rfl (EW.gI F hS ⟨z, ka, ko, rfl, rfl, ok, R.mono H (fun b z H ka ko ok => ?_) fun U U x => x⟩)))));refine ⟨fun hb => ?_, fun hb => ?_⟩
   ·rw [if_pos hb] at H;have H := R.jS H;refine SW.cut rfl (SW.assign rfl (B.loc (x := "mark") rfl rfl).1 (EW.mark F B (by decide) hS ⟨_, rfl⟩ ⟨_, .cH 1 rfl rfl, ?_⟩));refine SW.cut rfl (SW.push F hS (B.int rfl) ⟨_, rfl⟩ rfl rfl (EW.yS (F.c 3 rfl) rfl (by decide) rfl (EW.glob (F.gl 4 rfl) (B.glob rfl) rfl ⟨rfl, ?_⟩)));refine EW.lv B 1 rfl rfl rfl (EW.lv B 1 rfl rfl rfl ⟨rfl, z, ka, ko, rfl, H.1, SW.nil (SW.nil ?_)⟩);exact go _ _ _ _ (ok.same rfl rfl rfl) H.2
   ·rw [if_neg (by rw [hb]; decide)] at H;exact SW.nil (SW.nil (go _ _ _ _ ok H))
 ·have hf : ¬ z.aA = 0 := by simpa using hb
  rw [if_neg hf] at H; exact H.elim
theorem Az (F : aE g) : Sp g ρ 4 734 [] (fun U => V.none) iK := by
 intro z ka ko Q X ok H;refine FW.go (F.d 26 rfl) ["mark", "start_mark", "end_mark"] rfl rfl (by decide) (by decide +kernel) fun C' B => ?_;have hS : aB C' "self" := B.loc rfl rfl;unfold iK at H;refine SW.cut rfl (SW.hZ rfl (BW.not (BW.val (fun U => rfl) (EW.aU F hS ⟨fun hb => ?_, fun hb => ?_⟩))))
 ·have hf : z.aA = 0 := by simpa using hb
  rw [if_pos hf] at H;refine SW.cut rfl (SW.hZ rfl (BW.not (BW.val (fun U => rfl) (EW.fW F hS ⟨fun hb => ?_, fun hb => ?_⟩))))
  ·rw [if_neg (by simpa using hb)] at H;refine SW.cut rfl (SW.err F B (by decide) rfl rfl rfl rfl (EW.none (EW.none (EW.str (EW.mark F B (by decide) hS ⟨_, rfl⟩ ?_)))));exact ⟨_, _, _, _, rfl, fun x hx => H x _ hx⟩
  ·rw [if_pos (by simpa using hb)] at H; exact H.elim
 ·have hf : ¬ z.aA = 0 := by simpa using hb
  rw [if_neg hf] at H;have e : (!(z.aA != 0)) = false := by simp [hf]
  have H := R.aJ H;refine SW.nil (SW.cut rfl (SW.aQ F hS rfl (EW.not (EW.aU F hS ⟨_, z, ka, ko, _, rfl, rfl, rfl, ?_⟩))));rw [e];refine SW.cut rfl (SW.sp (jC F) (F.m 12 rfl) B (by decide) hS (by decide +kernel) ⟨_, rfl⟩ rfl (B.int rfl) (fun U => rfl) ⟨{ z with allow := false }, ka, ko, rfl, rfl, ok.same rfl rfl rfl, R.mono H (fun a z H ka ko ok => ?_) fun U U x => x⟩ rfl)
  unfold cB at H;have H := R.aJ H;refine SW.cut rfl (SW.assign rfl (B.loc (x := "start_mark") rfl rfl).1 (EW.mark F B (by decide) hS ⟨_, rfl⟩ ⟨_, .cH 2 rfl rfl, ?_⟩));refine SW.cut rfl (SW.rJ F B (by decide) hS ⟨_, rfl⟩ ok H (fun z1 ka ko ok H => ?_) (B.int rfl));refine SW.cut rfl (SW.assign rfl (B.loc (x := "end_mark") rfl rfl).1 (EW.mark F B (by decide) hS ⟨_, rfl⟩ ⟨_, .cH 3 rfl rfl, ?_⟩));have H := R.jS H;refine SW.cut rfl (SW.push F hS (B.int rfl) ⟨_, rfl⟩ rfl rfl (EW.yS (F.c 9 rfl) rfl (by decide) rfl (EW.glob (F.gl 10 rfl) (B.glob rfl) rfl ⟨rfl, ?_⟩)));refine EW.lv B 2 rfl rfl rfl (EW.lv B 3 rfl rfl rfl ⟨rfl, z1, ka, ko, rfl, H.1, SW.nil ?_⟩);exact H.2 ka ko (ok.same rfl rfl rfl)
end
theorem R.Rd {α : Type} {t : V} {f : Unit -> Z -> R α} {Q : α -> Z -> Prop} (H : ((fR i t z).bind f).wp Q X) : (0 <= i /\ i.toNat <= z.tokens.length /\ z.tokens.length <= 1000) /\ (f () { z with tokens := z.tokens.take i.toNat ++ t :: z.tokens.drop i.toNat }).wp Q X := by
 unfold fR at H
 by_cases h : 0 <= i /\ i.toNat <= z.tokens.length /\ z.tokens.length <= 1000
 ·rw [if_pos h] at H; exact ⟨h, H⟩
 ·rw [if_neg h] at H; exact H.elim
theorem R.Lq {t : V} {Q : Unit -> Z -> Prop} (H : (fR i t z).wp Q X) : (0 <= i /\ i.toNat <= z.tokens.length /\ z.tokens.length <= 1000) /\ Q () { z with tokens := z.tokens.take i.toNat ++ t :: z.tokens.drop i.toNat } := by
 unfold fR at H
 by_cases h : 0 <= i /\ i.toNat <= z.tokens.length /\ z.tokens.length <= 1000
 ·rw [if_pos h] at H; exact ⟨h, H⟩
 ·rw [if_neg h] at H; exact H.elim
section
variable {D : Nat}
inductive MF (Q : jZ) (X : kP) (vs : List V) (l : aF) (s : bQ) : Prop
 | mk (ls : List Int) (z : Z) (Ub Uj : LV) (ka : Addr) (ko : Obj) (ev : vs = ls.map V.int) (el : l = [gH, ("level", Ub), ("key", Uj)]) (es : s = some (z.sc ka ko)) (ok : Ok z) (H : (dX ls z).wp (PQ (fun U => V.none) Q) (PX X))
theorem Al (F : aE g) : Sp g ρ 3 601 [] (fun U => V.none) stale := by
 intro z ka ko Q X ok H;refine FW.go (F.d 12 rfl) ["level", "key"] rfl rfl (by decide) (by decide +kernel) fun C' B => ?_;have hS : aB C' "self" := B.loc rfl rfl;unfold stale at H
 by_cases hz : z.keys.length <= 1000
 case neg => rw [if_neg hz] at H; exact H.elim
 rw [if_pos hz] at H;refine SW.cut rfl (SW.Qw B.hh (B.loc rfl rfl) (MF Q X) ?_ ?_ ?_ (fun U => rfl))
 ·refine EW.Ko B.hh rfl (EW.builtin (F.n 1 rfl) rfl (by decide) (B.glob rfl) rfl ⟨rfl, EW.pN F hS ⟨_, rfl, rfl, ?_, _, rfl, ?_⟩⟩)
  ·show (z.keys.map _).length <= _;rw [List.length_map]; unfold sizeLine; lia
  ·refine ⟨z.keys.map (·.1), z, _, _, ka, ko, ?_, rfl, rfl, ok, H⟩;show ((z.keys.map fun p => (p.1, p.2.toV z.buf)).map (·.1)).map V.int = _;simp only [List.map_map]; rfl
 ·rintro v r l s ⟨ls, z, Ub, Uj, ka, ko, e, rfl, rfl, ok, H⟩
  induction ls with
  | nil => cases e
  | cons lv ls =>
  cases e;refine ⟨_, .cH 1 rfl rfl, ?_⟩;rw [mK] at H;cases ek : cW z.keys lv with
  | none => rw [ek] at H; exact H.elim
  | some k =>
  rw [ek] at H; dsimp only at H;refine SW.cut rfl (SW.assign rfl (B.loc (x := "key") rfl rfl).1 (EW.Fc F hS (fun U U U => rfl) (EW.lv B 1 rfl rfl rfl ⟨_, k, rfl, rfl, ek, _, .cH 2 rfl rfl, ?_⟩)));have go : ∀ {Qo}, (if k.req = true then .wall else if z.keys.length <= 1000 then dX ls { z with keys := fQ z.keys lv } else .wall).wp (PQ (fun U => V.none) Q) (PX X) ->
    SW g 3 C' ρ (fun x U s => X x s) (qZ (qZ (aL 34 7).body 0 0) 1 0) [gH, ("level", .val (.int lv)), ("key", .val (k.toV z.buf))] (some (z.sc ka ko)) (lO g 3 C' ρ (fun x U s => X x s) [] (Dn (MF Q X (ls.map V.int)) Qo)) := by
   intro Qo H;refine SW.cut rfl (SW.hZ rfl (BW.val (fun U => rfl) (EW.jX (i := 1) F (B.loc rfl rfl) (aO 2 rfl) rfl rfl rfl rfl ⟨fun hb => ?_, fun hb => ?_⟩)))
   ·rw [if_pos hb] at H; exact H.elim
   ·rw [if_neg (by rw [hb]; decide)] at H
    by_cases hl : z.keys.length <= 1000
    ·rw [if_pos hl] at H;refine SW.nil (SW.cut rfl (SW.Wa F hS (EW.lv B 1 rfl rfl rfl ⟨_, rfl, rfl, by rw [ek]; rfl, hl, fun ob => SW.nil (SW.nil ?_)⟩)));exact ⟨ls, _, _, _, ka, ob, rfl, rfl, rfl, ok.same rfl rfl rfl, H⟩
    ·rw [if_neg hl] at H; exact H.elim
  refine SW.cut rfl (SW.hZ rfl (BW.yT (BW.bC rfl (EW.jX (i := 3) F (B.loc rfl rfl) (.tail _ (.tail _ (.head _))) rfl rfl rfl rfl (EW.Ea F hS ⟨fun hb => ?_, fun hb => ?_⟩)))))
  ·have hb : k.line ≠ z.line := by simpa using hb
   rw [if_pos (.inl hb)] at H;exact ⟨fun U => go H, fun h => (by cases h)⟩
  ·have hb : k.line = z.line := by simpa using hb
   refine BW.Ie (BW.bC rfl (EW.sub (EW.rR F hS (EW.jX (i := 2) F (B.loc rfl rfl) (aO 2 rfl) rfl rfl rfl rfl ⟨_, _, rfl, rfl, EW.int ⟨fun hc => ?_, fun hc => ?_⟩⟩))))
   ·rw [if_pos (.inr (of_decide_eq_true hc))] at H;exact go H
   ·rw [if_neg (fun q => q.elim (fun q => q hb) (of_decide_eq_false hc))] at H;exact SW.nil (SW.nil ⟨ls, z, _, _, ka, ko, rfl, rfl, rfl, ok, H⟩)
 ·rintro l s ⟨ls, z, Ub, Uj, ka, ko, e, rfl, rfl, ok, H⟩
  induction ls with
  | nil => exact SW.nil (H ka ko ok)
  | cons _ _ => cases e
inductive UC (z : Z) (ka : Addr) (ko : Obj) (m : Option Int) (r : List (Int × V)) (l : aF) (s : bQ) : Prop
 | mk (m' : Option Int) (Ub Uj : LV) (hn : gM z.keys m' (r.map (·.1)) = some m) (el : l = [gH, ("min_token_number", .val (Pb m')), ("level", Ub), ("key", Uj)]) (es : s = some (z.sc ka ko))
theorem Rz (F : aE g) {m : Option Int} (ok : Ok z) {X : kP} {Q : jZ} (hm : gM z.keys none (z.keys.map (·.1)) = some m) (h : Q (Pb m) (some (z.sc ka ko))) :
  FW g 3 ρ X 594 [.self] (some (z.sc ka ko)) Q := by
 refine FW.go (F.d 11 rfl) ["min_token_number", "level", "key"] rfl rfl (by decide) (by decide +kernel) fun C' B => ?_;have hS : aB C' "self" := B.loc rfl rfl;refine SW.cut rfl (SW.assign rfl (B.loc (x := "min_token_number") rfl rfl).1 (EW.none ⟨_, .cH 1 rfl rfl, ?_⟩));refine SW.cut rfl (SW.Qz B.hh (B.loc rfl rfl) (z.sc ka ko).keys ka ko (UC z ka ko m) ?_ ?_ ?_ ?_ (fun U => rfl))
 ·rintro r l s ⟨m', Ub, Uj, _, _, rfl⟩
  exact (KY _ rfl rfl rfl rfl)
 ·refine EW.pN F hS ⟨rfl, none, _, _, ?_, rfl, rfl⟩;rw [← hm];show gM z.keys none ((z.keys.map fun p => (p.1, p.2.toV z.buf)).map (·.1)) = _;rw [List.map_map]; rfl
 ·rintro k v r l s ⟨m', Ub, Uj, hn, rfl, rfl⟩
  refine ⟨_, .tail (.tail .head), ?_⟩;rw [List.map_cons] at hn;rw [sX] at hn;cases ek : cW z.keys k with
  | none => dsimp only at hn; rw [ek] at hn; cases hn
  | some key =>
  dsimp only at hn; rw [ek] at hn; dsimp only at hn;refine SW.cut rfl (SW.assign rfl (B.loc (x := "key") rfl rfl).1 (EW.Fc F hS (fun U U U => rfl) (EW.lv B 2 rfl rfl rfl ⟨_, key, rfl, rfl, ek, _, .tail (.tail (.tail .head)), ?_⟩)));refine SW.cut rfl (SW.hZ rfl (BW.yT (BW.Hc (EW.var (B.loc rfl rfl) (.tail _ (.head _)) (eO m' rfl ?_)))));induction m' with
  | none =>
   refine ⟨fun U => ⟨fun U => ?_, fun h => (by cases h)⟩, fun h => by cases h⟩;refine SW.cut rfl (SW.assign rfl (B.loc (x := "min_token_number") rfl rfl).1 (EW.jX (i := 0) F (B.loc rfl rfl) (aO 3 rfl) rfl rfl rfl rfl ⟨_, .tail .head, SW.nil (SW.nil ?_)⟩));exact ⟨some key.no, _, _, hn, rfl, rfl⟩
  | some i =>
   refine ⟨fun h => (by cases h), fun U => ?_⟩;refine BW.Ie (BW.bC rfl (EW.jX (i := 0) F (B.loc rfl rfl) (aO 3 rfl) rfl rfl rfl rfl (EW.lv B 1 rfl rfl rfl ⟨fun hc => ?_, fun hc => ?_⟩)))
   ·have hc := of_decide_eq_true hc;refine SW.cut rfl (SW.assign rfl (B.loc (x := "min_token_number") rfl rfl).1 (EW.jX (i := 0) F (B.loc rfl rfl) (aO 3 rfl) rfl rfl rfl rfl ⟨_, .tail .head, SW.nil (SW.nil ?_)⟩));refine ⟨some key.no, _, _, ?_, rfl, rfl⟩;rw [← hn];show _ = gM z.keys (some (if key.no < i then key.no else i)) _;rw [if_pos hc]
   ·have hc := of_decide_eq_false hc;refine SW.nil (SW.nil ⟨some i, _, _, ?_, rfl, rfl⟩);rw [← hn];show _ = gM z.keys (some (if key.no < i then key.no else i)) _;rw [if_neg hc]
 ·rintro l s ⟨m', Ub, Uj, hn, rfl, rfl⟩
  cases hn;exact SW.cut rfl (SW.ret (EW.lv B 1 rfl rfl rfl h))
theorem wW (F : aE g) : Sp g ρ 4 643 [] (fun U => V.none) gG := by
 intro z ka ko Q X ok H;refine FW.go (F.d 18 rfl) ["mark"] rfl rfl (by decide) (by decide +kernel) fun C' B => ?_;have hS : aB C' "self" := B.loc rfl rfl;unfold gG at H;have H := R.aJ H;refine SW.cut rfl (SW.sp (vS F (-1)) (F.m 13 rfl) B (by decide) hS (by decide +kernel) ⟨_, rfl⟩ rfl (B.int rfl) (fun U => rfl) (EW.neg (EW.int ⟨_, rfl, z, ka, ko, rfl, rfl, ok, R.mono H (fun a z H ka ko ok => ?_) fun U U x => x⟩)) rfl);have H := R.aJ H;refine SW.cut rfl (SW.sp (jC F) (F.m 12 rfl) B (by decide) hS (by decide +kernel) ⟨_, rfl⟩ rfl (B.int rfl) (fun U => rfl) ⟨z, ka, ko, rfl, rfl, ok, R.mono H (fun a z H ka ko ok => ?_) fun U U x => x⟩ rfl);refine SW.cut rfl (SW.aQ F hS rfl (EW.bool (lP _ z ka ko _ rfl rfl rfl ?_)));refine SW.cut rfl (SW.Rp F.so (F.Fh _ (by simp [aD])) (EW.var hS (.head _) ⟨rfl, _, rfl, fun ka ko => ?_⟩));have H := R.Ss H;have ok : Ok { z with allow := false, keys := [] } := ok.same rfl rfl rfl
 show SW _ _ _ _ _ _ _ (some (({ z with allow := false, keys := [] } : Z).sc ka ko)) _
 refine SW.cut rfl (SW.assign rfl (B.loc (x := "mark") rfl rfl).1 (EW.mark F B (by decide) hS ⟨_, rfl⟩ ⟨_, .cH 1 rfl rfl, ?_⟩));refine SW.cut rfl (SW.push F hS (B.int rfl) ⟨_, rfl⟩ rfl rfl (EW.yS (F.c 2 rfl) rfl (by decide) rfl (EW.glob (F.gl 3 rfl) (B.glob rfl) rfl ⟨rfl, ?_⟩)));refine EW.lv B 1 rfl rfl rfl (EW.lv B 1 rfl rfl rfl ⟨rfl, { z with allow := false, keys := [] }, ka, ko, rfl, H.1, ?_⟩)
 refine SW.cut rfl (SW.Xt F hS rfl (EW.bool (lP true ({ z with allow := false, keys := [], tokens := z.tokens ++ [tk 290 z.mark z.mark] }) ka ko _ rfl rfl rfl (SW.nil ?_))))
 exact H.2 ka ko (ok.same rfl rfl rfl)
theorem uT (F : aE g) : Sp g ρ 4 741 [] (fun U => V.none) eZ := by
 intro z ka ko Q X ok H;refine FW.go (F.d 27 rfl) ["key", "mark", "start_mark", "end_mark"] rfl rfl (by decide) (by decide +kernel) fun C' B => ?_;have hS : aB C' "self" := B.loc rfl rfl;unfold eZ at H;have go : ∀ (z : Z) ka ko lv CH, Ok z -> (cB 398 z).wp (PQ (fun U => V.none) Q) (PX X) -> SW g 4 C' ρ (fun x U s => X x s) ((aL 34 27).body.drop 1) [gH, ("key", lv), ("mark", CH), ("start_mark", .un), ("end_mark", .un)] (some (z.sc ka ko)) (eC Q) := by
  intro z ka ko lv CH ok H;unfold cB at H;have H := R.aJ H;refine SW.cut rfl (SW.assign rfl (B.loc (x := "start_mark") rfl rfl).1 (EW.mark F B (by decide) hS ⟨_, rfl⟩ ⟨_, .cH 3 rfl rfl, ?_⟩));refine SW.cut rfl (SW.rJ F B (by decide) hS ⟨_, rfl⟩ ok H (fun z1 ka ko ok H => ?_) (B.int rfl));refine SW.cut rfl (SW.assign rfl (B.loc (x := "end_mark") rfl rfl).1 (EW.mark F B (by decide) hS ⟨_, rfl⟩ ⟨_, .cH 4 rfl rfl, ?_⟩));have H := R.jS H;refine SW.cut rfl (SW.push F hS (B.int rfl) ⟨_, rfl⟩ rfl rfl (EW.yS (F.c 10 rfl) rfl (by decide) rfl (EW.glob (F.gl 11 rfl) (B.glob rfl) rfl ⟨rfl, ?_⟩)));refine EW.var (B.loc rfl rfl) (.tail _ (.tail _ (.tail _ (.head _)))) (EW.var (B.loc rfl rfl) (.tail _ (.tail _ (.tail _ (.tail _ (.head _))))) ⟨rfl, z1, ka, ko, rfl, H.1, SW.nil ?_⟩);exact H.2 ka ko (ok.same rfl rfl rfl)
 refine SW.cut rfl (SW.hZ rfl (BW.NT F hS rfl (EW.aU F hS ⟨_, rfl, rfl, rfl, ?_⟩)));cases e : cW z.keys z.aA with
 | some k =>
  rw [e] at H; dsimp only at H;refine ⟨fun U => ?_, fun h => by cases h⟩
  by_cases hl : z.keys.length <= 1000
  ·rw [if_pos hl] at H;refine SW.cut rfl (SW.assign rfl (B.loc (x := "key") rfl rfl).1 (EW.Fc F hS (fun U U U => rfl) (EW.aU F hS ⟨_, k, rfl, rfl, e, _, .cH 1 rfl rfl, ?_⟩)));refine SW.cut rfl (SW.Wa F hS (EW.aU F hS ⟨_, rfl, rfl, by rw [e]; rfl, hl, fun ob => ?_⟩));have H := R.Rd H;refine SW.cut rfl (SW.insert F hS (B.int rfl) ⟨_, rfl⟩ rfl rfl (EW.sub (EW.jX (i := 0) F (B.loc rfl rfl) (aO 1 rfl) rfl rfl rfl rfl (EW.gO F hS ⟨_, _, rfl, rfl, EW.yS (F.c 9 rfl) rfl (by decide) rfl (EW.glob (F.gl 10 rfl) (B.glob rfl) rfl ⟨rfl, EW.jX (i := 5) F (B.loc rfl rfl) (aO 1 rfl) rfl rfl rfl rfl (EW.jX (i := 5) F (B.loc rfl rfl) (aO 1 rfl) rfl rfl rfl rfl ⟨rfl, _, { z with keys := fQ z.keys z.aA }, ka, ob, rfl, rfl, H.1.1, H.1.2.1, H.1.2.2, ?_⟩)⟩)⟩))))
   obtain ⟨_, H⟩ := H;have rY : Ok { z with keys := fQ z.keys z.aA, tokens := z.tokens.take (k.no - z.taken).toNat ++ tk 386 (k.mark z.buf) (k.mark z.buf) :: z.tokens.drop (k.no - z.taken).toNat } := ok.same rfl rfl rfl
   have fin : ∀ (z1 : Z) ka ko CH, Ok z1 -> (cB 398 { z1 with allow := false }).wp (PQ (fun U => V.none) Q) (PX X) -> SW g 4 C' ρ (fun x U s => X x s) ((qZ (aL 34 27).body 0 0).drop 4) [gH, ("key", .val (k.toV z.buf)), ("mark", CH), ("start_mark", .un), ("end_mark", .un)] (some (z1.sc ka ko))
     (lO g 4 C' ρ (fun x U s => X x s) ((aL 34 27).body.drop 1) (eC Q)) := by
    intro z1 ka ko CH rY H;refine SW.cut rfl (SW.aQ F hS rfl (EW.bool (lP _ z1 ka ko _ rfl rfl rfl (SW.nil ?_))));exact go _ _ _ _ _ (rY.same rfl rfl rfl) H
   have H := R.aJ H;refine SW.cut rfl (SW.hZ rfl (BW.not (BW.val (fun U => rfl) (EW.aU (z := { z with keys := fQ z.keys z.aA, tokens := z.tokens.take (k.no - z.taken).toNat ++ tk 386 (k.mark z.buf) (k.mark z.buf) :: z.tokens.drop (k.no - z.taken).toNat }) F hS ⟨fun hb => ?_, fun hb => ?_⟩))))
   ·have hf : z.aA = 0 := by simpa using hb
    rw [if_pos hf] at H;have H := R.aJ H;refine SW.cut rfl (SW.hZ rfl (BW.val (fun U => rfl) (EW.sp (oC F k.col) (F.m 14 rfl) B (by decide) hS (by decide +kernel) ⟨_, rfl⟩ rfl (EW.jX (i := 4) F (B.loc rfl rfl) (aO 1 rfl) rfl rfl rfl rfl ⟨{ z with keys := fQ z.keys z.aA, tokens := z.tokens.take (k.no - z.taken).toNat ++ tk 386 (k.mark z.buf) (k.mark z.buf) :: z.tokens.drop (k.no - z.taken).toNat }, ka, ob, rfl, rfl, rY, R.mono H (fun b z1 H ka ko ok => ?_) fun U U x => x⟩))))
    refine ⟨fun hb => ?_, fun hb => ?_⟩
    ·rw [if_pos hb] at H;have H := R.Lq H;refine SW.cut rfl (SW.insert F hS (B.int rfl) ⟨_, rfl⟩ rfl rfl (EW.sub (EW.jX (i := 0) F (B.loc rfl rfl) (aO 1 rfl) rfl rfl rfl rfl (EW.gO F hS ⟨_, _, rfl, rfl, EW.yS (F.c 4 rfl) rfl (by decide) rfl (EW.glob (F.gl 5 rfl) (B.glob rfl) rfl ⟨rfl, EW.jX (i := 5) F (B.loc rfl rfl) (aO 1 rfl) rfl rfl rfl rfl (EW.jX (i := 5) F (B.loc rfl rfl) (aO 1 rfl) rfl rfl rfl rfl ⟨rfl, _, z1, ka, ko, rfl, rfl, H.1.1, H.1.2.1, H.1.2.2, ?_⟩)⟩)⟩))));refine SW.nil (SW.nil (fin _ ka ko _ (ok.same rfl rfl rfl) H.2))
    ·rw [if_neg (by rw [hb]; decide)] at H;exact SW.nil (SW.nil (fin _ ka ko _ ok H))
   ·have hf : ¬ z.aA = 0 := by simpa using hb
    rw [if_neg hf] at H;exact SW.nil (fin _ ka ob _ rY H)
  ·rw [if_neg hl] at H; exact H.elim
 | none =>
  rw [e] at H; exact H.elim
end
theorem hO {p : Nat -> Bool} : ∀ {l : List Nat} {k m : Nat}, span p (l.drop k) = some m -> ∃ c, l[k]? = some c /\ ((p c = true /\ ∃ m', m = m' + 1 /\ span p (l.drop (k + 1)) = some m') \/ (p c = false /\ m = 0))
 | [], k, m, h => by rw [List.drop_nil] at h; exact nomatch h
 | c :: r, 0, m, h => by
  refine (eO c rfl ?_);rw [List.drop_zero, mG] at h
  by_cases hp : p c = true
  ·rw [if_pos hp] at h;cases e : span p r with
   | none => rw [e] at h; cases h
   | some m' => rw [e] at h; cases h; exact .inl ⟨hp, m', rfl, e⟩
  ·rw [if_neg hp] at h; cases h;exact .inr ⟨by simpa using hp, rfl⟩
 | c :: r, k + 1, m, h => by
  have := hO (l := r) (k := k) (m := m) h
  simpa using this
theorem uP {P : Unit -> Z -> Prop} (H : (aX z).wp P X) : (aX z).wp (fun a z' => P a z' /\ z'.rem = z.rem.drop 1) X := by
 unfold aX at H ⊢;cases e : z.rem with
 | nil => rw [e] at H; exact H.elim
 | cons c r =>
  rw [e] at H; dsimp only at H ⊢
  split at H
  ·rename_i h; rw [if_pos h]; exact ⟨H, rfl⟩
  ·rename_i h; rw [if_neg h]
   split at H
   ·rename_i h; rw [if_pos h]
    induction r with
    | nil => exact H.elim
    | cons d r =>
     dsimp only at H ⊢
     split at H
     ·rename_i h; rw [if_pos h]; exact ⟨H, rfl⟩
     ·rename_i h; rw [if_neg h]; exact ⟨H, rfl⟩
   ·rename_i h; rw [if_neg h]
    split at H
    ·rename_i h; rw [if_pos h]; exact ⟨H, rfl⟩
    ·rename_i h; rw [if_neg h]; exact ⟨H, rfl⟩
section
variable {D : Nat}
section
variable {C : Cx} {X : dW} {loc : aF} {Qg ap qT pos pos' Zu : Pos}
inductive SS (p : Nat -> Bool) (loc : aF) (P : Unit -> Z -> Prop) (Xw : V -> V -> Prop) (n : Nat) (l : aF) (s : bQ) : Prop
 | mk (el : l = gH :: loc) (z : Z) (ka : Addr) (ko : Obj) (es : s = some (z.sc ka ko)) (ok : Ok z) (e : span p z.rem = some n) (H : (fwd n z).wp P Xw)
structure JF (Pc : Bool) (HK : aF) (GI : bQ) (b : Bool) (l : aF) (s : bQ) : Prop where
 eb : b = Pc
 el : l = HK
 es : s = GI
inductive OV (p : Nat -> Bool) (z : Z) (ka : Addr) (ko : Obj) (n : Nat) (L : LV -> aF) (m : Nat) (l : aF) (s : bQ) : Prop
 | mk (k : Nat) (hk : k + m = n) (el : l = L (.val (.int k))) (es : s = some (z.sc ka ko)) (e : span p (z.rem.drop k) = some m)
theorem SW.skip {p : Nat -> Bool} {test : Expr} {Q : dD} {P : Unit -> Z -> Prop} {Xw : V -> V -> Prop} (F : aE g) (B : Bd C fd) (hD : 2 <= D) (hS : aB C "self") (hi : interactive C.env = false) (he : bS (.Name "self" np) "forward" apos pos [] C.env)
  (hp : ∀ (z : Z) ka ko c, Ok z -> z.rem[0]? = some c -> BW g D C ρ X test (gH :: loc) (some (z.sc ka ko)) (JF (p c) (gH :: loc) (some (z.sc ka ko))))
  (ok : Ok z) (H : (lK p z).wp P Xw) (fin : ∀ z' ka ko, Ok z' -> P () z' -> Q .next (gH :: loc) (some (z'.sc ka ko))) :
  iB g D C ρ X (.While test [.Expr (.Call (.Attribute (.Name "self" np) "forward" apos) [] [] pos) pos'] [] Zu) (gH :: loc) (some (z.sc ka ko)) Q := by
 unfold lK at H;cases e : span p z.rem with
 | none => rw [e] at H; exact H.elim
 | some n =>
 rw [e] at H; dsimp only at H;refine SW.nX (SS p loc P Xw) n ⟨rfl, z, ka, ko, rfl, ok, e, H⟩ ?_
 rintro n l s ⟨rfl, z, ka, ko, rfl, ok, e, H⟩
 refine aR (hO (l := z.rem) (k := 0) e) fun c hc h => ?_;refine (hp z ka ko c ok hc).mono ?_
 rintro b l s ⟨rfl, rfl, rfl⟩
 rcases h with ⟨h1, m, rfl, h2⟩ | ⟨h1, rfl⟩
 ·refine ⟨fun U => ?_, fun h => (by rw [h1] at h; cases h)⟩;have H : ((aX z).bind fun U z => fwd m z).wp P Xw := H;have H := uP (R.aJ H);refine SW.cons (SW.rJ (P := fun z1 => (fwd m z1).wp P Xw /\ z1.rem = z.rem.drop 1) F B hD hS he ok H (fun z' ka ko Ao H => SW.nil ?_) hi);exact ⟨m, by lia, rfl, z', ka, ko, rfl, Ao, by rw [H.2]; exact h2, H.1⟩
 ·refine ⟨fun h => (by rw [h1] at h; cases h), fun U => ?_⟩;exact fin z ka ko ok H
theorem SW.Am {p : Nat -> Bool} {test : Expr} {n : Nat} {RQ : Pos} {kk : Nat} {Q : dD} (L : LV -> aF) (hx : aB C "length") (hL : ∀ v, (("length" : Str), v) ∈ L v) (hU : ∀ v v', cK "length" v' (L v) (L v'))
  (hp : ∀ (k c : Nat), z.rem[k]? = some c -> BW g D C ρ X test (L (.val (.int k))) (some (z.sc ka ko)) (JF (p c) (L (.val (.int k))) (some (z.sc ka ko))))
  (hn : span p z.rem = some n) (fin : Q .next (L (.val (.int n))) (some (z.sc ka ko))) :
  iB g D C ρ X (.While test [.AugAssign (.Name "length" RQ) .Add (.Constant (.int 1) kk cp) pos'] [] Zu) (L (.val (.int 0))) (some (z.sc ka ko)) Q := by
 refine SW.nX (OV p z ka ko n L) n ⟨0, by lia, rfl, rfl, hn⟩ ?_
 rintro m l s ⟨k, hk, rfl, rfl, e⟩
 refine aR (hO e) fun c hc h => ?_;refine (hp k c hc).mono ?_
 rintro b l s ⟨rfl, rfl, rfl⟩
 rcases h with ⟨h1, m', rfl, h2⟩ | ⟨h1, rfl⟩
 ·refine ⟨fun U => ?_, fun h => (by rw [h1] at h; cases h)⟩;refine SW.cons (SW.Cs hx.1 (hL _) (EW.int ⟨1, rfl, _, hU _ _, SW.nil ?_⟩));exact ⟨m', by lia, k + 1, by lia, rfl, rfl, h2⟩
 ·refine ⟨fun h => (by rw [h1] at h; cases h), fun U => ?_⟩;have : k = n := by omega
  subst this;exact fin
end
theorem uS {P : List Nat -> Z -> Prop} (H : (lineBreak z).wp P X) : (lineBreak z).wp (fun lb z' => P lb z' /\ lb.length <= 1) X := by
 unfold lineBreak at H ⊢;cases e : z.rem with
 | nil => rw [e] at H; exact H.elim
 | cons c r =>
  rw [e] at H; dsimp only at H ⊢
  split at H
  ·rename_i h; rw [if_pos h]
   split at H
   ·rename_i h; rw [if_pos h]
    exact R.mono (R.aJ H) (fun U U h => h) (fun U U h => h) |> fun H => by
     cases e2 : fwd 2 z with
     | ok a z1 => rw [e2] at H; exact ⟨H, by simp⟩
     | err _ _ => rw [e2] at H; exact H
     | wall => rw [e2] at H; exact H
   ·rename_i h; rw [if_neg h]
    exact R.mono (R.aJ H) (fun U U h => h) (fun U U h => h) |> fun H => by
     cases e2 : fwd 1 z with
     | ok a z1 => rw [e2] at H; exact ⟨H, by simp⟩
     | err _ _ => rw [e2] at H; exact H
     | wall => rw [e2] at H; exact H
  ·rename_i h; rw [if_neg h]
   split at H
   ·rename_i h; rw [if_pos h]
    exact R.mono (R.aJ H) (fun U U h => h) (fun U U h => h) |> fun H => by
     cases e2 : fwd 1 z with
     | ok a z1 => rw [e2] at H; exact ⟨H, by simp⟩
     | err _ _ => rw [e2] at H; exact H
     | wall => rw [e2] at H; exact H
   ·rename_i h; rw [if_neg h]; exact ⟨H, by simp⟩
theorem Cm (l : List Nat) : Str.length ⟨l.toArray⟩ = l.length := by simp [Str.length]
inductive RN (Q : jZ) (X : kP) (n : Nat) (l : aF) (s : bQ) : Prop
 | mk (z : Z) (ka : Addr) (ko : Obj) (b : Bool) (el : l = [gH, ("found", .val (.bool b))]) (es : s = some (z.sc ka ko)) (ok : Ok z) (h1 : b = false -> (dH n z).wp (PQ (fun U => V.none) Q) (PX X)) (h2 : b = true -> Q .none (some (z.sc ka ko)))
theorem Gp (F : aE g) (n : Nat) : Sp g ρ 3 867 [] (fun U => V.none) (fT n) := by
 intro z ka ko Q X ok H;refine FW.go (F.d 39 rfl) ["found"] rfl rfl (by decide) (by decide +kernel) fun C' B => ?_;have hS : aB C' "self" := B.loc rfl rfl;unfold fT at H;have go : (dH n z).wp (PQ (fun U => V.none) Q) (PX X) -> SW g 3 C' ρ (fun x U s => X x s) ((aL 34 45).body.drop 1) [gH, ("found", .un)] (some (z.sc ka ko)) (eC Q) := by
  intro H;refine SW.cons (SW.assign rfl (B.loc (x := "found") rfl rfl).1 (EW.bool ⟨_, .tail .head, ?_⟩));refine SW.cons (SW.nX (RN Q X) n ⟨z, ka, ko, false, rfl, rfl, ok, fun U => H, fun h => (by cases h)⟩ ?_)
  rintro n l s ⟨z, ka, ko, b, rfl, rfl, ok, H1, H2⟩
  refine BW.not (BW.val (fun U => rfl) (EW.var (B.loc rfl rfl) (.tail _ (.head _)) ?_));induction b with
  | true => exact ⟨fun h => (by cases h), fun U => SW.nil (H2 rfl)⟩
  | false =>
  have H := H1 rfl;refine ⟨fun U => ?_, fun h => by cases h⟩;induction n with
  | zero => exact H.elim
  | succ n =>
  rw [iA] at H;have H := R.aJ H;refine SW.cons (SW.skip (p := fun c => c == 32) F B (by decide) hS (B.int rfl) ⟨_, rfl⟩ (fun z ka ko c ok hc => ?_) ok H fun z ka ko ok H => ?_)
  ·refine BW.bC rfl (EW.jJ F B (by decide) hS ⟨_, rfl⟩ ok hc (EW.str (dQ 32 rfl ⟨?_, rfl, rfl⟩)))
   by_cases h : c = 32 <;> simp [h]
  refine aR (R.iT H) fun c hc H => ?_;refine SW.cons (SW.nN (BW.bC rfl (EW.jJ F B (by decide) hS ⟨_, rfl⟩ ok hc (EW.str (dQ 35 rfl ⟨fun hb => ?_, fun hb => ?_⟩)))))
  ·have H := R.yV (of_decide_eq_true hb) H; exact H.elim
  have H := R.Oo (of_decide_eq_false hb) H;have H := R.aJ H;refine SW.nil (SW.cons (SW.nN (BW.val (fun U => rfl) (EW.sp (pG F) (F.m 44 rfl) B (by decide) hS (by decide +kernel) ⟨_, rfl⟩ rfl ⟨z, ka, ko, rfl, rfl, ok, R.mono (uS H) (fun lb z H ka ko ok => ?_) fun U U x => x⟩))));refine ⟨by rw [Cm]; have := H.2; unfold sizeLine; lia, ?_⟩;rw [Cm];obtain ⟨H, _⟩ := H;induction lb with
  | cons a r =>
   have H := R.Oo (List.cons_ne_nil _ _) H;refine ⟨fun U => ?_, fun h => (by cases h)⟩;refine SW.cons (SW.nN (BW.not (BW.val (fun U => rfl) (EW.aU F hS ⟨fun hb => ?_, fun hb => ?_⟩))))
   ·rw [if_pos (by simpa using hb)] at H;refine SW.cons (SW.aQ F hS rfl (EW.bool (lP _ z ka ko _ rfl rfl rfl (SW.nil (SW.nil (SW.nil ?_))))));exact ⟨n, by lia, _, ka, ko, false, rfl, rfl, ok.same rfl rfl rfl, fun U => H, fun h => (by cases h)⟩
   ·rw [if_neg (by simpa using hb)] at H;exact SW.nil (SW.nil (SW.nil ⟨n, by lia, _, ka, ko, false, rfl, rfl, ok, fun U => H, fun h => (by cases h)⟩))
  | nil =>
   have H := R.yV rfl H;refine ⟨fun h => (by cases h), fun U => ?_⟩;refine SW.cons (SW.assign rfl (B.loc (x := "found") rfl rfl).1 (EW.bool ⟨_, .tail .head, SW.nil (SW.nil ?_)⟩));exact ⟨0, by lia, z, ka, ko, true, rfl, rfl, ok, fun h => (by cases h), fun U => H ka ko ok⟩
 refine SW.cons (SW.nN (BW.jH (BW.bC rfl (EW.rR F hS (EW.int ⟨fun hb => ?_, fun hb => ?_⟩)))))
 ·have h0 : ¬ z.ptr = 0 := by
   intro q; rw [q] at hb; cases hb
  have H := R.Oo h0 H;exact ⟨fun h => (by cases h), fun U => SW.nil (go H)⟩
 ·have h0 : z.ptr = 0 := by simpa using hb
  have H := R.yV h0 H;refine aR (R.iT H) fun c hc H => ?_;refine BW.oY (BW.bC rfl (EW.jJ F B (by decide) hS ⟨_, rfl⟩ ok hc (EW.str (dQ 65279 rfl ⟨fun hb => ?_, fun hb => ?_⟩))))
  ·have H := R.yV (of_decide_eq_true hb) H; exact H.elim
  ·have H := R.Oo (of_decide_eq_false hb) H;exact SW.nil (go H)
end
theorem Ok.small (ok : Ok z) {k c : Nat} (hc : z.rem[k]? = some c) : ∀ d ∈ (⟨[c].toArray⟩ : Str).cps.toList, d < 16 ^ 8 := by
 intro d hd;have hd : d = c := by simpa using hd
 subst hd;refine fO ok.ex fun n a b e => ?_;refine ok.cs _ ?_;rw [b] at hc;exact List.mem_of_mem_drop (List.mem_of_getElem? hc)
theorem xS (c : Nat) : Str.length ⟨[c].toArray⟩ <= 100 := by rw [Cm, List.length_singleton]; decide
section
variable {D : Nat}
section
variable {C : Cx} {X : dW} {loc : aF}
theorem BW.word {x : Str} {c : Nat} {y : Str} (l : List Nat) {k1 k2 k3 k4 k5 k6 k7 : Nat} {p1 p2 p4 p5 p6 p7 q1 q2 q3 q4 r1 r2 r3 r4 pos : Pos} {Q : lR} (hx : aB C x) (hv : (x, LV.val (sv [c])) ∈ loc) (hl : y.cps.toList = l) (h : Q (vG c || isIn l c) loc σ) :
  BW g D C ρ X (.BoolOp .Or [.Compare (.Constant (.str "0") k1 p1) [.LtE, .LtE] [.Name x q1, .Constant (.str "9") k2 p2] r1, .Compare (.Constant (.str "A") k3 p3) [.LtE, .LtE] [.Name x q2, .Constant (.str "Z") k4 p4] r2,
   .Compare (.Constant (.str "a") k5 p5) [.LtE, .LtE] [.Name x q3, .Constant (.str "z") k6 p6] r3, .Compare (.Name x q4) [.In] [.Constant (.str y) k7 p7] r4] pos) loc σ Q := by
 have Gg : ∀ {a b : Str} {a' b' : Nat} {ka kb : Nat} {pa pb q r : Pos} {Q : lR}, a.cps.toList = [a'] -> b.cps.toList = [b'] -> Q (decide (a' <= c) && decide (c <= b')) loc σ ->
   BW g D C ρ X (.Compare (.Constant (.str a) ka pa) [.LtE, .LtE] [.Name x q, .Constant (.str b) kb pb] r) loc σ Q := by
  intro a b a' b' ka kb pa pb q r Q ea eb hq;refine BW.Vk rfl (EW.str (EW.var hx hv (rU ea rfl ⟨fun hb => ?_, fun hb => EW.str (rU rfl eb ?_)⟩)))
  ·rw [hb] at hq; exact hq
  ·rw [hb] at hq; exact hq
 refine BW.yT (Gg (a' := 48) (b' := 57) rfl rfl ⟨fun hb => ?_, fun hb => ?_⟩)
 ·unfold vG at h; rw [hb] at h; simpa using h
 refine BW.yT (Gg (a' := 65) (b' := 90) rfl rfl ⟨fun Ux => ?_, fun Ux => ?_⟩)
 ·unfold vG at h; rw [hb, Ux] at h; simpa using h
 refine BW.yT (Gg (a' := 97) (b' := 122) rfl rfl ⟨fun Uw => ?_, fun Uw => ?_⟩)
 ·unfold vG at h; rw [hb, Ux, Uw] at h; simpa using h
 refine BW.Ie (BW.bC rfl (EW.var hx hv (EW.str (fD l hl ?_))));unfold vG at h; rw [hb, Ux, Uw] at h; simpa using h
end
inductive RD (Cl : Addr) (z z1 : Z) (ka : Addr) (ko : Obj) (c0 : Nat) (nm : Str) (n m : Nat) (l : aF) (s : bQ) : Prop
 | mk (k c : Nat) (hk : k + m = n) (el : l = [gH, ("TokenClass", .val (.glob (.ref Cl))), ("start_mark", .val z.mark), ("indicator", .val (sv [c0])), ("name", .val (.str nm)), ("length", .val (.int (k : Int))), ("ch", .val (sv [c])), ("value", .un), ("end_mark", .un)]) (es : s = some (z1.sc ka ko)) (hc : z1.rem[k]? = some c) (e : span bA (z1.rem.drop k) = some m)
theorem vQ (F : aE g) (Cl : Addr) (hC : oU g Cl (ll ["value", "start_mark", "end_mark"]) 3 []) : Sp g ρ 3 930 [.glob (.ref Cl)] id (cX Cl) := by
 intro z ka ko Q X ok H;refine FW.go (F.d 40 rfl) ["start_mark", "indicator", "name", "length", "ch", "value", "end_mark"] rfl rfl (by decide) (by decide +kernel) fun C' B => ?_;have hS : aB C' "self" := B.loc rfl rfl;unfold cX at H;refine aR (R.iT H) fun c0 Xr H => ?_;have H := R.aJ H;refine SW.cut rfl (SW.assign rfl (B.loc (x := "start_mark") rfl rfl).1 (EW.mark F B (by decide) hS ⟨_, rfl⟩ ⟨_, .cH 2 rfl rfl, ?_⟩));refine SW.cut rfl (SW.assign rfl (B.loc (x := "indicator") rfl rfl).1 (EW.jJ F B (by decide) hS ⟨_, rfl⟩ ok Xr ⟨_, .cH 3 rfl rfl, ?_⟩));have go : ∀ nm : Str, nm.length <= 100 -> SW g 3 C' ρ (fun x U s => X x s) ((aL 34 54).body.drop 3) [gH, ("TokenClass", .val (.glob (.ref Cl))), ("start_mark", .val z.mark), ("indicator", .val (sv [c0])), ("name", .val (.str nm)), ("length", .un), ("ch", .un), ("value", .un), ("end_mark", .un)] (some (z.sc ka ko)) (eC Q) := by
  intro nm NY;refine SW.cut rfl (SW.rJ F B (by decide) hS ⟨_, rfl⟩ ok H (fun z1 ka ko rY H => ?_) (B.int rfl));cases e : span bA z1.rem with
  | none => rw [e] at H; exact H.elim
  | some n =>
  rw [e] at H;refine aR (hO (l := z1.rem) (k := 0) e) fun c1 Jb U => ?_;refine SW.cut rfl (SW.assign rfl (B.loc (x := "length") rfl rfl).1 (EW.int ⟨_, .cH 5 rfl rfl, ?_⟩));refine SW.cut rfl (SW.assign rfl (B.loc (x := "ch") rfl rfl).1 (EW.peekA F B (by decide) hS ⟨_, rfl⟩ rfl (EW.lv B 5 rfl rfl rfl ⟨0, c1, z1, ka, ko, rfl, rfl, rY, Jb, _, .tail (.tail (.tail (.tail (.tail (.tail .head))))), ?_⟩)));refine SW.cut rfl (SW.Sn rfl (RD Cl z z1 ka ko c0 nm n) n ⟨0, c1, by omega, rfl, rfl, Jb, e⟩ ?_)
  rintro m l s ⟨k, c, hk, rfl, rfl, hc, es⟩
  refine BW.word [45, 95] (B.loc rfl rfl) (.tail _ (.tail _ (.tail _ (.tail _ (.tail _ (.tail _ (.head _))))))) rfl ?_;refine aR (hO es) fun c' LK h => ?_;rw [hc] at LK; cases LK;have ew : (vG c || isIn [45, 95] c) = bA c := rfl;rw [ew]
  rcases h with ⟨h1, m', rfl, h2⟩ | ⟨h1, rfl⟩
  ·refine ⟨fun U => ?_, fun h => (by rw [h1] at h; cases h)⟩;refine aR (hO h2) fun c2 OB U => ?_;refine SW.cut rfl (SW.Cs (B.loc rfl rfl).1 (aO 5 rfl) (EW.int ⟨1, rfl, _, .cH 5 rfl rfl, ?_⟩));refine SW.cut rfl (SW.assign rfl (B.loc (x := "ch") rfl rfl).1 (EW.peekA F B (by decide) hS ⟨_, rfl⟩ rfl (EW.lv B 5 rfl rfl rfl ⟨k + 1, c2, z1, ka, ko, rfl, rfl, rY, OB, _, .tail (.tail (.tail (.tail (.tail (.tail .head))))), SW.nil ?_⟩)));exact ⟨m', by omega, k + 1, c2, by omega, rfl, rfl, OB, h2⟩
  ·refine ⟨fun h => (by rw [h1] at h; cases h), fun U => ?_⟩;have : k = n := by omega
   subst this;refine SW.cut rfl (SW.hZ rfl (BW.not (BW.val (fun U => rfl) (EW.lv B 5 rfl rfl rfl ⟨fun hb => ?_, fun hb => ?_⟩))))
   ·have h0 : k = 0 := by
     have : ((k : Int) != 0) = false := by simpa using hb
     have := bne_eq_false_iff_eq.mp this
     omega
    subst h0;refine SW.cut rfl (SW.err F B (by decide) rfl rfl rfl rfl (EW.mod (EW.str (EW.lv B 4 rfl rfl rfl (Wv _ _ rfl rfl Ot NY (EW.lv B 2 rfl rfl rfl ?_))))));refine EW.Ww (EW.str (EW.var (B.loc rfl rfl) (.tail _ (.tail _ (.tail _ (.tail _ (.tail _ (.tail _ (.head _))))))) (zS _ _ rfl rfl Ou (xS _) (rY.small hc) (EW.mark F B (by decide) hS ⟨_, rfl⟩ ?_))));exact ⟨_, _, _, _, rfl, fun x hx => H x _ hx⟩
   ·have h0 : k ≠ 0 := by
     intro q; subst q; cases hb
    obtain ⟨k', rfl⟩ : ∃ k', k = k' + 1 := ⟨k - 1, by omega⟩;have H := R.aJ H;refine SW.nil (SW.cut rfl (SW.assign rfl (B.loc (x := "value") rfl rfl).1 (EW.kA F B (by decide) hS ⟨_, rfl⟩ rfl (EW.lv B 5 rfl rfl rfl ⟨k' + 1, z1, ka, ko, rfl, rfl, rY, _, .cH 7 rfl rfl, ?_⟩))));refine SW.cut rfl (SW.Jo F B (by decide) hS ⟨_, rfl⟩ rfl (B.int rfl) (EW.lv B 5 rfl rfl rfl ⟨k' + 1, rfl, rfl, rfl, H⟩) rY fun z2 ka ko uD H => ?_);refine aR (R.iT H) fun c3 EX H => ?_;refine SW.cut rfl (SW.assign rfl (B.loc (x := "ch") rfl rfl).1 (EW.jJ F B (by decide) hS ⟨_, rfl⟩ uD EX ⟨_, .cH 6 rfl rfl, ?_⟩));refine SW.cut rfl (SW.hZ rfl (BW.bC rfl (EW.lv B 6 rfl rfl rfl (EW.str (rS [0, 32, 9, 13, 10, 133, 8232, 8233, 63, 58, 44, 93, 125, 37, 64, 96] rfl ⟨fun hb => ?_, fun hb => ?_⟩)))))
    ·rw [if_neg (by simpa using hb)] at H;refine SW.cut rfl (SW.err F B (by decide) rfl rfl rfl rfl (EW.mod (EW.str (EW.lv B 4 rfl rfl rfl (Wv _ _ rfl rfl Ot NY (EW.lv B 2 rfl rfl rfl ?_))))));refine EW.Ww (EW.str (EW.lv B 6 rfl rfl rfl (zS _ _ rfl rfl Ou (xS _) (uD.small EX) (EW.mark F B (by decide) hS ⟨_, rfl⟩ ?_))));exact ⟨_, _, _, _, rfl, fun x hx => H x _ hx⟩
    ·rw [if_pos (by simpa using hb)] at H;refine SW.nil (SW.cut rfl (SW.assign rfl (B.loc (x := "end_mark") rfl rfl).1 (EW.mark F B (by decide) hS ⟨_, rfl⟩ ⟨_, .cH 8 rfl rfl, ?_⟩)));refine SW.cut rfl (SW.ret (EW.yS hC rfl (by decide) rfl (EW.lv B 1 rfl rfl rfl ⟨rfl, ?_⟩)));refine EW.lv B 7 rfl rfl rfl (EW.lv B 2 rfl rfl rfl (EW.lv B 8 rfl rfl rfl ⟨rfl, ?_⟩));exact H ka ko uD
 refine SW.cut rfl (SW.hZ rfl (BW.bC rfl (EW.lv B 3 rfl rfl rfl (EW.str (dQ 42 rfl ⟨fun hb => ?_, fun hb => ?_⟩)))))
 ·exact SW.cut rfl (SW.assign rfl (B.loc (x := "name") rfl rfl).1 (EW.str ⟨_, .cH 4 rfl rfl, SW.nil (go _ (by decide +kernel))⟩))
 ·exact SW.cut rfl (SW.assign rfl (B.loc (x := "name") rfl rfl).1 (EW.str ⟨_, .cH 4 rfl rfl, SW.nil (go _ (by decide +kernel))⟩))
theorem Jw (F : aE g) : Sp g ρ 5 748 [] (fun U => V.none) (cJ 441) := by
 intro z ka ko Q X ok H;refine FW.go (F.d 28 rfl) [] rfl rfl (by decide) (by decide +kernel) fun C' B => ?_;have hS : aB C' "self" := B.loc rfl rfl;have H := R.aJ H;refine SW.cut rfl (SW.sp (oB F) (F.m 11 rfl) B (by decide) hS (by decide +kernel) ⟨_, rfl⟩ rfl (B.int rfl) (fun U => rfl) ⟨z, ka, ko, rfl, rfl, ok, R.mono H (fun a z H ka ko ok => ?_) fun U U x => x⟩ rfl);refine SW.cut rfl (SW.aQ F hS rfl (EW.bool (lP _ z ka ko _ rfl rfl rfl ?_)));have H := R.aJ H;refine SW.cut rfl (SW.push F hS (B.int rfl) ⟨_, rfl⟩ rfl rfl (EW.sp (vQ F 441 (F.c 13 rfl)) (F.m 39 rfl) B (by decide) hS (by decide +kernel) ⟨_, rfl⟩ rfl (EW.glob (F.gl 14 rfl) (B.glob rfl) rfl ⟨{ z with allow := false }, ka, ko, rfl, rfl, ok.same rfl rfl rfl, R.mono H (fun t z H ka ko ok => ?_) fun U U x => x⟩)))
 have H := R.jS H;exact ⟨z, ka, ko, rfl, H.1, SW.nil (H.2 ka ko (ok.same rfl rfl rfl))⟩
theorem Cd (F : aE g) : Sp g ρ 5 755 [] (fun U => V.none) (cJ 460) := by
 intro z ka ko Q X ok H;refine FW.go (F.d 29 rfl) [] rfl rfl (by decide) (by decide +kernel) fun C' B => ?_;have hS : aB C' "self" := B.loc rfl rfl;have H := R.aJ H;refine SW.cut rfl (SW.sp (oB F) (F.m 11 rfl) B (by decide) hS (by decide +kernel) ⟨_, rfl⟩ rfl (B.int rfl) (fun U => rfl) ⟨z, ka, ko, rfl, rfl, ok, R.mono H (fun a z H ka ko ok => ?_) fun U U x => x⟩ rfl);refine SW.cut rfl (SW.aQ F hS rfl (EW.bool (lP _ z ka ko _ rfl rfl rfl ?_)));have H := R.aJ H;refine SW.cut rfl (SW.push F hS (B.int rfl) ⟨_, rfl⟩ rfl rfl (EW.sp (vQ F 460 (F.c 14 rfl)) (F.m 39 rfl) B (by decide) hS (by decide +kernel) ⟨_, rfl⟩ rfl (EW.glob (F.gl 15 rfl) (B.glob rfl) rfl ⟨{ z with allow := false }, ka, ko, rfl, rfl, ok.same rfl rfl rfl, R.mono H (fun t z H ka ko ok => ?_) fun U U x => x⟩)))
 have H := R.jS H;exact ⟨z, ka, ko, rfl, H.1, SW.nil (H.2 ka ko (ok.same rfl rfl rfl))⟩
end
theorem wL : ∀ (cs : List (List Nat)) (acc : Array Nat), ((cs.map fun l => (⟨l.toArray⟩ : Str)).foldl (fun acc p => acc ++ (Str.ofString "").cps ++ p.cps) acc) = acc ++ cs.flatten.toArray
 | [], acc => by simp
 | c :: cs, acc => by
  rw [List.map_cons, List.foldl_cons, wL cs];have e : (Str.ofString "").cps = #[] := rfl;rw [e]; simp
theorem pL (cs : List (List Nat)) : Txt.join (Str.ofString "") (cs.map fun l => ⟨l.toArray⟩) = ⟨cs.flatten.toArray⟩ := by
 unfold Txt.join Builtin.Str.glued;induction cs with
 | nil => rfl
 | cons c cs =>
  rw [List.map_cons, List.drop_one, List.tail_cons, wL]
  simp
theorem Nf (cs : List (List Nat)) : ((cs.map fun l => (⟨l.toArray⟩ : Str)).map (·.length)).sum = cs.flatten.length := by
 rw [List.map_map, List.length_flatten]
 congr 1
section
variable {D : Nat}
theorem EW.Tg {C : Cx} {X : dW} {loc : aF} {k : Nat} {sp : Pos} {x : Str} {pos : Pos} {cs : List (List Nat)} (hx : aB C x) (h0 : (x, LV.ml (cs.map sv)) ∈ loc) (gT : cs.flatten.length + cs.length <= 1000000)
  (he : bS (.Constant (.str (Str.ofString "")) k sp) "join" apos pos [.Name x np] C.env) (hs : aH pos [.Name x np] C.env) (h : Q (sv cs.flatten) loc σ) :
  EW g D C ρ X (.Call (.Attribute (.Constant (.str (Str.ofString "")) k sp) "join" apos) [.Name x np] [] pos) loc σ Q := by
 refine EW.Pw (ys := cs.map fun l => ⟨l.toArray⟩) hx h0 (by rw [List.map_map]; rfl) (by decide) ?_ he hs ?_
 ·rw [Nf, List.length_map]; lia
 ·rw [pL]; exact h
theorem zK (F : aE g) : Sp g ρ 6 678 [] (fun U => V.none) (eQ 338) := by
 intro z ka ko Q X ok H;refine FW.go (F.d 19 rfl) [] rfl rfl (by decide) (by decide +kernel) fun C' B => ?_;have hS : aB C' "self" := B.loc rfl rfl;exact SW.cut rfl (SW.sp (xV F 338 (F.c 6 rfl)) (F.m 18 rfl) B (by decide) hS (by decide +kernel) ⟨_, rfl⟩ rfl (B.int rfl) (fun U => rfl) (EW.glob (F.gl 7 rfl) (B.glob rfl) rfl ⟨z, ka, ko, rfl, rfl, ok, R.mono H (fun a z H ka ko ok => SW.nil (H ka ko ok)) fun U U x => x⟩) rfl)
theorem Jd (F : aE g) : Sp g ρ 5 699 [] (fun U => V.none) (gK 362) := by
 intro z ka ko Q X ok H;refine FW.go (F.d 21 rfl) [] rfl rfl (by decide) (by decide +kernel) fun C' B => ?_;have hS : aB C' "self" := B.loc rfl rfl;exact SW.cut rfl (SW.sp (sM F 362 (F.c 7 rfl)) (F.m 21 rfl) B (by decide) hS (by decide +kernel) ⟨_, rfl⟩ rfl (B.int rfl) (fun U => rfl) (EW.glob (F.gl 8 rfl) (B.glob rfl) rfl ⟨z, ka, ko, rfl, rfl, ok, R.mono H (fun a z H ka ko ok => SW.nil (H ka ko ok)) fun U U x => x⟩) rfl)
theorem Gq (F : aE g) : Sp g ρ 5 706 [] (fun U => V.none) (gK 374) := by
 intro z ka ko Q X ok H;refine FW.go (F.d 22 rfl) [] rfl rfl (by decide) (by decide +kernel) fun C' B => ?_;have hS : aB C' "self" := B.loc rfl rfl;exact SW.cut rfl (SW.sp (sM F 374 (F.c 8 rfl)) (F.m 21 rfl) B (by decide) hS (by decide +kernel) ⟨_, rfl⟩ rfl (B.int rfl) (fun U => rfl) (EW.glob (F.gl 9 rfl) (B.glob rfl) rfl ⟨z, ka, ko, rfl, rfl, ok, R.mono H (fun a z H ka ko ok => SW.nil (H ka ko ok)) fun U U x => x⟩) rfl)
theorem nP (F : aE g) {d : Nat} (ok : Ok z) (hd : z.rem[1]? = some d) {X : kP} {Q : jZ} (h : Q (.bool (isIn pJ d)) (some (z.sc ka ko))) : FW g 1 ρ X 839 [.self] (some (z.sc ka ko)) Q := by
 refine FW.go (F.d 35 rfl) [] rfl rfl (by decide) (by decide +kernel) fun C' B => ?_;have hS : aB C' "self" := B.loc rfl rfl;exact SW.cut rfl (SW.ret (EW.bC rfl (EW.peekA F B (by decide) hS ⟨_, rfl⟩ rfl (EW.int ⟨1, d, z, ka, ko, rfl, rfl, ok, hd, EW.str (fD pJ rfl h)⟩))))
def Es (z : Z) (b : Bool) : Prop := (z.aA ≠ 0 /\ b = true) \/ (z.aA = 0 /\ ∃ d, z.rem[1]? = some d /\ b = isIn pJ d)
theorem xY (F : aE g) (ok : Ok z) (hb : Es z b) {X : kP} {Q : jZ} (h : Q (.bool b) (some (z.sc ka ko))) : FW g 1 ρ X 846 [.self] (some (z.sc ka ko)) Q := by
 refine FW.go (F.d 36 rfl) [] rfl rfl (by decide) (by decide +kernel) fun C' B => ?_;have hS : aB C' "self" := B.loc rfl rfl;refine SW.cut rfl (SW.hZ rfl (BW.val (fun U => rfl) (EW.aU F hS ?_)))
 rcases hb with ⟨hf, rfl⟩ | ⟨hf, d, hd, rfl⟩
 ·exact ⟨fun U => SW.cut rfl (SW.ret (EW.bool h)), fun q => absurd (by simpa using q) hf⟩
 ·refine ⟨fun q => ?_, fun U => ?_⟩
  ·rw [hf] at q; cases q
  ·exact SW.cut rfl (SW.ret (EW.bC rfl (EW.peekA F B (by decide) hS ⟨_, rfl⟩ rfl (EW.int ⟨1, d, z, ka, ko, rfl, rfl, ok, hd, EW.str (fD pJ rfl h)⟩))))
theorem uA (F : aE g) (ok : Ok z) (hb : Es z b) {X : kP} {Q : jZ} (h : Q (.bool b) (some (z.sc ka ko))) : FW g 1 ρ X 853 [.self] (some (z.sc ka ko)) Q := by
 refine FW.go (F.d 37 rfl) [] rfl rfl (by decide) (by decide +kernel) fun C' B => ?_;have hS : aB C' "self" := B.loc rfl rfl;refine SW.cut rfl (SW.hZ rfl (BW.val (fun U => rfl) (EW.aU F hS ?_)))
 rcases hb with ⟨hf, rfl⟩ | ⟨hf, d, hd, rfl⟩
 ·exact ⟨fun U => SW.cut rfl (SW.ret (EW.bool h)), fun q => absurd (by simpa using q) hf⟩
 ·refine ⟨fun q => ?_, fun U => ?_⟩
  ·rw [hf] at q; cases q
  ·exact SW.cut rfl (SW.ret (EW.bC rfl (EW.peekA F B (by decide) hS ⟨_, rfl⟩ rfl (EW.int ⟨1, d, z, ka, ko, rfl, rfl, ok, hd, EW.str (fD pJ rfl h)⟩))))
theorem oN (F : aE g) (hc : z.col ≠ 0) {X : kP} {Q : jZ} (h : Q .none (some (z.sc ka ko))) : FW g 1 ρ X 818 [.self] (some (z.sc ka ko)) Q := by
 refine FW.go (F.d 32 rfl) [] rfl rfl (by decide) (by decide +kernel) fun C' B => ?_;have hS : aB C' "self" := B.loc rfl rfl;refine SW.cut rfl (SW.hZ rfl (BW.bC rfl (EW.gI F hS (EW.int ⟨fun hb => ?_, fun hb => SW.nil (SW.nil h)⟩))));exact absurd (by simpa using hb) hc
theorem lC (F : aE g) (ok : Ok z) (hc : ¬ (z.col = 0 /\ z.rem.take 3 = [45, 45, 45])) {X : kP} {Q : jZ} (h : Q .none (some (z.sc ka ko))) : FW g 2 ρ X 825 [.self] (some (z.sc ka ko)) Q := by
 refine FW.go (F.d 33 rfl) [] rfl rfl (by decide) (by decide +kernel) fun C' B => ?_;have hS : aB C' "self" := B.loc rfl rfl;refine SW.cut rfl (SW.hZ rfl (BW.bC rfl (EW.gI F hS (EW.int ⟨fun hb => ?_, fun hb => SW.nil (SW.nil h)⟩))));have h0 : z.col = 0 := by simpa using hb
 refine SW.cut rfl (SW.hZ rfl (BW.jH (BW.bC rfl (EW.kA F B (by decide) hS ⟨_, rfl⟩ rfl (EW.int ⟨3, z, ka, ko, rfl, rfl, ok, EW.str (qI [45, 45, 45] rfl ⟨fun hb => ⟨fun h => (by cases h), fun U => SW.nil (SW.nil (SW.nil h))⟩, fun hb => ?_⟩)⟩)))));exact absurd ⟨h0, of_decide_eq_true hb⟩ hc
theorem lZ (F : aE g) (ok : Ok z) (hc : ¬ (z.col = 0 /\ z.rem.take 3 = [46, 46, 46])) {X : kP} {Q : jZ} (h : Q .none (some (z.sc ka ko))) : FW g 2 ρ X 832 [.self] (some (z.sc ka ko)) Q := by
 refine FW.go (F.d 34 rfl) [] rfl rfl (by decide) (by decide +kernel) fun C' B => ?_;have hS : aB C' "self" := B.loc rfl rfl;refine SW.cut rfl (SW.hZ rfl (BW.bC rfl (EW.gI F hS (EW.int ⟨fun hb => ?_, fun hb => SW.nil (SW.nil h)⟩))));have h0 : z.col = 0 := by simpa using hb
 refine SW.cut rfl (SW.hZ rfl (BW.jH (BW.bC rfl (EW.kA F B (by decide) hS ⟨_, rfl⟩ rfl (EW.int ⟨3, z, ka, ko, rfl, rfl, ok, EW.str (qI [46, 46, 46] rfl ⟨fun hb => ⟨fun h => (by cases h), fun U => SW.nil (SW.nil (SW.nil h))⟩, fun hb => ?_⟩)⟩)))));exact absurd ⟨h0, of_decide_eq_true hb⟩ hc
def Ay (z : Z) (c : Nat) (b : Bool) : Prop := (isIn lX c = false /\ b = true) \/ (isIn lX c = true /\ ∃ d, z.rem[1]? = some d /\ b = (!isIn pJ d && (c == 45 || (decide (z.aA = 0) && isIn [63, 58] c))))
theorem uZ (F : aE g) {c : Nat} (ok : Ok z) (hc : z.rem[0]? = some c) (hb : Ay z c b) {X : kP} {Q : jZ} (h : Q (.bool b) (some (z.sc ka ko))) : FW g 1 ρ X 860 [.self] (some (z.sc ka ko)) Q := by
 refine FW.go (F.d 38 rfl) ["ch"] rfl rfl (by decide) (by decide +kernel) fun C' B => ?_;have hS : aB C' "self" := B.loc rfl rfl;refine SW.cut rfl (SW.assign rfl (B.loc (x := "ch") rfl rfl).1 (EW.jJ F B (by decide) hS ⟨_, rfl⟩ ok hc ⟨_, .tail .head, ?_⟩));refine SW.cut rfl (SW.ret (EW.mH (EW.bC rfl (EW.var (B.loc rfl rfl) (.tail _ (.head _)) (EW.str (rS lX rfl ?_))))))
 rcases hb with ⟨h1, rfl⟩ | ⟨h1, d, hd, rfl⟩
 ·rw [h1];exact ⟨fun U => h, fun h => (by cases h)⟩
 rw [h1];refine ⟨fun h => (by cases h), fun U => ?_⟩;refine EW.qV (EW.mH (EW.bC rfl (EW.peekA F B (by decide) hS ⟨_, rfl⟩ rfl (EW.int ⟨1, d, z, ka, ko, rfl, rfl, ok, hd, EW.str (rS pJ rfl ?_)⟩))));cases hd2 : isIn pJ d with
 | true =>
  rw [hd2] at h;exact ⟨fun U => h, fun h => (by cases h)⟩
 | false =>
 rw [hd2] at h;refine ⟨fun h => (by cases h), fun U => ?_⟩;refine EW.qV (EW.mH (EW.bC rfl (EW.var (B.loc rfl rfl) (.tail _ (.head _)) (EW.str (dQ 45 rfl ?_)))))
 by_cases GB : c = 45
 ·have e : decide (c = 45) = true := by simp [GB]
  have e2 : (c == 45) = true := by simp [GB]
  rw [e]; rw [e2] at h;exact ⟨fun U => h, fun h => (by cases h)⟩
 have e : decide (c = 45) = false := by simp [GB]
 have e2 : (c == 45) = false := by simp [GB]
 rw [e]; rw [e2] at h;refine ⟨fun h => (by cases h), fun U => ?_⟩;refine EW.qV (EW.mH (EW.not (EW.aU F hS ?_)))
 by_cases hf : z.aA = 0
 ·have e : (!(z.aA != 0)) = true := by simp [hf]
  have e2 : decide (z.aA = 0) = true := by simp [hf]
  rw [e2] at h;show pV _ _ _ _ _ _ _ _ (.bool (!(z.aA != 0))) _ _ (!(z.aA != 0)); rw [e];exact ⟨fun h => (by cases h), fun U => EW.qV (EW.bC rfl (EW.lv B 1 rfl rfl rfl (EW.str (fD [63, 58] rfl h))))⟩
 ·have e : (!(z.aA != 0)) = false := by simp [hf]
  have e2 : decide (z.aA = 0) = false := by simp [hf]
  rw [e2] at h;show pV _ _ _ _ _ _ _ _ (.bool (!(z.aA != 0))) _ _ (!(z.aA != 0)); rw [e];exact ⟨fun U => h, fun h => (by cases h)⟩
end
noncomputable abbrev lv (cs : List (List Nat)) : V := .lst (cs.map sv)
section
variable {D : Nat}
theorem Wx {α : Type} {k : R α} {Q : α -> Z -> Prop} (H : (pC z k).wp Q X) : ¬ z.rem.take 3 = [45, 45, 45] /\ ¬ z.rem.take 3 = [46, 46, 46] /\ k.wp Q X := by
 unfold pC at H
 by_cases h1 : z.rem.take 3 = [45, 45, 45]
 ·rw [if_pos h1] at H; exact H.elim
 by_cases h2 : z.rem.take 3 = [46, 46, 46]
 ·rw [if_neg h1, if_pos h2] at H; exact H.elim
 rw [if_neg h1, if_neg h2] at H;exact (fL h1 h2 H)
theorem xP (F : aE g) (sm : V) : Sp g ρ 2 989 [.bool false, sm] lv fZ := by
 intro z ka ko Q X ok H;refine FW.go (F.d 42 rfl) ["chunks", "length", "ch", "k", "code"] rfl rfl (by decide) (by decide +kernel) fun C' B => ?_;have hS : aB C' "self" := B.loc rfl rfl;unfold fZ at H;cases e : span (fun c => !isIn [39, 34, 92, 0, 32, 9, 13, 10, 133, 8232, 8233] c) z.rem with
 | none => rw [e] at H; exact H.elim
 | some n =>
 rw [e] at H;induction n with
 | zero => exact H.elim
 | succ n =>
 have H := R.aJ H;refine SW.cut rfl (SW.dU (B.loc (x := "chunks") rfl rfl) rfl ⟨by decide, _, .tail (.tail (.tail .head)), ?_⟩);refine SW.cut rfl (SW.Sn rfl (fun U l s => l = [gH, ("double", .val (.bool false)), ("start_mark", .val sm), ("chunks", .ml []), ("length", .un), ("ch", .un), ("k", .un), ("code", .un)] /\ s = some (z.sc ka ko)) 0 ⟨rfl, rfl⟩ ?_)
 rintro _ l s ⟨rfl, rfl⟩
 refine BW.val (fun U => rfl) (EW.bool ⟨fun U => ?_, fun h => by cases h⟩);refine SW.gen fun Q' nx => ?_;refine SW.cut rfl (SW.assign rfl (B.loc (x := "length") rfl rfl).1 (EW.int ⟨_, .cH 4 rfl rfl, ?_⟩));refine SW.cut rfl (SW.Am (p := fun c => !isIn [39, 34, 92, 0, 32, 9, 13, 10, 133, 8232, 8233] c) (fun v => [gH, ("double", .val (.bool false)), ("start_mark", .val sm), ("chunks", .ml []), ("length", v), ("ch", .un), ("k", .un), ("code", .un)]) (B.loc rfl rfl) (fun v => (aO 4 rfl)) (fun v v' => .cH 4 rfl rfl) (fun k c hc => ?_) e ?_)
 ·exact BW.bC rfl (EW.peekA F B (by decide) hS ⟨_, rfl⟩ rfl (EW.lv B 4 rfl rfl rfl ⟨k, c, z, ka, ko, rfl, rfl, ok, hc, EW.str (rS [39, 34, 92, 0, 32, 9, 13, 10, 133, 8232, 8233] rfl ⟨rfl, rfl, rfl⟩)⟩))
 refine SW.cut rfl (SW.hZ rfl (BW.val (fun U => rfl) (EW.lv B 4 rfl rfl rfl ⟨fun hb => ?_, fun hb => ?_⟩)))
 case refine_2 => have := bne_eq_false_iff_eq.mp hb; omega
 refine SW.cut rfl (SW.expr (B.int rfl) rfl (EW.dZ (B.loc rfl rfl) (aO 3 rfl) ⟨_, rfl⟩ rfl (EW.kA F B (by decide) hS ⟨_, rfl⟩ rfl (EW.lv B 4 rfl rfl rfl ⟨n + 1, z, ka, ko, rfl, rfl, ok, _, _, (aO 3 rfl), by decide, .cH 3 rfl rfl, rfl, ?_⟩))));refine SW.cut rfl (SW.Jo F B (by decide) hS ⟨_, rfl⟩ rfl (B.int rfl) (EW.lv B 4 rfl rfl rfl ⟨n + 1, rfl, rfl, rfl, H⟩) ok fun z1 ka ko rY H => SW.nil ?_);refine aR (R.iT H) fun c hc H => ?_
 by_cases Tb : c = 39
 case neg => rw [if_neg Tb] at H; exact H.elim
 subst Tb;rw [if_pos rfl] at H;refine aR (R.iT H) fun d hd H => ?_
 by_cases Xm : d = 39
 ·rw [if_pos Xm] at H; exact H.elim
 rw [if_neg Xm] at H;refine SW.cut rfl (SW.assign rfl (B.loc (x := "ch") rfl rfl).1 (EW.jJ F B (by decide) hS ⟨_, rfl⟩ rY hc ⟨_, .cH 5 rfl rfl, ?_⟩));refine SW.cut rfl (SW.hZ rfl (BW.jH (BW.not (BW.val (fun U => rfl) (EW.lv B 1 rfl rfl rfl ⟨fun h => (by cases h), fun U => ?_⟩)))));refine BW.jH (BW.bC rfl (EW.lv B 5 rfl rfl rfl (EW.str (dQ 39 rfl ⟨fun h => (by cases h), fun U => ?_⟩))));refine BW.oY (BW.bC rfl (EW.peekA F B (by decide) hS ⟨_, rfl⟩ rfl (EW.int ⟨1, d, z1, ka, ko, rfl, rfl, rY, hd, EW.str (dQ 39 rfl ⟨fun hb => absurd (of_decide_eq_true hb) Xm, fun U => ?_⟩)⟩)));refine SW.cut rfl (SW.hZ rfl (BW.yT (BW.jH (BW.val (fun U => rfl) (EW.lv B 1 rfl rfl rfl ⟨fun U => ⟨fun h => (by cases h), fun U => ?_⟩, fun h => by cases h⟩)))));refine BW.Ie (BW.jH (BW.not (BW.val (fun U => rfl) (EW.lv B 1 rfl rfl rfl ⟨fun h => (by cases h), fun U => BW.oY (BW.bC rfl (EW.lv B 5 rfl rfl rfl (EW.str (fD [34, 92] rfl ⟨fun h => (by cases h), fun U => ?_⟩))))⟩))));refine SW.cut rfl (SW.hZ rfl (BW.jH (BW.val (fun U => rfl) (EW.lv B 1 rfl rfl rfl ⟨fun U => ⟨fun h => (by cases h), fun U => ?_⟩, fun h => by cases h⟩))));exact SW.cut rfl (SW.ret (EW.freeze (B.loc (x := "chunks") rfl rfl) (aO 3 rfl) (by exact .cH 3 rfl rfl) (nx _ _ _ (H ka ko rY))))
theorem vA (F : aE g) : Sp g ρ 5 979 [sv [39]] id cU := by
 intro z ka ko Q X ok H;refine FW.go (F.d 41 rfl) ["double", "chunks", "start_mark", "quote", "end_mark"] rfl rfl (by decide) (by decide +kernel) fun C' B => ?_;have hS : aB C' "self" := B.loc rfl rfl;unfold cU at H;refine aR (R.iT H) fun q hq H => ?_
 by_cases Tb : q = 39
 case neg => rw [if_neg Tb] at H; exact H.elim
 subst Tb;rw [if_pos rfl] at H;have H := R.aJ H;refine SW.cut rfl (SW.hZ rfl (BW.bC rfl (EW.lv B 1 rfl rfl rfl (EW.str (dQ 34 rfl ⟨fun h => (by cases h), fun U => ?_⟩)))));refine SW.cut rfl (SW.assign rfl (B.loc (x := "double") rfl rfl).1 (EW.bool ⟨_, .cH 2 rfl rfl, SW.nil ?_⟩));refine SW.cut rfl (SW.dU (B.loc (x := "chunks") rfl rfl) rfl ⟨by decide, _, .cH 3 rfl rfl, ?_⟩);refine SW.cut rfl (SW.assign rfl (B.loc (x := "start_mark") rfl rfl).1 (EW.mark F B (by decide) hS ⟨_, rfl⟩ ⟨_, .cH 4 rfl rfl, ?_⟩));refine SW.cut rfl (SW.assign rfl (B.loc (x := "quote") rfl rfl).1 (EW.jJ F B (by decide) hS ⟨_, rfl⟩ ok hq ⟨_, .cH 5 rfl rfl, ?_⟩));refine SW.cut rfl (SW.rJ F B (by decide) hS ⟨_, rfl⟩ ok H (fun z1 ka ko rY H => ?_) (B.int rfl));have H := R.aJ H;refine SW.cut rfl (SW.expr (B.int rfl) rfl (EW.Hs (B.loc rfl rfl) (aO 3 rfl) ⟨_, rfl⟩ rfl (EW.sp (xP F z.mark) (F.m 41 rfl) B (by decide) hS (by decide +kernel) ⟨_, rfl⟩ rfl (EW.lv B 2 rfl rfl rfl (EW.lv B 4 rfl rfl rfl ⟨z1, ka, ko, rfl, rfl, rY, R.mono H (fun cs z2 H ka ko uD => ?_) fun U U x => x⟩)))))
 by_cases gT : cs.flatten.length + cs.length <= 1000000
 case neg => rw [if_neg gT] at H; exact H.elim
 rw [if_pos gT] at H;refine aR (R.iT H) fun c hc H => ?_
 by_cases Tb : c = 39
 case neg => rw [if_neg Tb] at H; exact H.elim
 subst Tb;rw [if_pos rfl] at H;have H := R.aJ H;refine ⟨_, [], _, rfl, (aO 3 rfl), by rw [List.length_map, List.length_nil, Nat.zero_add]; unfold sizeLine; lia, .cH 3 rfl rfl, rfl, ?_⟩;refine SW.cut rfl (SW.Sn rfl (fun U l s => l = [gH, ("style", .val (sv [39])), ("double", .val (.bool false)), ("chunks", .ml ([] ++ cs.map sv)), ("start_mark", .val z.mark), ("quote", .val (sv [39])), ("end_mark", .un)] /\ s = some (z2.sc ka ko)) 0 ⟨rfl, rfl⟩ ?_)
 rintro _ l s ⟨rfl, rfl⟩
 refine BW.bC rfl (EW.jJ F B (by decide) hS ⟨_, rfl⟩ uD hc (EW.lv B 5 rfl rfl rfl (xO 39 rfl ⟨fun h => (by cases h), fun U => ?_⟩)));refine SW.cut rfl (SW.rJ F B (by decide) hS ⟨_, rfl⟩ uD H (fun z4 ka ko TH H => ?_) (B.int rfl));refine SW.cut rfl (SW.assign rfl (B.loc (x := "end_mark") rfl rfl).1 (EW.mark F B (by decide) hS ⟨_, rfl⟩ ⟨_, .cH 6 rfl rfl, ?_⟩));refine SW.cut rfl (SW.ret (EW.yS (F.c 15 rfl) rfl (by decide) rfl (EW.glob (F.gl 16 rfl) (B.glob rfl) rfl ⟨rfl, ?_⟩)));refine EW.Tg (cs := cs) (B.loc rfl rfl) (aO 3 rfl) gT ⟨_, rfl⟩ rfl (EW.bool (EW.lv B 4 rfl rfl rfl (EW.lv B 6 rfl rfl rfl (EW.lv B 1 rfl rfl rfl ⟨rfl, ?_⟩))));exact H ka ko TH
theorem uR (F : aE g) {Q : jZ} {X : kP} (ok : Ok z) (H : (cO z).wp (PQ (fun U => V.none) Q) (PX X)) : Br g 6 ρ X 804 [.self] [("style", sv [39])] (some (z.sc ka ko)) Q := by
 refine Br.go F.iS [] rfl rfl (by decide) (by decide +kernel) fun C' B => ?_;have hS : aB C' "self" := B.loc rfl rfl;have H := R.aJ H;refine SW.cut rfl (SW.sp (oB F) (F.m 11 rfl) B (by decide) hS (by decide +kernel) ⟨_, rfl⟩ rfl (B.int rfl) (fun U => rfl) ⟨z, ka, ko, rfl, rfl, ok, R.mono H (fun a z H ka ko ok => ?_) fun U U x => x⟩ rfl);refine SW.cut rfl (SW.aQ F hS rfl (EW.bool (lP _ z ka ko _ rfl rfl rfl ?_)));have H := R.aJ H;refine SW.cut rfl (SW.push F hS (B.int rfl) ⟨_, rfl⟩ rfl rfl (EW.sp (vA F) (F.m 40 rfl) B (by decide) hS (by decide +kernel) ⟨_, rfl⟩ rfl (EW.lv B 1 rfl rfl rfl ⟨{ z with allow := false }, ka, ko, rfl, rfl, ok.same rfl rfl rfl, R.mono H (fun t z H ka ko ok => ?_) fun U U x => x⟩)))
 have H := R.jS H;exact ⟨z, ka, ko, rfl, H.1, SW.nil (H.2 ka ko (ok.same rfl rfl rfl))⟩
theorem Gs (F : aE g) : Sp g ρ 7 790 [] (fun U => V.none) cO := by
 intro z ka ko Q X ok H;refine FW.go (F.d 30 rfl) [] rfl rfl (by decide) (by decide +kernel) fun C' B => ?_;have hS : aB C' "self" := B.loc rfl rfl;refine SW.cut rfl (SW.expr (B.int rfl) rfl (EW.Ja (D' := 6) B.hh (F.m 29 rfl) (by decide +kernel) (by decide) ⟨_, rfl⟩ (EW.var hS (.head _) (fL rfl rfl (EW.str ?_)))));exact uR F ok (R.mono H (fun a z H ka ko ok => ⟨rfl, SW.nil (H ka ko ok)⟩) fun U U x => x)
end
section
variable {D : Nat}
theorem sW (F : aE g) (d sm : V) : Sp g ρ 3 1017 [d, sm] (fun b => lv (if b then [[32]] else [])) dM := by
 intro z ka ko Q X ok H;refine FW.go (F.d 44 rfl) ["chunks", "length", "whitespaces", "ch", "line_break", "prefix", "breaks"] rfl rfl (by decide) (by decide +kernel) fun C' B => ?_;have hS : aB C' "self" := B.loc rfl rfl;unfold dM at H;cases e : span (· == 32) z.rem with
 | none => rw [e] at H; exact H.elim
 | some n =>
 rw [e] at H;induction n with
 | succ n => exact H.elim
 | zero =>
 refine SW.cut rfl (SW.dU (B.loc (x := "chunks") rfl rfl) rfl ⟨by decide, _, .cH 3 rfl rfl, ?_⟩);refine SW.cut rfl (SW.assign rfl (B.loc (x := "length") rfl rfl).1 (EW.int ⟨_, .cH 4 rfl rfl, ?_⟩));refine SW.cut rfl (SW.Am (p := fun c => c == 32) (fun v => [gH, ("indent", .val d), ("start_mark", .val sm), ("chunks", .ml []), ("length", v), ("whitespaces", .un), ("ch", .un), ("line_break", .un), ("prefix", .un), ("breaks", .un)]) (B.loc rfl rfl) (fun v => (aO 4 rfl)) (fun v v' => .cH 4 rfl rfl) (fun k c hc => ?_) e ?_)
 ·refine BW.bC rfl (EW.peekA F B (by decide) hS ⟨_, rfl⟩ rfl (EW.lv B 4 rfl rfl rfl ⟨k, c, z, ka, ko, rfl, rfl, ok, hc, EW.str (fD [32] rfl ⟨?_, rfl, rfl⟩)⟩))
  by_cases h : c = 32 <;> simp [isIn, h]
 refine SW.cut rfl (SW.assign rfl (B.loc (x := "whitespaces") rfl rfl).1 (EW.kA F B (by decide) hS ⟨_, rfl⟩ rfl (EW.lv B 4 rfl rfl rfl ⟨0, z, ka, ko, rfl, rfl, ok, _, .cH 5 rfl rfl, ?_⟩)));refine SW.cut rfl (SW.Jo (P := fun z' => z' = z) (Xw := fun U U => True) F B (by decide) hS ⟨_, rfl⟩ rfl (B.int rfl) (EW.lv B 4 rfl rfl rfl ⟨0, rfl, rfl, rfl, rfl⟩) ok fun z1 ka ko rY ez => ?_);subst ez;refine aR (R.iT H) fun c hc H => ?_;refine SW.cut rfl (SW.assign rfl (B.loc (x := "ch") rfl rfl).1 (EW.jJ F B (by decide) hS ⟨_, rfl⟩ rY hc ⟨_, .cH 6 rfl rfl, ?_⟩));refine SW.cut rfl (SW.hZ rfl (BW.bC rfl (EW.lv B 6 rfl rfl rfl (EW.str (fD MD rfl ⟨fun hb => ?_, fun hb => ?_⟩)))))
 ·rw [if_pos hb] at H;have H := R.aJ H;refine SW.cut rfl (SW.assign rfl (B.loc (x := "line_break") rfl rfl).1 (EW.sp (pG F) (F.m 44 rfl) B (by decide) hS (by decide +kernel) ⟨_, rfl⟩ rfl ⟨z1, ka, ko, rfl, rfl, rY, R.mono H (fun lb z2 H ka ko uD => ⟨_, .cH 7 rfl rfl, ?_⟩) fun U U x => x⟩));refine qA (Wx H) fun PZ LD H => ?_
  by_cases IU : lb = [10]
  case neg => rw [if_neg IU] at H; exact H.elim
  rw [if_pos IU] at H;refine SW.cut rfl (SW.aQ F hS rfl (EW.bool (lP _ z2 ka ko _ rfl rfl rfl ?_)));have BM : Ok { z2 with allow := true } := uD.same rfl rfl rfl
  refine SW.cut rfl (SW.assign rfl (B.loc (x := "prefix") rfl rfl).1 (EW.kA F B (by decide) hS ⟨_, rfl⟩ rfl (EW.int ⟨3, { z2 with allow := true }, ka, ko, rfl, rfl, BM, _, .cH 8 rfl rfl, ?_⟩)))
  refine SW.cut rfl (SW.hZ rfl (BW.jH (BW.yT (BW.bC rfl (EW.lv B 8 rfl rfl rfl (EW.str (qI [45, 45, 45] rfl ⟨fun hb => absurd (of_decide_eq_true hb) PZ, fun U => ?_⟩)))))));refine BW.Ie (BW.bC rfl (EW.var (B.loc rfl rfl) (.tail _ (.tail _ (.tail _ (.tail _ (.tail _ (.tail _ (.tail _ (.tail _ (.head _))))))))) (EW.str (qI [46, 46, 46] rfl ⟨fun hb => ?_, fun hb => absurd (of_decide_eq_true hb) LD⟩))));refine ⟨fun h => (by cases h), fun U => SW.nil ?_⟩;refine SW.cut rfl (SW.dU (B.loc (x := "breaks") rfl rfl) rfl ⟨by decide, _, .cH 9 rfl rfl, ?_⟩);refine aR (R.iT H) fun c3 EX H3 => ?_
  by_cases Uw : isIn [32, 13, 10, 133, 8232, 8233] c3 = true
  ·rw [if_pos Uw] at H3; exact H3.elim
  rw [if_neg Uw] at H3;refine SW.cut rfl (SW.Sn rfl (fun U l s => l = [gH, ("indent", .val d), ("start_mark", .val sm), ("chunks", .ml []), ("length", .val (.int ((0 : Nat) : Int))), ("whitespaces", .val (sv (z1.rem.take 0))), ("ch", .val (sv [c])), ("line_break", .val (sv lb)), ("prefix", .val (sv (z2.rem.take 3))), ("breaks", .ml [])] /\ s = some (({ z2 with allow := true } : Z).sc ka ko)) 0 ⟨rfl, rfl⟩ ?_)
  rintro _ l s ⟨rfl, rfl⟩
  refine BW.bC rfl (EW.jJ (z := { z2 with allow := true }) F B (by decide) hS ⟨_, rfl⟩ BM EX (EW.str (fD [32, 13, 10, 133, 8232, 8233] rfl ⟨fun hb => absurd hb Uw, fun U => ?_⟩)))
  subst IU;refine SW.cut rfl (SW.hZ rfl (BW.bC rfl (EW.var (B.loc rfl rfl) (.tail _ (.tail _ (.tail _ (.tail _ (.tail _ (.tail _ (.tail _ (.head _)))))))) (EW.str (Kd [10] rfl ⟨fun hb => absurd rfl (of_decide_eq_true hb), fun U => ?_⟩)))));refine SW.cut rfl (SW.hZ rfl (BW.not (BW.own (B.loc rfl rfl) (.tail _ (.tail _ (.tail _ (.tail _ (.tail _ (.tail _ (.tail _ (.tail _ (.tail _ (.head _)))))))))) (by decide) ⟨fun U => ?_, fun h => by cases h⟩)));refine SW.cut rfl (SW.expr (B.int rfl) rfl (EW.dZ (B.loc rfl rfl) (aO 3 rfl) ⟨_, rfl⟩ rfl (EW.str ⟨_, _, (aO 3 rfl), by decide, .cH 3 rfl rfl, rfl, SW.nil (SW.nil ?_)⟩)));refine SW.cut rfl (SW.expr (B.int rfl) rfl (EW.oR (ws := [] ++ [sv [32]]) (us := []) (B.loc (x := "chunks") rfl rfl) (B.loc (x := "breaks") rfl rfl) (aO 3 rfl) (aO 9 rfl) ⟨_, rfl⟩ rfl (by decide) (by exact .cH 3 rfl rfl) ⟨rfl, SW.nil ?_⟩));exact SW.cut rfl (SW.ret (EW.freeze (B.loc (x := "chunks") rfl rfl) (aO 3 rfl) (by exact .cH 3 rfl rfl) (H3 ka ko BM)))
 ·rw [if_neg (by rw [hb]; decide)] at H;refine SW.cut rfl (SW.hZ rfl (BW.val (fun U => rfl) (EW.lv B 5 rfl rfl rfl ⟨(Nat.zero_le _ : 0 <= sizeLine), fun h => (by cases h), fun U => SW.nil (SW.nil ?_)⟩)));exact SW.cut rfl (SW.ret (EW.freeze (B.loc (x := "chunks") rfl rfl) (aO 3 rfl) (by exact .cH 3 rfl rfl) (H ka ko rY)))
end
noncomputable def nO (fl : Bool) : List Nat := pJ ++ (if fl then [44, 91, 93, 123, 125] else [])
inductive Yz (fl : Bool) (l : List Nat) (k : Nat) : Nat -> Nat -> Prop
 | blank {c : Nat} (hb : isIn pJ c = true) : Yz fl l k c 0
 | Zn {d : Nat} (hd : l[k + 1]? = some d) (h : isIn (nO fl) d = true) : Yz fl l k 58 0
 | Xn {d m : Nat} (hd : l[k + 1]? = some d) (h : isIn (nO fl) d = false) (e : dG fl (l.drop (k + 1)) = some m) : Yz fl l k 58 (m + 1)
 | stop {c : Nat} (hb : isIn pJ c = false) (Xl : c ≠ 58) (hf : (fl && isIn [44, 63, 91, 93, 123, 125] c) = true) : Yz fl l k c 0
 | go {c m : Nat} (hb : isIn pJ c = false) (Xl : c ≠ 58) (hf : (fl && isIn [44, 63, 91, 93, 123, 125] c) = false) (e : dG fl (l.drop (k + 1)) = some m) : Yz fl l k c (m + 1)
theorem Bf {o : Option Nat} {m : Nat} {P : Nat -> Prop} (h : o.map (· + 1) = some m) (k : ∀ n, o = some n -> P (n + 1)) : P m := by
 refine aR (Option.map_eq_some_iff.mp h) fun n e r => ?_;exact r ▸ k n e
theorem qO {fl : Bool} {l : List Nat} {k m c : Nat} (hc : l[k]? = some c) (h : dG fl (l.drop k) = some m) : Yz fl l k c m := by
 obtain ⟨hk, ec⟩ := List.getElem?_eq_some_iff.mp hc;rw [List.drop_eq_getElem_cons hk, ec] at h;have hd : ∀ d r, l.drop (k + 1) = d :: r -> l[k + 1]? = some d := fun d r e => by
  have := List.getElem?_drop (xs := l) (i := k + 1) (j := 0);rw [e] at this; exact this.symm
 rw [tZ] at h;cases hb : isIn pJ c with
 | true => rw [if_pos hb] at h; exact Option.some.inj h ▸ .blank hb
 | false =>
  rw [if_neg (by rw [hb]; decide)] at h
  by_cases Xl : c = 58
  ·rw [if_pos Xl] at h;subst Xl;generalize er : l.drop (k + 1) = r at h;induction r with
   | nil => exact nomatch h
   | cons d r _ =>
    have hd := hd d r er;have h : (if isIn (nO fl) d = true then some 0 else (dG fl (d :: r)).map (· + 1)) = some m := h;cases e1 : isIn (nO fl) d with
    | true => rw [if_pos e1] at h; exact Option.some.inj h ▸ .Zn hd e1
    | false => rw [if_neg (by rw [e1]; decide)] at h; exact Bf h fun n e => .Xn hd e1 (er ▸ e)
  ·rw [if_neg Xl] at h;cases hf : (fl && isIn [44, 63, 91, 93, 123, 125] c) with
   | true => rw [if_pos hf] at h; exact Option.some.inj h ▸ .stop hb Xl hf
   | false => rw [if_neg (by rw [hf]; decide)] at h; exact Bf h fun n e => .go hb Xl hf e
theorem oH {fl : Bool} {l : List Nat} {k m : Nat} (h : dG fl (l.drop k) = some m) : ∃ c, l[k]? = some c := by
 cases e : l[k]? with
 | some c => exact ⟨c, rfl⟩
 | none => rw [List.drop_eq_nil_iff.mpr (List.getElem?_eq_none_iff.mp e)] at h; exact nomatch h
section
variable {D : Nat}
inductive NM (bN : Z) (ka : Addr) (ko : Obj) (n m : Nat) (l : aF) (s : bQ) : Prop
 | mk (k : Nat) (ch : LV) (hk : k + m = n) (el : l = [gH, ("chunks", .ml []), ("start_mark", .val bN.mark), ("end_mark", .val bN.mark), ("indent", .val (.int (bN.indent + 1))), ("spaces", .ml []), ("length", .val (.int ((k : Nat) : Int))), ("ch", ch)]) (es : s = some (bN.sc ka ko)) (e : dG (bN.aA != 0) (bN.rem.drop k) = some m)
noncomputable def Sk (ch sm em ind sp len c : LV) : aF := [gH, ("chunks", ch), ("start_mark", sm), ("end_mark", em), ("indent", ind), ("spaces", sp), ("length", len), ("ch", c)]
noncomputable def Zw : List Stmt := qZ (aL 34 67).body 5 0
noncomputable def BU : Expr := Bc ((qZ Zw 2 0).getD 1 (.Pass default))
theorem Ti (F : aE g) {C' : Cx} {X : dW} (B : Bd C' (aL 34 67)) {bN : Z} {k d : Nat} {l1 l2 l3 l4 l5 : LV} (ok : Ok bN) (hd : bN.rem[k + 1]? = some d) {Q : lR}
  (h : zB g 4 C' ρ X (.BoolOp .Or [(Yq BU).getD 2 (.Constant .none 0 default)] BU.pos) Q (isIn (nO (bN.aA != 0)) d) (Sk l1 l2 l3 l4 l5 (.val (.int ((k : Nat) : Int))) (.val (sv [58]))) (some (bN.sc ka ko))) :
  BW g 4 C' ρ X (.BoolOp .Or ((Yq BU).drop 1) BU.pos) (Sk l1 l2 l3 l4 l5 (.val (.int ((k : Nat) : Int))) (.val (sv [58]))) (some (bN.sc ka ko)) Q := by
 have hS : aB C' "self" := B.loc rfl rfl;refine BW.yT (BW.jH (BW.bC rfl (EW.lv B 7 rfl rfl rfl (EW.str (dQ 58 rfl ⟨fun hb => absurd rfl (of_decide_eq_false hb), fun U => ?_⟩)))));refine BW.oY (BW.bC rfl (EW.peekA F B (by decide) hS ⟨_, rfl⟩ rfl (EW.add (EW.lv B 6 rfl rfl rfl (EW.int ⟨_, _, rfl, rfl, k + 1, d, bN, ka, ko, rfl, rfl, ok, hd, ?_⟩)))));refine EW.tA (EW.str (EW.uC (BW.val (fun U => rfl) (EW.aU F hS ?_))));refine ⟨fun hb => EW.str ⟨_, _, rfl, rfl, by decide +kernel, fD (pJ ++ [44, 91, 93, 123, 125]) rfl ?_⟩, fun hb => EW.str ⟨_, _, rfl, rfl, by decide +kernel, fD pJ rfl ?_⟩⟩
 ·rw [show nO (bN.aA != 0) = pJ ++ [44, 91, 93, 123, 125] by rw [hb]; rfl] at h; exact h
 ·rw [show nO (bN.aA != 0) = pJ by rw [hb]; rfl] at h; exact h
theorem BW.Oq (F : aE g) {C' : Cx} {X : dW} (B : Bd C' (aL 34 67)) {bN : Z} {k m c : Nat} (ok : Ok bN) (es : dG (bN.aA != 0) (bN.rem.drop k) = some m) (hc : bN.rem[k]? = some c) {Q : lR}
  (h : Q (m == 0) [gH, ("chunks", .ml []), ("start_mark", .val bN.mark), ("end_mark", .val bN.mark), ("indent", .val (.int (bN.indent + 1))), ("spaces", .ml []), ("length", .val (.int ((k : Nat) : Int))), ("ch", .val (sv [c]))] (some (bN.sc ka ko))) :
  BW g 4 C' ρ X (Bc ((qZ (qZ (aL 34 67).body 5 0) 2 0).getD 1 (.Pass default))) [gH, ("chunks", .ml []), ("start_mark", .val bN.mark), ("end_mark", .val bN.mark), ("indent", .val (.int (bN.indent + 1))), ("spaces", .ml []), ("length", .val (.int ((k : Nat) : Int))), ("ch", .val (sv [c]))] (some (bN.sc ka ko)) Q := by
 have hS : aB C' "self" := B.loc rfl rfl;have Om : Q ((bN.aA != 0) && isIn [44, 63, 91, 93, 123, 125] c) (Sk (.ml []) (.val bN.mark) (.val bN.mark) (.val (.int (bN.indent + 1))) (.ml []) (.val (.int ((k : Nat) : Int))) (.val (sv [c]))) (some (bN.sc ka ko)) ->
   BW g 4 C' ρ X ((Yq BU).getD 2 (.Constant .none 0 default)) (Sk (.ml []) (.val bN.mark) (.val bN.mark) (.val (.int (bN.indent + 1))) (.ml []) (.val (.int ((k : Nat) : Int))) (.val (sv [c]))) (some (bN.sc ka ko)) Q := by
  intro hq;refine BW.jH (BW.val (fun U => rfl) (EW.aU F hS ⟨fun hb => ?_, fun hb => ?_⟩))
  ·rw [hb, Bool.false_and] at hq; exact hq
  ·rw [hb, Bool.true_and] at hq;exact BW.oY (BW.bC rfl (EW.lv B 7 rfl rfl rfl (EW.str (fD [44, 63, 91, 93, 123, 125] rfl hq))))
 have FV := qO hc es;clear es hc;refine BW.yT (BW.bC rfl (EW.lv B 7 rfl rfl rfl (EW.str (fD pJ rfl ?_))));induction FV with
 | blank h1 => rw [h1]; exact zB.p1 h
 | stop h1 h2 h4 =>
  rw [h1];refine zB.p2 (BW.yT (BW.jH (BW.bC rfl (EW.lv B 7 rfl rfl rfl (EW.str (dQ 58 rfl ⟨fun U => zB.p2 ?_, fun hb => absurd (of_decide_eq_true hb) h2⟩))))));exact BW.Ie (Om (by rw [h4]; exact h))
 | go h1 h2 h4 _ =>
  rw [h1];refine zB.p2 (BW.yT (BW.jH (BW.bC rfl (EW.lv B 7 rfl rfl rfl (EW.str (dQ 58 rfl ⟨fun U => zB.p2 ?_, fun hb => absurd (of_decide_eq_true hb) h2⟩))))));exact BW.Ie (Om (by rw [h4]; exact h))
 | Zn hd h4 => exact zB.p2 (Ti F B ok hd (by rw [h4]; exact zB.p1 h))
 | Xn hd h4 _ => exact zB.p2 (Ti F B ok hd (by rw [h4]; exact zB.p2 (BW.Ie (Om (by cases (bN.aA != 0) <;> exact h)))))
noncomputable def Lj (ind : Int) (t : V) (b : Bool) (z : Z) : R V := if b = true then (peek 0 z).bind fun c z => if c = 35 then .wall else if z.aA = 0 /\ z.col < ind + 1 then .ok t z else .wall else .ok t z
noncomputable def Uo (k : Nat) (z : Z) : R V := (fwd k { z with allow := false }).bind fun U z1 => (dM z1).bind (Lj z.indent (Bj (sv (z.rem.take k)) true z.mark z1.mark .none))
section
variable {C' : Cx} {X : kP} {Q : jZ} {ind : Int} {sm em : V} {len ch : LV}
theorem Mo (F : aE g) (B : Bd C' (aL 34 67)) (ok : Ok z) {cs : List Nat} (hl : cs.length <= 100000) {sp ind : LV} (H : (PQ id Q) (Bj (sv cs) true sm em .none) z) :
  SW g 4 C' ρ (fun x U s => X x s) ((aL 34 67).body.drop 6) (Sk (.ml [sv cs]) (.val sm) (.val em) ind sp len ch) (some (z.sc ka ko)) (eC Q) := by
 have e : ([cs] : List (List Nat)).flatten = cs := List.append_nil _;refine SW.cut rfl (SW.ret (EW.yS (F.c 16 rfl) rfl (by decide) rfl (EW.glob (F.gl 16 rfl) (B.glob rfl) rfl ⟨rfl, ?_⟩)));refine EW.Tg (cs := [cs]) (B.loc rfl rfl) (aO 1 rfl) (by rw [e]; exact Nat.le_trans (Nat.add_le_add_right hl 1) (by decide)) ⟨_, rfl⟩ rfl (EW.bool (EW.lv B 2 rfl rfl rfl (EW.lv B 3 rfl rfl rfl ⟨rfl, ?_⟩)));rw [e];exact H ka ko ok
theorem Xh (F : aE g) (B : Bd C' (aL 34 67)) (ok : Ok z) {cs : List Nat} (hl : cs.length <= 100000) {J : Nat -> aF -> bQ -> Prop} {jj : Nat} (H : (Lj ind (Bj (sv cs) true sm em .none) b z).wp (PQ id Q) (PX X)) :
  SW g 4 C' ρ (fun x U s => X x s) (Zw.drop 10) (Sk (.ml [sv cs]) (.val sm) (.val em) (.val (.int (ind + 1))) (.val (lv (if b then [[32]] else []))) len ch) (some (z.sc ka ko)) (Xu J jj (lO g 4 C' ρ (fun x U s => X x s) ((aL 34 67).body.drop 6) (eC Q))) := by
 have hS : aB C' "self" := B.loc rfl rfl;unfold Lj at H;refine SW.cut rfl (SW.hZ rfl (BW.yT (BW.not (BW.val (fun U => rfl) (EW.lv B 5 rfl rfl rfl ?_)))));induction b with
 | false => exact ⟨by decide, fun U => yJ.p1 (SW.cut rfl (SW.brk (Mo F B ok hl H))), fun h => absurd h (by decide)⟩
 | true =>
 refine aR (R.iT H) fun c4 PL H => ?_
 by_cases Wh : c4 = 35
 ·rw [if_pos Wh] at H; exact H.elim
 rw [if_neg Wh] at H
 by_cases Qt : z.aA = 0 /\ z.col < ind + 1
 case neg => rw [if_neg Qt] at H; exact H.elim
 rw [if_pos Qt] at H;refine ⟨by decide, fun h => absurd h (by decide), fun U => ?_⟩;refine BW.yT (BW.bC rfl (EW.jJ F B (by decide) hS ⟨_, rfl⟩ ok PL (EW.str (dQ 35 rfl ⟨fun hb => absurd (of_decide_eq_true hb) Wh, fun U => ?_⟩))));refine BW.Ie (BW.jH (BW.not (BW.val (fun U => rfl) (EW.aU F hS ⟨fun hb => ?_, fun U => ?_⟩))))
 ·rw [Qt.1] at hb; exact nomatch hb
 exact BW.oY (BW.bC rfl (EW.gI F hS (EW.lv B 4 rfl rfl rfl ⟨fun U => SW.cut rfl (SW.brk (Mo F B ok hl H)), fun hb => absurd Qt.2 (of_decide_eq_false hb)⟩)))
theorem Uz (F : aE g) (B : Bd C' (aL 34 67)) {bN : Z} (ok : Ok bN) {n : Nat} {J : Nat -> aF -> bQ -> Prop} {jj : Nat} (H : (Uo (n + 1) bN).wp (PQ id Q) (PX X)) :
  SW g 4 C' ρ (fun x U s => X x s) (Zw.drop 3) (Sk (.ml []) (.val bN.mark) (.val em) (.val (.int (bN.indent + 1))) (.ml []) (.val (.int ((n + 1 : Nat) : Int))) ch) (some (bN.sc ka ko)) (Xu J jj (lO g 4 C' ρ (fun x U s => X x s) ((aL 34 67).body.drop 6) (eC Q))) := by
 have hS : aB C' "self" := B.loc rfl rfl;have rY : Ok { bN with allow := false } := ok.same rfl rfl rfl
 have hlen : (bN.rem.take (n + 1)).length <= 100000 := by
  rw [List.length_take];refine fO ok.ex fun U U U h => ?_;have := ok.sz; lia
 have H := R.aJ H;refine SW.cut rfl (SW.hZ rfl (BW.bC rfl (EW.lv B 6 rfl rfl rfl (EW.int ⟨fun hb => ?_, fun U => SW.nil ?_⟩))))
 ·have := beq_iff_eq.mp (show (((n + 1 : Nat) : Int) == 0) = true from hb); lia
 refine SW.cut rfl (SW.aQ F hS rfl (EW.bool (lP _ bN ka ko _ rfl rfl rfl ?_)));refine SW.cut rfl (SW.expr (B.int rfl) rfl (EW.oR (ws := []) (us := []) (B.loc (x := "chunks") rfl rfl) (B.loc (x := "spaces") rfl rfl) (aO 1 rfl) (aO 5 rfl) ⟨_, rfl⟩ rfl (by decide) (by exact .cH 1 rfl rfl) ⟨rfl, ?_⟩));refine SW.cut rfl (SW.expr (B.int rfl) rfl (EW.dZ (B.loc (x := "chunks") rfl rfl) (aO 1 rfl) ⟨_, rfl⟩ rfl (EW.kA F B (by decide) hS ⟨_, rfl⟩ rfl (EW.lv B 6 rfl rfl rfl ⟨n + 1, { bN with allow := false }, ka, ko, rfl, rfl, rY, _, _, (aO 1 rfl), by decide, .cH 1 rfl rfl, rfl, ?_⟩))))
 refine SW.cut rfl (SW.Jo F B (by decide) hS ⟨_, rfl⟩ rfl (B.int rfl) (EW.lv B 6 rfl rfl rfl ⟨n + 1, rfl, rfl, rfl, H⟩) rY fun z1 ka ko uD H => ?_);have H := R.aJ H;refine SW.cut rfl (SW.assign rfl (B.loc (x := "end_mark") rfl rfl).1 (EW.mark F B (by decide) hS ⟨_, rfl⟩ ⟨_, .cH 3 rfl rfl, ?_⟩));exact SW.cut rfl (SW.assign rfl (B.loc (x := "spaces") rfl rfl).1 (EW.sp (sW F (.int (bN.indent + 1)) bN.mark) (F.m 43 rfl) B (by decide) hS (by decide +kernel) ⟨_, rfl⟩ rfl (EW.lv B 4 rfl rfl rfl (EW.lv B 2 rfl rfl rfl ⟨z1, ka, ko, rfl, rfl, uD, R.mono H (fun b z2 H ka ko BM => ⟨_, .cH 5 rfl rfl, Xh F B BM hlen H⟩) fun U U x => x⟩))))
theorem Bn {fl : Bool} {l : List Nat} {k m : Nat} (h : dG fl (l.drop k) = some (m + 1)) : dG fl (l.drop (k + 1)) = some m := by
 obtain ⟨c, hc⟩ := oH h;cases qO hc h with
 | Xn _ _ e => exact e
 | go _ _ _ e => exact e
theorem Qa (F : aE g) (B : Bd C' (aL 34 67)) {bN : Z} (ok : Ok bN) {n k m : Nat} {J : Nat -> aF -> bQ -> Prop} {jj : Nat} (H : (Uo (n + 1) bN).wp (PQ id Q) (PX X)) (hk : k + m = n + 1) (es : dG (bN.aA != 0) (bN.rem.drop k) = some m) :
  SW g 4 C' ρ (fun x U s => X x s) (qZ Zw 2 0) (Sk (.ml []) (.val bN.mark) (.val bN.mark) (.val (.int (bN.indent + 1))) (.ml []) (.val (.int (k : Int))) ch) (some (bN.sc ka ko)) (Xu (NM bN ka ko (n + 1)) m (lO g 4 C' ρ (fun x U s => X x s) (Zw.drop 3) (Xu J jj (lO g 4 C' ρ (fun x U s => X x s) ((aL 34 67).body.drop 6) (eC Q))))) := by
 have hS : aB C' "self" := B.loc rfl rfl;obtain ⟨c, hc⟩ := oH es;refine SW.cut rfl (SW.assign rfl (B.loc (x := "ch") rfl rfl).1 (EW.peekA F B (by decide) hS ⟨_, rfl⟩ rfl (EW.lv B 6 rfl rfl rfl ⟨k, c, bN, ka, ko, rfl, rfl, ok, hc, _, .cH 7 rfl rfl, ?_⟩)));induction m with
 | zero =>
  have hk : k = n + 1 := hk;subst hk;exact SW.cut rfl (SW.hZ rfl (BW.Oq F B ok es hc (yJ.p1 (SW.cut rfl (SW.brk (Uz F B ok H))))))
 | succ m =>
  refine SW.cut rfl (SW.hZ rfl (BW.Oq F B ok es hc (yJ.p2 (SW.nil ?_))));exact SW.cut rfl (SW.Cs (B.loc (x := "length") rfl rfl).1 (aO 6 rfl) (EW.int ⟨1, rfl, _, .cH 6 rfl rfl, SW.nil ⟨m, Nat.lt_succ_self m, k + 1, _, by rw [← hk]; lia, rfl, rfl, Bn es⟩⟩))
end
theorem Nl (F : aE g) : Sp g ρ 4 1010 [] id fY := by
 intro bN ka ko Q X ok H;refine FW.go (F.d 43 rfl) ["chunks", "start_mark", "end_mark", "indent", "spaces", "length", "ch"] rfl rfl (by decide) (by decide +kernel) fun C' B => ?_;have hS : aB C' "self" := B.loc rfl rfl;unfold fY at H;refine aR (R.iT H) fun c0 Xr H => ?_
 by_cases IH : c0 = 35
 ·rw [if_pos IH] at H; exact H.elim
 rw [if_neg IH] at H;cases e : dG (bN.aA != 0) bN.rem with
 | none => rw [e] at H; exact H.elim
 | some n =>
 rw [e] at H;induction n with
 | zero => exact H.elim
 | succ n =>
 refine SW.cut rfl (SW.dU (B.loc (x := "chunks") rfl rfl) rfl ⟨by decide, _, .cH 1 rfl rfl, ?_⟩);refine SW.cut rfl (SW.assign rfl (B.loc (x := "start_mark") rfl rfl).1 (EW.mark F B (by decide) hS ⟨_, rfl⟩ ⟨_, .cH 2 rfl rfl, ?_⟩));refine SW.cut rfl (SW.assign rfl (B.loc (x := "end_mark") rfl rfl).1 (EW.lv B 2 rfl rfl rfl ⟨_, .cH 3 rfl rfl, ?_⟩));refine SW.cut rfl (SW.assign rfl (B.loc (x := "indent") rfl rfl).1 (EW.add (EW.lS F hS (EW.int ⟨_, _, rfl, rfl, _, .cH 4 rfl rfl, ?_⟩))));refine SW.cut rfl (SW.dU (B.loc (x := "spaces") rfl rfl) rfl ⟨by decide, _, .cH 5 rfl rfl, ?_⟩);refine SW.cut rfl (SW.Sn rfl (fun U l s => l = Sk (.ml []) (.val bN.mark) (.val bN.mark) (.val (.int (bN.indent + 1))) (.ml []) .un .un /\ s = some (bN.sc ka ko)) 0 ⟨rfl, rfl⟩ ?_)
 rintro _ l s ⟨rfl, rfl⟩
 refine BW.val (fun U => rfl) (EW.bool (Pa.p1 ?_));refine SW.cut rfl (SW.assign rfl (B.loc (x := "length") rfl rfl).1 (EW.int ⟨_, .cH 6 rfl rfl, ?_⟩));refine SW.cut rfl (SW.hZ rfl (BW.bC rfl (EW.jJ F B (by decide) hS ⟨_, rfl⟩ ok Xr (EW.str (dQ 35 rfl ⟨fun hb => absurd (of_decide_eq_true hb) IH, fun U => SW.nil ?_⟩)))));refine SW.cut rfl (SW.Sn rfl (NM bN ka ko (n + 1)) (n + 1) ⟨0, .un, Nat.zero_add _, rfl, rfl, e⟩ ?_)
 rintro m l s ⟨k, ch, hk, rfl, rfl, es⟩
 exact BW.val (fun U => rfl) (EW.bool (Pa.p1 (Qa F B ok H hk es)))
theorem Hp (F : aE g) : Sp g ρ 5 811 [] (fun U => V.none) fS := by
 intro z ka ko Q X ok H;refine FW.go (F.d 31 rfl) [] rfl rfl (by decide) (by decide +kernel) fun C' B => ?_;have hS : aB C' "self" := B.loc rfl rfl;have H := R.aJ H;refine SW.cut rfl (SW.sp (oB F) (F.m 11 rfl) B (by decide) hS (by decide +kernel) ⟨_, rfl⟩ rfl (B.int rfl) (fun U => rfl) ⟨z, ka, ko, rfl, rfl, ok, R.mono H (fun a z H ka ko ok => ?_) fun U U x => x⟩ rfl);refine SW.cut rfl (SW.aQ F hS rfl (EW.bool (lP _ z ka ko _ rfl rfl rfl ?_)));have H := R.aJ H;refine SW.cut rfl (SW.push F hS (B.int rfl) ⟨_, rfl⟩ rfl rfl (EW.sp (Nl F) (F.m 42 rfl) B (by decide) hS (by decide +kernel) ⟨_, rfl⟩ rfl ⟨{ z with allow := false }, ka, ko, rfl, rfl, ok.same rfl rfl rfl, R.mono H (fun t z H ka ko ok => ?_) fun U U x => x⟩))
 have H := R.jS H;exact ⟨z, ka, ko, rfl, H.1, SW.nil (H.2 ka ko (ok.same rfl rfl rfl))⟩
end
theorem Vf {α : Type} {c : Nat} {f : Bool -> Z -> R α} {Q : α -> Z -> Prop} (H : ((if c = 45 then (peek 1 z).bind fun d z => R.ok (isIn pJ d) z else R.ok false z).bind f).wp Q X) :
  ∃ b, ((c ≠ 45 /\ b = false) \/ (c = 45 /\ ∃ d, z.rem[1]? = some d /\ b = isIn pJ d)) /\ (f b z).wp Q X := by
 by_cases h : c = 45
 ·rw [if_pos h] at H;refine aR (R.iT (R.aJ H)) fun d hd H => ?_;exact (eO _ (.inr ⟨h, d, hd, rfl⟩) H)
 ·rw [if_neg h] at H;exact (eO false (.inl ⟨h, rfl⟩) H)
theorem Jp {Q : Bool -> Z -> Prop} (H : (gN z).wp Q X) : ∃ b, Es z b /\ Q b z := by
 unfold gN at H
 by_cases h : z.aA = 0
 ·have H := R.yV h H;refine aR (R.iT H) fun d hd H => ?_;exact (eO _ (.inr ⟨h, d, hd, rfl⟩) H)
 ·have H := R.Oo h H;exact (eO true (.inl ⟨h, rfl⟩) H)
theorem CW {α : Type} {c n : Nat} {f : Bool -> Z -> R α} {Q : α -> Z -> Prop} (H : ((if c = n then gN z else R.ok false z).bind f).wp Q X) :
  ∃ b, ((c ≠ n /\ b = false) \/ (c = n /\ Es z b)) /\ (f b z).wp Q X := by
 by_cases h : c = n
 ·rw [if_pos h] at H;refine aR (Jp (R.aJ H)) fun b hb H => ?_;exact (eO b (.inr ⟨h, hb⟩) H)
 ·rw [if_neg h] at H;exact (eO false (.inl ⟨h, rfl⟩) H)
theorem Xi {α : Type} {c : Nat} {f : Bool -> Z -> R α} {Q : α -> Z -> Prop} (H : ((fC c z).bind f).wp Q X) : ∃ b, Ay z c b /\ (f b z).wp Q X := by
 have H := R.aJ H;unfold fC at H;cases h : isIn lX c with
 | true =>
  have H := R.yV h H;refine aR (R.iT H) fun d hd H => ?_;exact (eO _ (.inr ⟨h, d, hd, rfl⟩) H)
 | false =>
  rw [if_neg (by rw [h]; decide)] at H;exact (eO true (.inl ⟨h, rfl⟩) H)
section
variable {D : Nat}
section
variable {C : Cx} {Qg pos p1 p2 p4 p5 : Pos} {k1 : Nat} {c n d fa : Nat} {x name : Str} {r rest : List Stmt} {R1 : R Unit} {m : Z -> R Unit} {Q : jZ} {X : kP} {e2 : Expr} {ad : Nat}
noncomputable abbrev Po (c : Nat) : aF := [gH, ("ch", .val (sv [c]))]
theorem SW.Un (B : Bd C fd) (hS : aB C "self") (hx : aB C "ch") (ok : Ok z) (e : x.cps.toList = [n]) (S : Sp g ρ d fa [] (fun U => V.none) m) (M : lF g 1048 name fa) (hD : d + 1 <= 8) (hn : name ∉ aD) (he : bS (.Name "self" np) name apos pos [] C.env)
  (H : (if c = n then m z else R1).wp (PQ (fun U => V.none) Q) (PX X)) (h : R1.wp (PQ (fun U => V.none) Q) (PX X) -> c ≠ n -> SW g 8 C ρ (fun x U s => X x s) rest (Po c) (some (z.sc ka ko)) (eC Q)) :
  SW g 8 C ρ (fun x U s => X x s) (.If (.Compare (.Name "ch" p1) [.Eq] [.Constant (.str x) k1 p2] p3) [.Return (some (.Call (.Attribute (.Name "self" np) name apos) [] [] pos)) p4] [] p5 :: rest) (Po c) (some (z.sc ka ko)) (eC Q) := by
 refine SW.cons (SW.nN (BW.bC rfl (EW.var hx (.tail _ (.head _)) (EW.str (dQ n e ⟨fun hb => ?_, fun hb => ?_⟩)))))
 ·have H := R.yV (of_decide_eq_true hb) H;exact SW.cons (SW.ret (EW.sp S M B hD hS hn he rfl ⟨z, ka, ko, rfl, rfl, ok, R.mono H (fun a z H ka ko ok => H ka ko ok) fun U U x => x⟩))
 ·have H := R.Oo (of_decide_eq_false hb) H;exact SW.nil (h H (of_decide_eq_false hb))
theorem SW.HI (hx : aB C "ch") (e : x.cps.toList = [n]) (H : (if c = n then .wall else R1).wp (PQ (fun U => V.none) Q) (PX X)) (h : R1.wp (PQ (fun U => V.none) Q) (PX X) -> SW g 8 C ρ (fun x U s => X x s) rest (Po c) (some (z.sc ka ko)) (eC Q)) :
  SW g 8 C ρ (fun x U s => X x s) (.If (.Compare (.Name "ch" p1) [.Eq] [.Constant (.str x) k1 p2] p3) r [] p5 :: rest) (Po c) (some (z.sc ka ko)) (eC Q) := by
 refine SW.cons (SW.nN (BW.bC rfl (EW.var hx (.tail _ (.head _)) (EW.str (dQ n e ⟨fun hb => ?_, fun hb => ?_⟩)))))
 ·have H := R.yV (of_decide_eq_true hb) H; exact H.elim
 ·have H := R.Oo (of_decide_eq_false hb) H;exact SW.nil (h H)
theorem SW.Tr (hx : aB C "ch") (e : x.cps.toList = [n]) (b : Bool) (h0 : c ≠ n -> b = false) (ht : c = n -> BW g 8 C ρ (fun x U s => X x s) e2 (Po c) (some (z.sc ka ko)) (JF b (Po c) (some (z.sc ka ko))))
  (h1 : b = true -> SW g 8 C ρ (fun x U s => X x s) r (Po c) (some (z.sc ka ko)) (lO g 8 C ρ (fun x U s => X x s) rest (eC Q))) (h2 : b = false -> SW g 8 C ρ (fun x U s => X x s) rest (Po c) (some (z.sc ka ko)) (eC Q)) :
  SW g 8 C ρ (fun x U s => X x s) (.If (.BoolOp .And [.Compare (.Name "ch" p1) [.Eq] [.Constant (.str x) k1 p2] p3, e2] p4) r [] p5 :: rest) (Po c) (some (z.sc ka ko)) (eC Q) := by
 refine SW.cons (SW.nN (BW.jH (BW.bC rfl (EW.var hx (.tail _ (.head _)) (EW.str (dQ n e ⟨fun hb => ?_, fun hb => ?_⟩))))))
 ·have h0 := h0 (of_decide_eq_false hb);exact ⟨fun h => (by cases h), fun U => SW.nil (h2 h0)⟩
 ·refine BW.oY ((ht (of_decide_eq_true hb)).mono ?_)
  rintro b' l s ⟨rfl, rfl, rfl⟩
  exact ⟨h1, fun h => SW.nil (h2 h)⟩
end
theorem R.Ai {α : Type} {p : Prop} [Decidable p] {r : R α} {Q : α -> Z -> Prop} (H : (if p then .wall else r).wp Q X) : ¬ p /\ r.wp Q X := by
 by_cases h : p
 ·have H := R.yV h H; exact H.elim
 ·have H := R.Oo h H; exact ⟨h, H⟩
theorem xX (F : aE g) (f : Nat) : Sp g ρ 8 587 [] (fun U => V.none) (bI f) := by
 intro z ka ko Q X ok H;refine FW.go (F.d 10 rfl) ["ch"] rfl rfl (by decide) (by decide +kernel) fun C' B => ?_;have hS : aB C' "self" := B.loc rfl rfl;have hx : aB C' "ch" := B.loc rfl rfl;have H := R.aJ H;refine SW.cons (SW.sp (Gp F f) (F.m 38 rfl) B (by decide) hS (by decide +kernel) ⟨_, rfl⟩ rfl (B.int rfl) (fun U => rfl) ⟨z, ka, ko, rfl, rfl, ok, R.mono H (fun a z H ka ko ok => ?_) fun U U x => x⟩ rfl);have H := R.aJ H;refine SW.cons (SW.sp (Al F) (F.m 10 rfl) B (by decide) hS (by decide +kernel) ⟨_, rfl⟩ rfl (B.int rfl) (fun U => rfl) ⟨z, ka, ko, rfl, rfl, ok, R.mono H (fun a z H ka ko ok => ?_) fun U U x => x⟩ rfl);have H := R.aJ H;refine SW.cons (SW.sp (vS F z.col) (F.m 13 rfl) B (by decide) hS (by decide +kernel) ⟨_, rfl⟩ rfl (B.int rfl) (fun U => rfl) (EW.gI F hS ⟨z, ka, ko, rfl, rfl, ok, R.mono H (fun a z H ka ko ok => ?_) fun U U x => x⟩) rfl);refine aR (R.iT H) fun c Xr H => ?_;refine SW.cons (SW.assign rfl (B.loc (x := "ch") rfl rfl).1 (EW.jJ F B (by decide) hS ⟨_, rfl⟩ ok Xr ⟨_, .tail .head, ?_⟩));unfold fG at H;refine SW.Un B hS hx ok (n := 0) rfl (wW F) (F.m 16 rfl) (by decide) (by decide +kernel) ⟨_, rfl⟩ H fun H U => ?_;obtain ⟨hw, H⟩ := R.Ai H;refine SW.Tr hx (n := 37) rfl false (fun U => rfl) (fun hc => BW.val (fun U => rfl) (EW.call B.hh (F.m 31 rfl) (by decide +kernel) (D' := 1) (by decide) hS ⟨_, rfl⟩ rfl (oN F (fun q => hw ⟨hc, q⟩) ⟨rfl, rfl, rfl⟩))) (fun h => by cases h) fun U => ?_;clear hw;obtain ⟨hw, H⟩ := R.Ai H;refine SW.Tr hx (n := 45) rfl false (fun U => rfl) (fun hc => BW.val (fun U => rfl) (EW.call B.hh (F.m 32 rfl) (by decide +kernel) (D' := 2) (by decide) hS ⟨_, rfl⟩ rfl (lC F ok (fun q => hw ⟨hc, q⟩) ⟨rfl, rfl, rfl⟩))) (fun h => by cases h) fun U => ?_;clear hw;obtain ⟨hw, H⟩ := R.Ai H;refine SW.Tr hx (n := 46) rfl false (fun U => rfl) (fun hc => BW.val (fun U => rfl) (EW.call B.hh (F.m 33 rfl) (by decide +kernel) (D' := 2) (by decide) hS ⟨_, rfl⟩ rfl (lZ F ok (fun q => hw ⟨hc, q⟩) ⟨rfl, rfl, rfl⟩))) (fun h => by cases h) fun U => ?_;clear hw;refine SW.Un B hS hx ok (n := 91) rfl (zK F) (F.m 17 rfl) (by decide) (by decide +kernel) ⟨_, rfl⟩ H fun H U => ?_;refine SW.HI hx (n := 123) rfl H fun H => ?_;refine SW.Un B hS hx ok (n := 93) rfl (Jd F) (F.m 19 rfl) (by decide) (by decide +kernel) ⟨_, rfl⟩ H fun H U => ?_;refine SW.Un B hS hx ok (n := 125) rfl (Gq F) (F.m 20 rfl) (by decide) (by decide +kernel) ⟨_, rfl⟩ H fun H U => ?_;refine SW.Un B hS hx ok (n := 44) rfl (xZ F) (F.m 22 rfl) (by decide) (by decide +kernel) ⟨_, rfl⟩ H fun H U => ?_;refine aR (Vf H) fun b hb H => ?_;refine SW.Tr hx (n := 45) rfl b (fun h => ?_) (fun h => ?_) (fun hb => ?_) fun hb => ?_
 ·rcases hb with ⟨_, hb⟩ | ⟨hb, _⟩
  ·exact hb
  ·exact absurd hb h
 ·rcases hb with ⟨hb, _⟩ | ⟨_, d, hd, rfl⟩
  ·exact absurd h hb
  ·exact BW.val (fun U => rfl) (EW.call B.hh (F.m 34 rfl) (by decide +kernel) (D' := 1) (by decide) hS ⟨_, rfl⟩ rfl (nP F ok hd ⟨rfl, rfl, rfl⟩))
 ·have H := R.yV hb H;exact SW.cons (SW.ret (EW.sp (uH F) (F.m 23 rfl) B (by decide) hS (by decide +kernel) ⟨_, rfl⟩ rfl ⟨z, ka, ko, rfl, rfl, ok, R.mono H (fun a z H ka ko ok => H ka ko ok) fun U U x => x⟩))
 rw [if_neg (by rw [hb]; decide)] at H;refine aR (CW H) fun b hb H => ?_;refine SW.Tr hx (n := 63) rfl b (fun h => ?_) (fun h => ?_) (fun hb => ?_) fun hb => ?_
 ·rcases hb with ⟨_, hb⟩ | ⟨hb, _⟩
  ·exact hb
  ·exact absurd hb h
 ·rcases hb with ⟨hb, _⟩ | ⟨_, hb⟩
  ·exact absurd h hb
  ·exact BW.val (fun U => rfl) (EW.call B.hh (F.m 35 rfl) (by decide +kernel) (D' := 1) (by decide) hS ⟨_, rfl⟩ rfl (xY F ok hb ⟨rfl, rfl, rfl⟩))
 ·have H := R.yV hb H;exact SW.cons (SW.ret (EW.sp (Az F) (F.m 24 rfl) B (by decide) hS (by decide +kernel) ⟨_, rfl⟩ rfl ⟨z, ka, ko, rfl, rfl, ok, R.mono H (fun a z H ka ko ok => H ka ko ok) fun U U x => x⟩))
 rw [if_neg (by rw [hb]; decide)] at H;refine aR (CW H) fun b hb H => ?_;refine SW.Tr hx (n := 58) rfl b (fun h => ?_) (fun h => ?_) (fun hb => ?_) fun hb => ?_
 ·rcases hb with ⟨_, hb⟩ | ⟨hb, _⟩
  ·exact hb
  ·exact absurd hb h
 ·rcases hb with ⟨hb, _⟩ | ⟨_, hb⟩
  ·exact absurd h hb
  ·exact BW.val (fun U => rfl) (EW.call B.hh (F.m 36 rfl) (by decide +kernel) (D' := 1) (by decide) hS ⟨_, rfl⟩ rfl (uA F ok hb ⟨rfl, rfl, rfl⟩))
 ·have H := R.yV hb H;exact SW.cons (SW.ret (EW.sp (uT F) (F.m 25 rfl) B (by decide) hS (by decide +kernel) ⟨_, rfl⟩ rfl ⟨z, ka, ko, rfl, rfl, ok, R.mono H (fun a z H ka ko ok => H ka ko ok) fun U U x => x⟩))
 rw [if_neg (by rw [hb]; decide)] at H;refine SW.Un B hS hx ok (n := 42) rfl (Jw F) (F.m 26 rfl) (by decide) (by decide +kernel) ⟨_, rfl⟩ H fun H U => ?_;refine SW.Un B hS hx ok (n := 38) rfl (Cd F) (F.m 27 rfl) (by decide) (by decide +kernel) ⟨_, rfl⟩ H fun H U => ?_;refine SW.HI hx (n := 33) rfl H fun H => ?_;obtain ⟨hw, H⟩ := R.Ai H;refine SW.Tr hx (n := 124) rfl false (fun U => rfl) (fun hc => BW.not (BW.val (fun U => rfl) (EW.aU F hS ⟨?_, rfl, rfl⟩))) (fun h => by cases h) fun U => ?_
 ·have : z.aA ≠ 0 := fun q => hw ⟨hc, q⟩
  simp [this]
 clear hw;obtain ⟨hw, H⟩ := R.Ai H;refine SW.Tr hx (n := 62) rfl false (fun U => rfl) (fun hc => BW.not (BW.val (fun U => rfl) (EW.aU F hS ⟨?_, rfl, rfl⟩))) (fun h => by cases h) fun U => ?_
 ·have : z.aA ≠ 0 := fun q => hw ⟨hc, q⟩
  simp [this]
 clear hw;refine SW.Un B hS hx ok (n := 39) rfl (Gs F) (F.m 28 rfl) (by decide) (by decide +kernel) ⟨_, rfl⟩ H fun H U => ?_;refine SW.HI hx (n := 34) rfl H fun H => ?_;refine aR (Xi H) fun b hb H => ?_;refine SW.cons (SW.nN (BW.val (fun U => rfl) (EW.call B.hh (F.m 37 rfl) (by decide +kernel) (D' := 1) (by decide) hS ⟨_, rfl⟩ rfl (uZ F ok Xr hb ⟨fun hb => ?_, fun hb => SW.nil ?_⟩))))
 ·have H := R.yV hb H;exact SW.cons (SW.ret (EW.sp (Hp F) (F.m 30 rfl) B (by decide) hS (by decide +kernel) ⟨_, rfl⟩ rfl ⟨z, ka, ko, rfl, rfl, ok, R.mono H (fun a z H ka ko ok => H ka ko ok) fun U U x => x⟩))
 rw [if_neg (by rw [hb]; decide)] at H;refine SW.cons (SW.err F B (by decide) rfl rfl rfl rfl (EW.str (EW.none ?_)));refine EW.Ww (EW.str (EW.var (B.loc rfl rfl) (.tail _ (.head _)) (zS _ _ rfl rfl Yd (xS _) (ok.small Xr) (EW.mark F B (by decide) hS ⟨_, rfl⟩ ?_))));exact ⟨_, _, _, _, rfl, fun x hx => H x _ hx⟩
theorem Bo (F : aE g) (ok : Ok z) {X : kP} {Q : jZ} (H : (cM z).wp (fun b z' => ∀ ka ko v, Ok z' -> (v = .bool b \/ (v = .none /\ b = false)) -> Q v (some (z'.sc ka ko))) (PX X)) :
  FW g 4 ρ X 580 [.self] (some (z.sc ka ko)) Q := by
 refine FW.go (F.d 9 rfl) [] rfl rfl (by decide) (by decide +kernel) fun C' B => ?_;have hS : aB C' "self" := B.loc rfl rfl;unfold cM at H;refine SW.cons (SW.nN (BW.val (fun U => rfl) (EW.Uq F hS ⟨fun hb => ?_, fun hb => ?_⟩)))
 ·have H := R.yV hb H;exact SW.cons (SW.ret (EW.bool (H ka ko _ ok (.inl rfl))))
 rw [if_neg (by rw [hb]; decide)] at H
 by_cases hl : z.tokens.length <= 1000
 case neg => have H := R.Oo hl H; exact H.elim
 have H := R.yV hl H;refine SW.nil (SW.cons (SW.nN (BW.not (BW.toks (fun U => rfl) (EW.jV F hS ⟨rfl, _, rfl, by show z.tokens.length <= _; unfold sizeLine; omega, fun hb => ?_, fun hb => ?_⟩)))))
 ·have h0 : z.tokens = [] := by
   have hb : (!(!z.tokens.isEmpty)) = true := hb;rw [Bool.not_not] at hb;exact List.isEmpty_iff.mp hb
  have H := R.yV h0 H;exact SW.cons (SW.ret (EW.bool (H ka ko _ ok (.inl rfl))))
 ·have h0 : ¬ z.tokens = [] := by
   intro q;have hb : (!(!z.tokens.isEmpty)) = false := hb;rw [q] at hb; cases hb
  have H := R.Oo h0 H;have H := R.aJ H;refine SW.nil (SW.cons (SW.sp (Al F) (F.m 10 rfl) B (by decide) hS (by decide +kernel) ⟨_, rfl⟩ rfl (B.int rfl) (fun U => rfl) ⟨z, ka, ko, rfl, rfl, ok, R.mono H (fun a z H ka ko ok => ?_) fun U U x => x⟩ rfl));cases e : gM z.keys none (z.keys.map (·.1)) with
  | none => rw [e] at H; exact H.elim
  | some m =>
  rw [e] at H;refine SW.cons (SW.nN (BW.ED rfl (EW.call B.hh (F.m 9 rfl) (by decide +kernel) (D' := 3) (by decide) hS ⟨_, rfl⟩ rfl (Rz F ok e (EW.gO F hS ⟨m, _, rfl, rfl, fun hb => ?_, fun hb => ?_⟩)))))
  ·have H : ∀ ka ko v, Ok z -> (v = .bool (m == some z.taken) \/ (v = .none /\ (m == some z.taken) = false)) -> Q v (some (z.sc ka ko)) := H;rw [hb] at H;exact SW.cons (SW.ret (EW.bool (H ka ko _ ok (.inl rfl))))
  ·exact SW.nil (SW.nil (H ka ko _ ok (.inr ⟨rfl, hb⟩)))
noncomputable def Ya : Option V -> V
 | none => .none
 | some t => t
inductive OF (f : Nat) (Q : jZ) (X : kP) (n : Nat) (l : aF) (s : bQ) : Prop
 | mk (el : l = [gH]) (z : Z) (ka : Addr) (ko : Obj) (es : s = some (z.sc ka ko)) (ok : Ok z) (H : (eN f n z).wp (PQ Ya Q) (PX X))
theorem Bk (F : aE g) (f n : Nat) : Sp g ρ 9 573 [] Ya (eN f n) := by
 intro z ka ko Q X ok H;refine FW.go (F.d 8 rfl) [] rfl rfl (by decide) (by decide +kernel) fun C' B => ?_;have hS : aB C' "self" := B.loc rfl rfl;refine SW.cons (SW.nX (OF f Q X) n ⟨rfl, z, ka, ko, rfl, ok, H⟩ ?_)
 rintro m l s ⟨rfl, z, ka, ko, rfl, ok, H⟩
 induction m with
 | zero => exact H.elim
 | succ m =>
 rw [jL] at H;refine BW.val (fun U => rfl) (EW.call B.hh (F.m 7 rfl) (by decide +kernel) (D' := 4) (by decide) hS ⟨_, rfl⟩ rfl (Bo F ok (R.step H fun b z H ka ko v ok hv => ?_)));have key : Pa g 9 C' ρ (fun x U s => X x s) (qZ (aL 34 3).body 0 0) (OF f Q X) (m + 1) (lO g 9 C' ρ (fun x U s => X x s) ((aL 34 3).body.drop 1) (eC Q)) b [gH] (some (z.sc ka ko)) := by
  refine ⟨fun hb => ?_, fun hb => ?_⟩
  ·have H := R.yV hb H;have H := R.aJ H;exact SW.cons (SW.sp (xX F f) (F.m 8 rfl) B (by decide) hS (by decide +kernel) ⟨_, rfl⟩ rfl (B.int rfl) (fun U => rfl) ⟨z, ka, ko, rfl, rfl, ok, R.mono H (fun a z H ka ko ok => SW.nil ⟨m, by lia, rfl, z, ka, ko, rfl, ok, H⟩) fun U U x => x⟩ rfl)
  ·rw [if_neg (by rw [hb]; decide)] at H;cases e : z.tokens with
   | nil =>
    rw [e] at H;refine SW.cons (SW.nN (BW.toks (fun U => rfl) (EW.jV F hS ⟨rfl, _, rfl, by show z.tokens.length <= _; rw [e]; decide, fun hb => ?_, fun hb => SW.nil (SW.nil (H ka ko ok))⟩)));have hb : (!z.tokens.isEmpty) = true := hb;rw [e] at hb; cases hb
   | cons t r =>
    have H : (if z.tokens.length <= 1000 then R.ok (some t) { z with taken := z.taken + 1, tokens := r } else .wall).wp (PQ Ya Q) (PX X) := by rw [e] at H ⊢; exact H
    by_cases hl : z.tokens.length <= 1000
    case neg => have H := R.Oo hl H; exact H.elim
    have H := R.yV hl H;refine SW.cons (SW.nN (BW.toks (fun U => rfl) (EW.jV F hS ⟨rfl, _, rfl, by show z.tokens.length <= _; unfold sizeLine; omega, fun hb => ?_, fun hb => ?_⟩)))
    ·refine SW.cons (SW.oD F hS ?_);refine SW.cons (SW.ret (EW.Sb ⟨_, rfl⟩ rfl (EW.jV F hS (fL rfl rfl (EW.int (Vu _ t r rfl rfl e (by show z.tokens.length <= _; unfold sizeLine; omega) ?_))))));exact H ka ko (ok.same rfl rfl rfl)
    ·have hb : (!z.tokens.isEmpty) = false := hb;rw [e] at hb; cases hb
 rcases hv with rfl | ⟨rfl, rfl⟩
 ·exact key
 ·exact ⟨fun hb => (by cases hb), fun U => key.f rfl⟩
end
section
set_option genInjectivity false
set_option genSizeOf false
structure Ob where
 aS : Addr
 dS : Addr
 ns : List Str
 vs : List V
 xs : List (Addr × List V)
 kd : List (Addr × Obj)
class inductive Je (ρ : bZ) (G : bB) : List (Addr × List V) -> bB -> Prop
 | nil : Je ρ G [] []
 | cons {a vs r n l : _} {vals : List Value} (h : cA ρ G vs vals) (k : Je ρ G r l) : Je ρ G ((a, vs) :: r) ((a, W.listOf vals.toArray n) :: l)
inductive NQ (ρ : bZ) (G : bB) (a : Addr) (vs : List V) (r : List (Addr × List V)) : bB -> Prop
 | cons {n l : _} {vals : List Value} (h : cA ρ G vs vals) (k : Je ρ G r l) : NQ ρ G a vs r ((a, W.listOf vals.toArray n) :: l)
inductive NG : bB -> Prop
 | nil : NG []
def PD (ρ : bZ) (G : bB) (xs : List (Addr × List V)) (l : bB) : Prop :=
 match xs with
 | [] => NG l
 | p :: r => NQ ρ G p.1 p.2 r l
theorem Je.out {xs : List (Addr × List V)} {l : bB} (h : Je ρ G xs l) : PD ρ G xs l := by
 induction h with
 | nil => exact .nil
 | cons h k => exact .cons h k
theorem Je.mono {ρ : bZ} {G G' : bB} (k : Sub G G') {xs : List (Addr × List V)} {l : bB} (h : Je ρ G xs l) : Je ρ G' xs l := by
 induction h with
 | nil => exact .nil
 | cons h _ ih => exact .cons (h.mono k) ih
inductive PT (ρ : bZ) (G : bB) (ob : Ob) (l : bB) : Prop
 | mk (es : List DictEntry) (n : Nat) (vals : List Value) (ll : bB) (el : l = (ob.aS, instObj 1048 ob.dS) :: (ob.dS, dictOf es n) :: (ob.kd ++ ll)) (hE : eJ es ob.ns vals) (hV : cA ρ G ob.vs vals) (hX : Je ρ G ob.xs ll)
structure OR (ρ : bZ) (G : bB) (ob : Ob) (l : bB) : Prop where
 ex : PT ρ G ob l
 nd : ob.ns.Nodup
 len : ob.ns.length <= 100
 kd : ∀ p ∈ ob.kd, (p.1 == sysModules) = false /\ ∀ prog w, p.2.IsDictOf (intKind prog w) []
theorem OR.mono {ρ : bZ} {G G' : bB} {ob : Ob} {l : bB} (O : OR ρ G ob l) (k : Sub G G') : OR ρ G' ob l := by
 obtain ⟨es, n, vals, ll, a, b, c, d⟩ := O.ex;exact ⟨⟨es, n, vals, ll, a, b, c.mono k, d.mono k⟩, O.nd, O.len, O.kd⟩
section
variable (C : Cx) (ρ : bZ) (G fo : bB) (m : cV) (s : Shared)
def Wb (Q : V -> aF -> Ob -> Prop) (Qr : cY) : Prop := ∀ v aC kX G' l' val h' aN, Q v aC kX -> Sub G G' -> OR ρ G' kX l' -> VR ρ G' v val -> bJ C ρ G' (l' ++ fo) none m aC h' -> Qr val (St s h' aN)
def Yb (Q : Bool -> aF -> Ob -> Prop) (Qr : Bool -> Shared -> Prop) : Prop := ∀ b aC kX G' l' h' aN, Q b aC kX -> Sub G G' -> OR ρ G' kX l' -> bJ C ρ G' (l' ++ fo) none m aC h' -> Qr b (St s h' aN)
def Ic (Q : Fl -> aF -> Ob -> Prop) (Qr : Flow -> Shared -> Prop) : Prop := ∀ f aC kX G' l' m' fv h' aN, Q f aC kX -> Sub G G' -> OR ρ G' kX l' -> Te ρ G' f fv -> bJ C ρ G' (l' ++ fo) none m' aC h' -> Qr fv (St s h' aN)
def Iu (loc : aF) (Q : V -> Ob -> Prop) (Qr : cY) : Prop := ∀ v kX G' l' val h' aN, Q v kX -> Sub G G' -> OR ρ G' kX l' -> VR ρ G' v val -> bJ C ρ G' (l' ++ fo) none m loc h' -> Qr val (St s h' aN)
end
theorem Ic.step {C : Cx} {s : Shared} {h : Heap} {t : Tok} {Q : Fl -> aF -> Ob -> Prop} {Qr : Flow -> Shared -> Prop} (q : Ic C ρ G fo s Q Qr) (k : Sub G G') : Ic C ρ G' fo (St s h t) Q Qr := fun v l s' G2 l2 m2 val h2 t2 y1 y2 y3 y4 y5 => q v l s' G2 l2 m2 val h2 t2 y1 (k.trans y2) y3 y4 y5
@[irreducible] def eV (g : Gl) (D : Nat) (C : Cx) (ρ : bZ) (e : Expr) (loc : aF) (ob : Ob) (Q : V -> aF -> Ob -> Prop) : Prop :=
 fM g D C -> ∀ G fo l m s, OR ρ G ob l -> bJ C ρ G (l ++ fo) none m loc s.heap -> ∀ (Qr : cY) (Er : cY),
  Wb C ρ G fo m s Q Qr ->
  wpAny (model g.prog g.w) C.A (eval e C.env) Qr Er s
theorem eV.of {D : Nat} {C : Cx} {e : Expr} {loc : aF} {Q : V -> aF -> Ob -> Prop} (h :
 fM g D C -> ∀ G fo l m s, OR ρ G ob l -> bJ C ρ G (l ++ fo) none m loc s.heap -> ∀ (Qr : cY) (Er : cY),
  Wb C ρ G fo m s Q Qr ->
  wpAny (model g.prog g.w) C.A (eval e C.env) Qr Er s) : eV g D C ρ e loc ob Q := by delta eV; exact h
theorem eV.out {D : Nat} {C : Cx} {e : Expr} {loc : aF} {Q : V -> aF -> Ob -> Prop} (h : eV g D C ρ e loc ob Q) :
 fM g D C -> ∀ G fo l m s, OR ρ G ob l -> bJ C ρ G (l ++ fo) none m loc s.heap -> ∀ (Qr : cY) (Er : cY),
  Wb C ρ G fo m s Q Qr ->
  wpAny (model g.prog g.w) C.A (eval e C.env) Qr Er s := by delta eV at h; exact h
@[irreducible] def Ir (g : Gl) (D : Nat) (C : Cx) (ρ : bZ) (e : Expr) (loc : aF) (ob : Ob) (Q : Bool -> aF -> Ob -> Prop) : Prop :=
 fM g D C -> ∀ G fo l m s whole, OR ρ G ob l -> bJ C ρ G (l ++ fo) none m loc s.heap -> whole = eval e C.env -> ∀ (Qr : Bool -> Shared -> Prop) (Er : cY),
  Yb C ρ G fo m s Q Qr ->
  wpAny (model g.prog g.w) C.A (isTrue e C.env whole) Qr Er s
theorem Ir.of {D : Nat} {C : Cx} {e : Expr} {loc : aF} {Q : Bool -> aF -> Ob -> Prop} (h :
 fM g D C -> ∀ G fo l m s whole, OR ρ G ob l -> bJ C ρ G (l ++ fo) none m loc s.heap -> whole = eval e C.env -> ∀ (Qr : Bool -> Shared -> Prop) (Er : cY),
  Yb C ρ G fo m s Q Qr ->
  wpAny (model g.prog g.w) C.A (isTrue e C.env whole) Qr Er s) : Ir g D C ρ e loc ob Q := by delta Ir; exact h
theorem Ir.out {D : Nat} {C : Cx} {e : Expr} {loc : aF} {Q : Bool -> aF -> Ob -> Prop} (h : Ir g D C ρ e loc ob Q) :
 fM g D C -> ∀ G fo l m s whole, OR ρ G ob l -> bJ C ρ G (l ++ fo) none m loc s.heap -> whole = eval e C.env -> ∀ (Qr : Bool -> Shared -> Prop) (Er : cY),
  Yb C ρ G fo m s Q Qr ->
  wpAny (model g.prog g.w) C.A (isTrue e C.env whole) Qr Er s := by delta Ir at h; exact h
@[irreducible] def dE (g : Gl) (D : Nat) (C : Cx) (ρ : bZ) (t : Sem Flow) (loc : aF) (ob : Ob) (Q : Fl -> aF -> Ob -> Prop) : Prop :=
 fM g D C -> ∀ G fo l m s, OR ρ G ob l -> bJ C ρ G (l ++ fo) none m loc s.heap -> ∀ (Qr : Flow -> Shared -> Prop) (Er : cY),
  Ic C ρ G fo s Q Qr ->
  wpAny (model g.prog g.w) C.A t Qr Er s
theorem dE.of {D : Nat} {C : Cx} {t : Sem Flow} {loc : aF} {Q : Fl -> aF -> Ob -> Prop} (h :
 fM g D C -> ∀ G fo l m s, OR ρ G ob l -> bJ C ρ G (l ++ fo) none m loc s.heap -> ∀ (Qr : Flow -> Shared -> Prop) (Er : cY),
  Ic C ρ G fo s Q Qr ->
  wpAny (model g.prog g.w) C.A t Qr Er s) : dE g D C ρ t loc ob Q := by delta dE; exact h
theorem dE.out {D : Nat} {C : Cx} {t : Sem Flow} {loc : aF} {Q : Fl -> aF -> Ob -> Prop} (h : dE g D C ρ t loc ob Q) :
 fM g D C -> ∀ G fo l m s, OR ρ G ob l -> bJ C ρ G (l ++ fo) none m loc s.heap -> ∀ (Qr : Flow -> Shared -> Prop) (Er : cY),
  Ic C ρ G fo s Q Qr ->
  wpAny (model g.prog g.w) C.A t Qr Er s := by delta dE at h; exact h
@[irreducible] def As (g : Gl) (D : Nat) (ρ : bZ) (f : Addr) (args : List V) (ob : Ob) (Q : V -> Ob -> Prop) : Prop :=
 ∀ (C : Cx), fM g (D + 1) C -> C.A.handled = none -> ∀ G fo l m loc s vals, OR ρ G ob l -> bJ C ρ G (l ++ fo) none m loc s.heap -> cA ρ G args vals -> ∀ (Qr : cY) (Er : cY),
  Iu C ρ G fo m s loc Q Qr ->
  wpAny (model g.prog g.w) C.A (call (.ref f) vals []) Qr Er s
theorem As.of {D : Nat} {f : Addr} {args : List V} {Q : V -> Ob -> Prop} (h :
 ∀ (C : Cx), fM g (D + 1) C -> C.A.handled = none -> ∀ G fo l m loc s vals, OR ρ G ob l -> bJ C ρ G (l ++ fo) none m loc s.heap -> cA ρ G args vals -> ∀ (Qr : cY) (Er : cY),
  Iu C ρ G fo m s loc Q Qr ->
  wpAny (model g.prog g.w) C.A (call (.ref f) vals []) Qr Er s) : As g D ρ f args ob Q := by delta As; exact h
theorem As.out {D : Nat} {f : Addr} {args : List V} {Q : V -> Ob -> Prop} (h : As g D ρ f args ob Q) :
 ∀ (C : Cx), fM g (D + 1) C -> C.A.handled = none -> ∀ G fo l m loc s vals, OR ρ G ob l -> bJ C ρ G (l ++ fo) none m loc s.heap -> cA ρ G args vals -> ∀ (Qr : cY) (Er : cY),
  Iu C ρ G fo m s loc Q Qr ->
  wpAny (model g.prog g.w) C.A (call (.ref f) vals []) Qr Er s := by delta As at h; exact h
section
variable {D : Nat} {C : Cx} {loc : aF}
noncomputable abbrev Yk : uG -> aF -> bQ -> Prop := fun U U U => False
theorem eV.lift {e : Expr} {Q : V -> aF -> Ob -> Prop} (h : EW g D C ρ Yk e loc none (fun v l s => s = none /\ Q v l ob)) : eV g D C ρ e loc ob Q := by
 refine .of fun ok G fo l m s O I Qr Er q => ?_;refine h.out ok G (l ++ fo) m s I Qr Er (fun v aC aW G' val h' aN z1 z2 z3 z4 => ?_) (fun U U U U U U U z => z.elim);obtain ⟨rfl, z1⟩ := z1;exact q v aC ob G' l val h' aN z1 z2 (O.mono z2) z3 z4
theorem Ir.lift {e : Expr} {Q : Bool -> aF -> Ob -> Prop} (h : BW g D C ρ Yk e loc none (fun v l s => s = none /\ Q v l ob)) : Ir g D C ρ e loc ob Q := by
 refine .of fun ok G fo l m s w O I ew Qr Er q => ?_;refine h.out ok G (l ++ fo) m s w I ew Qr Er (fun v aC aW G' h' aN z1 z2 z4 => ?_) (fun U U U U U U U z => z.elim);obtain ⟨rfl, z1⟩ := z1;exact q v aC ob G' l h' aN z1 z2 (O.mono z2) z4
theorem eV.mono {e : Expr} {Q Q' : V -> aF -> Ob -> Prop} (h : eV g D C ρ e loc ob Q) (k : ∀ v l s, Q v l s -> Q' v l s) : eV g D C ρ e loc ob Q' := by
 refine .of fun ok G fo l m s O I Qr Er q => ?_;exact h.out ok G fo l m s O I Qr Er (fun v aC kX G' l' val h' aN z => q v aC kX G' l' val h' aN (k _ _ _ z))
theorem dE.nil {Q : Fl -> aF -> Ob -> Prop} (h : Q .next loc ob) : dE g D C ρ (execs [] C.env) loc ob Q := by
 refine .of fun ok G fo l m s O I Qr Er q => ?_;exact wpAny_execs_nil (q .next loc ob G l m .next s.heap s.toks h (fun U z => z) O .next I)
theorem dE.cons {st : Stmt} {r : List Stmt} {Q : Fl -> aF -> Ob -> Prop} (h : dE g D C ρ (exec st C.env) loc ob (fun f l s => match f with | .next => dE g D C ρ (execs r C.env) l s Q | f => Q f l s)) : dE g D C ρ (execs (st :: r) C.env) loc ob Q := by
 refine .of fun ok G fo l m s O I Qr Er q => ?_;refine wpAny_execs_cons (h.out ok G fo l m s O I _ _ (fun f aC kX G' l' m' fv h' aN z1 z2 z3 z4 z5 => ?_));induction z4 with
 | next => exact z1.out ok G' fo l' m' (St s h' aN) z3 z5 Qr Er (q.step z2)
 | brk => exact q .brk aC kX G' l' m' _ h' aN z1 z2 z3 .brk z5
 | cont => exact q .cont aC kX G' l' m' _ h' aN z1 z2 z3 .cont z5
 | ret hv => exact q (.ret _) aC kX G' l' m' _ h' aN z1 z2 z3 (.ret hv) z5
theorem dE.nN {test : Expr} {body orelse : List Stmt} {pos : Pos} {Q : Fl -> aF -> Ob -> Prop}
  (h : Ir g D C ρ test loc ob (fun b l s => (b = true -> dE g D C ρ (execs body C.env) l s Q) /\ (b = false -> dE g D C ρ (execs orelse C.env) l s Q))) : dE g D C ρ (exec (.If test body orelse pos) C.env) loc ob Q := by
 refine .of fun ok G fo l m s O I Qr Er q => ?_;refine wpAny_If (h.out ok G fo l m s _ O I rfl _ _ (fun b aC kX G' l' h' aN z1 z2 z3 z4 => ?_));induction b with
 | true => exact (z1.1 rfl).out ok G' fo l' m (St s h' aN) z3 z4 Qr Er (q.step z2)
 | false => exact (z1.2 rfl).out ok G' fo l' m (St s h' aN) z3 z4 Qr Er (q.step z2)
theorem dE.ret {e : Expr} {pos : Pos} {Q : Fl -> aF -> Ob -> Prop} (h : eV g D C ρ e loc ob (fun v l s => Q (.ret v) l s)) : dE g D C ρ (exec (.Return (some e) pos) C.env) loc ob Q := by
 refine .of fun ok G fo l m s O I Qr Er q => ?_;exact wpAny_Return_some (h.out ok G fo l m s O I _ _ (fun v aC kX G' l' val h' aN z1 z2 z3 z4 z5 => q (.ret v) aC kX G' l' m _ h' aN z1 z2 z3 (.ret z4) z5))
theorem dE.assign {x : Str} {p pos : Pos} {e : Expr} {Q : Fl -> aF -> Ob -> Prop} (hs : swapsWith e (some (.Name x p)) pos.line C.env = pure false) (hx : aB C x)
  (h : eV g D C ρ e loc ob (fun v l s => ∃ l', cK x (.val v) l l' /\ Q .next l' s)) : dE g D C ρ (exec (.Assign [.Name x p] e pos) C.env) loc ob Q := by
 refine .of fun ok G fo l m s O I Qr Er q => ?_;refine wpAny_Assign_Name (h.out ok G fo l m s O I _ _ (fun v aC kX G' l' val h' aN z1 z2 z3 z4 z5 => ?_)) hs;refine aR z1 fun l2 u z1 => ?_;exact eG ok hx.1 (s := (St s h' aN)) z5 z4 u fun h2 t2 I2 => q .next l2 kX G' l' _ _ h2 t2 z1 z2 z3 .next I2
theorem dE.expr {e : Expr} {pos : Pos} {Q : Fl -> aF -> Ob -> Prop} (hi : interactive C.env = false) (hs : swapsWith e none pos.line C.env = pure false)
  (h : eV g D C ρ e loc ob (fun v l s => Q .next l s)) : dE g D C ρ (exec (.Expr e pos) C.env) loc ob Q := by
 refine .of fun ok G fo l m s O I Qr Er q => ?_;refine wpAny_Expr_any (hi := hi) (hs := hs) (h.out ok G fo l m s O I _ _ (fun v aC kX G' l' val h' aN z1 z2 z3 z4 z5 => ?_));exact q .next aC kX G' l' m _ h' aN z1 z2 z3 .next z5
theorem eV.attr {x name : Str} {np pos : Pos} {i : Nat} {u : V} {Q : V -> aF -> Ob -> Prop} (A : eT g 1048 name) (hx : aB C x) (hv : (x, LV.val (.glob (.ref ob.aS))) ∈ loc) (hi : ob.ns[i]? = some name) (hu : ob.vs[i]? = some u) (hp : u.plain = true \/ ∃ a, u = .glob (.ref a))
  (he : eval (.Attribute (.Name x np) name pos) C.env = (do
   let ov ← eval (.Name x np) C.env
   standAt pos.atName
   let r ← holding [ov] (getAttr ov name true)
   letTemporaryGo (.Name x np) ov r
   pure r))
  (h : Q u loc ob) : eV g D C ρ (.Attribute (.Name x np) name pos) loc ob Q := by
 refine .of fun ok G fo l m s O I Qr Er q => ?_;obtain ⟨ls, os, a, b, c, d⟩ := I.ex;refine aR (b.get hv) fun val e1 e2 => ?_;induction e2.out
 refine Attribute_any_ (nameX_L I.fr e1 ?_ ok.kind hx.1 hx.2) he;obtain ⟨es, n, vals, ll, rfl, hE, hV, hX⟩ := O.ex;have IA : InstAt s.heap ob.aS (instObj 1048 ob.dS) 1048 (some (dictOf es n)) := InstAt.of_news c (by simp) (by simp);refine aR (cA.zip hV (jU hi hu)) fun val m1 m2 => ?_;refine aR A.fi fun attr f1 f2 => ?_;have hh : handedIn val = true := by
  rcases hp with hp | ⟨a, rfl⟩
  ·exact m2.handed hp
  ·induction m2.out; rfl
 refine kW (s := s) I.fr ok.fK IA A.pg A.hd f1 f2 (jK hE O.nd m1) hh ?_;exact q u loc ob G _ val s.heap _ h (.refl _) O m2 I
end
end
theorem cA.snoc {v : V} {val : Value} (hv : VR ρ G v val) {vs vals : _} (h : cA ρ G vs vals) : cA ρ G (vs ++ [v]) (vals ++ [val]) := h.append (.cons hv .nil)
section
variable {D : Nat} {C : Cx} {loc : aF}
theorem bJ.kM {l : bB} {m : cV} {h : Heap} (I : bJ C ρ G (l ++ fo) none m loc h) : ∃ os, bH ρ G m loc os /\ News C.h₀ C.L h (os ++ ((l ++ fo) ++ G)) /\ ((os ++ ((l ++ fo) ++ G)).map (·.1)).Nodup := by
 obtain ⟨ls, os, a, b, c, d⟩ := I.ex;have a : ls = [] := a;subst a;exact (nF os b c d)
theorem DW (F : aE g) {name : Str} {v : V} {val : Value} {l : bB} {m : cV} {s : Shared} {Wd : List Str} {uO : List V} {Q : Unit -> Shared -> Prop} (ok : fM g D C) (hn : name ∈ aD) (O : OR ρ G ob l) (I : bJ C ρ G (l ++ fo) none m loc s.heap) (hv : VR ρ G v val)
  (hs : (name ∉ ob.ns /\ Wd = ob.ns ++ [name] /\ uO = ob.vs ++ [v] /\ ob.ns.length <= 50) \/ (∃ i, ob.ns[i]? = some name /\ Wd = ob.ns /\ uO = ob.vs.set i v))
  (k : ∀ h' aN l', OR ρ G { ob with ns := Wd, vs := uO } l' -> bJ C ρ G (l' ++ fo) none m loc h' -> Q () (St s h' aN)) : wpAny (model g.prog g.w) C.A (setAttr (.ref ob.aS) name val) Q E s := by
 refine fO I.kM fun os b c d => ?_;obtain ⟨es, n, vals, ll, rfl, hE, hV, hX⟩ := O.ex;have IA : InstAt s.heap ob.aS (instObj 1048 ob.dS) 1048 (some (dictOf es n)) := InstAt.of_news c (by simp) (by simp);have eq1 : ∀ o, os ++ (((ob.aS, instObj 1048 ob.dS) :: (ob.dS, o) :: (ob.kd ++ ll) ++ fo) ++ G) = (os ++ [(ob.aS, instObj 1048 ob.dS)]) ++ (ob.dS, o) :: ((ob.kd ++ ll ++ fo) ++ G) := by intro o; simp
 rw [eq1] at c d;obtain ⟨s1, s2⟩ := dO d;have fin : ∀ uV, (putL name (PyData.keyHash g.w.params name) (.str name (s.toks + 1)) val es) = uV -> (getL name es).isSome = true -> eJ uV Wd (match decide (name ∈ ob.ns) with | true => vals.set (ob.ns.findIdx (· == name)) val | false => vals ++ [val]) -> True := fun U U U U => trivial
 have go : ∀ gD, eJ (putL name (PyData.keyHash g.w.params name) (.str name (s.toks + 1)) val es) Wd gD -> cA ρ G uO gD -> (getL name es).isSome = true -> Wd.Nodup -> Wd.length <= 100 -> wpAny (model g.prog g.w) C.A (setAttr (.ref ob.aS) name val) Q E s := by
  intro gD Bw QK gs Fw hlen;refine set_dict I.fr ok.fK c IA rfl F.so.fi F.so.po (F.Fh _ hn) F.so.hd gs rfl (jD s1 s2) (by rw [Bw.length.1]; omega) fun h' F' N' => ?_;refine k h' _ ((ob.aS, instObj 1048 ob.dS) :: (ob.dS, dictOf (putL name (PyData.keyHash g.w.params name) (.str name (s.toks + 1)) val es) (putN name es n)) :: (ob.kd ++ ll)) ⟨⟨_, _, gD, ll, rfl, Bw, QK, hX⟩, Fw, hlen, O.kd⟩ ⟨⟨[], os, rfl, b, ?_, ?_⟩, F', I.nd⟩
  ·rw [List.nil_append, eq1]; exact N'
  ·rw [List.nil_append, eq1]; exact fB d
 rcases hs with ⟨h1, rfl, rfl, h2⟩ | ⟨i, h1, rfl, rfl⟩
 ·refine go _ (eJ.snoc hE h1) (hV.snoc hv) (by rw [fX hE h1]; rfl) ?_ (by simp; omega);refine List.nodup_append.mpr (fL O.nd (by simp) ?_);intro a ha b' hb q;rw [List.mem_singleton.mp hb] at q;exact h1 (q ▸ ha)
 ·have Bw := eJ.put (hsh := PyData.keyHash g.w.params name) (key := .str name (s.toks + 1)) (v := val) hE O.nd h1;refine go _ Bw (hV.set hv i) ?_ O.nd O.len;have hl := hE.length.2;have hi : i < vals.length := by rw [hl]; exact (List.getElem?_eq_some_iff.mp h1).1
  have : (name, vals[i]) ∈ ob.ns.zip vals := by
   rw [List.mem_iff_getElem?];exact ⟨i, by rw [List.getElem?_zip_eq_some]; exact ⟨h1, List.getElem?_eq_getElem hi⟩⟩
  rw [jK hE O.nd this]; rfl
theorem dE.set {x name : Str} {p pos : Pos} {e : Expr} {Q : Fl -> aF -> Ob -> Prop} (F : aE g) (hn : name ∈ aD) (hx : aB C x) (hs : swapsWith e (some (.Attribute (.Name x np) name p)) pos.line C.env = pure false)
  (h : eV g D C ρ e loc ob (fun v l s => (x, LV.val (.glob (.ref s.aS))) ∈ l /\ ((name ∉ s.ns /\ s.ns.length <= 50 /\ Q .next l { s with ns := s.ns ++ [name], vs := s.vs ++ [v] }) \/ (∃ i, s.ns[i]? = some name /\ Q .next l { s with vs := s.vs.set i v })))) :
  dE g D C ρ (exec (.Assign [.Attribute (.Name x np) name p] e pos) C.env) loc ob Q := by
 refine .of fun ok G fo l m s O I Qr Er q => ?_;refine plainObj_wpAny_Assign_Attribute (h.out ok G fo l m s O I _ _ (fun v aC kX G' l' val h' aN z1 z2 z3 z4 z5 => ?_)) hs;obtain ⟨hm, z1⟩ := z1;refine fO z5.kM fun os b c d => ?_;refine aR (b.get hm) fun sv' e1 e2 => ?_;induction e2.out
 refine nameX_L z5.fr e1 ?_ ok.kind hx.1 hx.2
 rcases z1 with ⟨h1, h2, h3⟩ | ⟨i, h1, h3⟩
 ·exact DW (s := (St s h' aN)) F ok hn z3 z5 z4 (.inl (II h1 rfl rfl h2)) fun h2 t2 l2 O2 I2 => q .next aC _ G' l2 m .next h2 t2 h3 z2 O2 .next I2
 ·exact DW (s := (St s h' aN)) F ok hn z3 z5 z4 (.inr (nF i h1 rfl rfl)) fun h2 t2 l2 O2 I2 => q .next aC _ G' l2 m .next h2 t2 h3 z2 O2 .next I2
theorem eV.newList {pos : Pos} {Q : V -> aF -> Ob -> Prop} (h : ∀ a, Q (.glob (.ref a)) loc { ob with xs := (a, []) :: ob.xs }) : eV g D C ρ (.List [] pos) loc ob Q := by
 refine .of fun ok G fo l m s O I Qr Er q => ?_;refine fO I.kM fun os b c d => ?_;obtain ⟨es, n, vals, ll, rfl, hE, hV, hX⟩ := O.ex;refine List_ ?_;refine spliced_nil ?_;refine newList_K (vs := []) I.fr c (fun al h2 F2 N2 lt => ?_) (by decide);have dd := cF (oa := W.listOf ([] : List Value).toArray 0) d lt;have pm : ((al, W.listOf ([] : List Value).toArray 0) :: (os ++ (((ob.aS, instObj 1048 ob.dS) :: (ob.dS, dictOf es n) :: (ob.kd ++ ll) ++ fo) ++ G))).Perm (os ++ (((ob.aS, instObj 1048 ob.dS) :: (ob.dS, dictOf es n) :: (ob.kd ++ ((al, W.listOf ([] : List Value).toArray 0) :: ll)) ++ fo) ++ G)) := by
  refine List.perm_middle.symm.trans ((List.Perm.refl os).append ?_);simp only [List.cons_append, List.append_assoc];refine (List.Perm.swap _ _ _).trans (.cons _ ?_);refine (List.Perm.swap _ _ _).trans (.cons _ ?_);exact List.perm_middle.symm
 exact q _ loc _ G _ _ h2 _ (h al) (.refl _) ⟨⟨es, n, vals, (al, W.listOf ([] : List Value).toArray 0) :: ll, rfl, hE, hV, .cons .nil hX⟩, O.nd, O.len, O.kd⟩ .glob
  ⟨⟨[], os, rfl, b, bY N2 fun p hp => pm.symm.subset (by simpa using hp), by rw [List.nil_append]; exact (List.Perm.nodup_iff (pm.map _)).mp dd⟩, F2, I.nd⟩
theorem eV.newDict {pos : Pos} {Q : V -> aF -> Ob -> Prop} (h : ∀ a o, Q (.glob (.ref a)) loc { ob with kd := (a, o) :: ob.kd }) : eV g D C ρ (.Dict [] [] pos) loc ob Q := by
 refine .of fun ok G fo l m s O I Qr Er q => ?_;refine fO I.kM fun os b c d => ?_;obtain ⟨es, n, vals, ll, rfl, hE, hV, hX⟩ := O.ex;refine newDict_K I.fr c (TopRead.nolimit (topRead_of ok.top)) fun al h2 o F2 N2 lt lo U U hint U => ?_;have dd := cF (oa := o) d lt;have pm : ((al, o) :: (os ++ (((ob.aS, instObj 1048 ob.dS) :: (ob.dS, dictOf es n) :: (ob.kd ++ ll) ++ fo) ++ G))).Perm (os ++ (((ob.aS, instObj 1048 ob.dS) :: (ob.dS, dictOf es n) :: (((al, o) :: ob.kd) ++ ll) ++ fo) ++ G)) := by
  refine List.perm_middle.symm.trans ((List.Perm.refl os).append ?_);simp only [List.cons_append, List.append_assoc];refine (List.Perm.swap _ _ _).trans (.cons _ ?_);exact (List.Perm.swap _ _ _).trans (.cons _ (.refl _))
 refine q _ loc _ G _ _ h2 _ (h al o) (.refl _) ⟨⟨es, n, vals, ll, rfl, hE, hV, hX⟩, O.nd, O.len, ?_⟩ .glob
  ⟨⟨[], os, rfl, b, bY N2 fun p hp => pm.symm.subset (by simpa using hp), by rw [List.nil_append]; exact (List.Perm.nodup_iff (pm.map _)).mp dd⟩, F2, I.nd⟩
 intro p hp
 rcases List.mem_cons.mp hp with rfl | hp
 ·exact ⟨lo, mQ hint⟩
 ·exact O.kd p hp
theorem eV.Lf {D' : Nat} {x : Str} {pos : Pos} {name : Str} {args : List Expr} {f : Addr} {Q : V -> aF -> Ob -> Prop} (hh : C.A.handled = Option.none) (hm : lF g 1048 name f) (hn : name ∉ ob.ns) (hD : D' + 1 <= D) (hx : aB C x) (hv : (x, LV.val (.glob (.ref ob.aS))) ∈ loc) (he : bS (.Name x np) name apos pos args C.env) (hs : aH pos args C.env)
  (h : AW g D C ρ Yk args loc none (fun vs l s => s = none /\ As g D' ρ f (.glob (.ref ob.aS) :: vs) ob (fun r yP => Q r l yP))) :
  eV g D C ρ (.Call (.Attribute (.Name x np) name apos) args [] pos) loc ob Q := by
 refine .of fun ok G fo l m s O I Qr Er q => ?_;obtain ⟨pl, he⟩ := he.eq;refine fO I.kM fun os b c d => ?_;refine aR (b.get hv) fun val e1 e2 => ?_;induction e2.out
 refine MethodCall_ (nameX_L I.fr e1 ?_ ok.kind hx.1 hx.2) he;have O' := O;obtain ⟨es, n, vals, ll, rfl, hE, hV, hX⟩ := O.ex;have IA : InstAt s.heap ob.aS (instObj 1048 ob.dS) 1048 (some (dictOf es n)) := InstAt.of_news c (by simp) (by simp);refine method_inst I.fr ok.fK IA hm.pg hm.fi hm.fn (fX hE hn) ?_;refine dN hs hm.kp ?_;refine AW.run h ok I (fun U U U U U U U z => z.elim) fun vs bG fV G2 vals2 h2 eM y1 y2 y3 y4 U => ?_;refine ⟨ok.fK.keeps y4.fr.keep, ?_⟩;obtain ⟨rfl, y1⟩ := y1;exact y1.out C (ok.mono hD) hh G2 fo _ m bG (St s h2 eM) _ (O'.mono y2) y4 (.cons .glob y3) Qr Er
  (fun v kX G' l' val h' aN w1 w2 w3 w4 w5 => q v bG kX G' l' val h' aN w1 (y2.trans w2) w3 w4 w5)
theorem As.lift {f : Addr} {args : List V} {Q : V -> Ob -> Prop} (h : FW g D ρ (fun U U => False) f args none (fun v s => s = none /\ Q v ob)) : As g D ρ f args ob Q := by
 refine .of fun C ok hh G fo l m loc s vals O I hv Qr Er q => ?_;refine h.out C ok hh G (l ++ fo) m loc s vals [] I hv .nil Qr Er (fun v aW G' val h' aN z1 z2 z3 z4 => ?_) (fun U U U U U U z => z.elim);obtain ⟨rfl, z1⟩ := z1;exact q v ob G' l val h' aN z1 z2 (O.mono z2) z3 z4
@[irreducible] def qE (g : Gl) (D : Nat) (ρ : bZ) (f : Addr) (args : List V) (ob : Ob) (Q : V -> Ob -> Prop) : Prop :=
 ∀ (C : Cx), fM g (D + 1) C -> C.A.handled = none -> ∀ G fo l m loc s vals, OR ρ G ob l -> bJ C ρ G (l ++ fo) none m loc s.heap -> cA ρ G args vals -> ∀ (Qr : cY) (Er : cY),
  Iu C ρ G fo m s loc Q Qr ->
  codeAny (model g.prog g.w) C.A (.call (.ref f) ⟨vals, []⟩) (fun r s' => match r with | .ok (.ret v) => Qr v s' | .ok _ => False | .error e => Er e s') s
theorem qE.of {D : Nat} {f : Addr} {args : List V} {Q : V -> Ob -> Prop} (h :
 ∀ (C : Cx), fM g (D + 1) C -> C.A.handled = none -> ∀ G fo l m loc s vals, OR ρ G ob l -> bJ C ρ G (l ++ fo) none m loc s.heap -> cA ρ G args vals -> ∀ (Qr : cY) (Er : cY),
  Iu C ρ G fo m s loc Q Qr ->
  codeAny (model g.prog g.w) C.A (.call (.ref f) ⟨vals, []⟩) (fun r s' => match r with | .ok (.ret v) => Qr v s' | .ok _ => False | .error e => Er e s') s) : qE g D ρ f args ob Q := by delta qE; exact h
theorem qE.out {D : Nat} {f : Addr} {args : List V} {Q : V -> Ob -> Prop} (h : qE g D ρ f args ob Q) :
 ∀ (C : Cx), fM g (D + 1) C -> C.A.handled = none -> ∀ G fo l m loc s vals, OR ρ G ob l -> bJ C ρ G (l ++ fo) none m loc s.heap -> cA ρ G args vals -> ∀ (Qr : cY) (Er : cY),
  Iu C ρ G fo m s loc Q Qr ->
  codeAny (model g.prog g.w) C.A (.call (.ref f) ⟨vals, []⟩) (fun r s' => match r with | .ok (.ret v) => Qr v s' | .ok _ => False | .error e => Er e s') s := by delta qE at h; exact h
theorem qE.wp {f : Addr} {args : List V} {Q : V -> Ob -> Prop} (h : qE g D ρ f args ob Q) : As g D ρ f args ob Q := by
 refine .of fun C ok hh G fo l m loc s vals O I hv Qr Er q => ?_;exact wpAny_call (h.out C ok hh G fo l m loc s vals O I hv Qr Er q)
theorem qE.go {f : Addr} {names : List Str} {k : Nat} {args : List V} {Q : V -> Ob -> Prop} (df : pU g f fd names k [] iI) (others : List Str) (hk : args.length = k)
  (hlen : names.length = (args ++ iI).length) (hn : (names ++ others).Nodup) (sH : (names.all fun x => decide (fd.scope.names.lookup x = some .local)) = true)
  (h : ∀ C', Bd C' fd -> dE g D C' ρ (execs fd.body C'.env) (iC names (args ++ iI) others) ob (fun fl U s => match fl with | .ret v => Q v s | .next => Q .none s | _ => False)) :
  qE g D ρ f args ob Q := by
 obtain ⟨qual, dV, eW, cR, fn, yU, hb⟩ := df;have DH : ∀ x ∈ names, fd.scope.names.lookup x = some .local := fun x hx => of_decide_eq_true (List.all_eq_true.mp sH x hx);refine .of fun C ok hh G fo l m loc s vals O I uE Qr Er q => ?_;refine fO I.kM fun os b c d => ?_;obtain ⟨oc, od, name, kV, doc, pm, an, ct, Bv, lk⟩ := fn.lk;have Bq := uE.length;have hz : names.length = (vals ++ cR).length := by
  rw [hlen, List.length_append, List.length_append (as := vals), Bq, (yU ρ G).length]
 have DE : BindsTo s (fnOf name qual fd.args fd.body fd.scope dV kV doc pm an eW ct) ⟨vals, []⟩ (names.zip (vals ++ cR)) := by
  have := hb vals [] (Bq.trans hk) rfl s (ok.fK.keeps I.fr.keep) name kV doc pm an ct
  simpa using this
 refine (code_def ok.below I.fr ok.fK c ok.top ok.frames rfl ok.kind lk fn.cd ok.room DE (fun y hy => DH _ ?_) (fun hp L' iZ Fg F' N' B' X' T' => ?_) fn.co fn.gen fn.kd fn.cell)
 ·have := List.mem_map_of_mem (f := (·.1)) hy
  rwa [kC hz] at this
 ·have JW : names.Nodup := (List.nodup_append.mp hn).1;have Pg : ∀ p ∈ names.zip (vals ++ cR), (names.zip (vals ++ cR)).reverse.lookup p.1 = some p.2 := fun p hp => iF (by
   rw [List.map_reverse, kC hz]; exact List.pairwise_reverse.mpr (JW.imp fun h => h.symm)) (List.mem_reverse.mpr hp)
  have NK : (os ++ ((l ++ fo) ++ G)).Perm ((l ++ (os ++ fo)) ++ G) := by
   rw [← List.append_assoc, ← List.append_assoc, ← List.append_assoc];exact (List.perm_append_comm.append_right fo).append_right G
  have I' : bJ (iJ C qual fd.scope L' f eW hp) ρ G (l ++ (os ++ fo)) none (fun y => (names.zip (vals ++ cR)).reverse.lookup y) (iC names (args ++ iI) others) iZ := by
   refine ⟨⟨[], [], rfl, wB (uE.append (yU ρ G)) hlen Pg, ?_, ?_⟩, F', ?_⟩
   ·exact bY N' fun p hp => NK.symm.subset (by simpa using hp)
   ·rw [List.nil_append, List.nil_append]; exact (List.Perm.nodup_iff (NK.map _)).mp d
   ·rw [mY hlen]; exact hn
  refine (h (iJ C qual fd.scope L' f eW hp) ⟨rfl, hh⟩).out (pM ok B' X' T' fn.kd) G (os ++ fo) l _ (St s iZ _) O I' _ _ (fun fl aC kX G' l' m' fv h' aN z1 z2 z3 z4 z5 => ?_);refine fO z5.kM fun uU b' c' d' => ?_;have sl : (os ++ ((l' ++ fo) ++ G')) ⊆ (uU ++ ((l' ++ (os ++ fo)) ++ G')) := by
   intro p hp;simp only [List.mem_append] at hp ⊢
   rcases hp with h | (h | h) | h <;> simp [h]
  have d2 : ((os ++ ((l' ++ fo) ++ G')).map (·.1)).Nodup := by
   have d3 := dJ d' (a := (l' ++ (os ++ fo)) ++ G') (List.sublist_append_right _ _);refine (List.Perm.nodup_iff (List.Perm.map _ ?_)).mp d3;rw [← List.append_assoc, ← List.append_assoc, ← List.append_assoc];exact (List.perm_append_comm.append_right fo).append_right G'
  have key : ∀ v val, Q v kX -> VR ρ G' v val -> LeaveK C.h₀ C.L m hp (fun r s' => match r with | .ok (.ret v) => Qr v s' | .ok _ => False | .error e => Er e s') val (St s h' aN) := fun v val hq hv =>
   ⟨L', m', os ++ ((l' ++ fo) ++ G'), z5.fr, bY c' sl, fun kF kN => q v kX G' l' val h' aN hq z2 z3 hv ⟨⟨[], os, rfl, b.mono z2, kN, d2⟩, kF, I.nd⟩⟩
  induction z4 with
  | next => exact key .none .none z1 .none
  | brk => exact z1.elim
  | cont => exact z1.elim
  | ret hv => exact key _ _ z1 hv
theorem As.go {f : Addr} {fd : FD} {names : List Str} {k : Nat} {args iI : List V} {Q : V -> Ob -> Prop} (df : pU g f fd names k [] iI) (others : List Str) (hk : args.length = k)
  (hlen : names.length = (args ++ iI).length) (hn : (names ++ others).Nodup) (sH : (names.all fun x => decide (fd.scope.names.lookup x = some .local)) = true)
  (h : ∀ C', Bd C' fd -> dE g D C' ρ (execs fd.body C'.env) (iC names (args ++ iI) others) ob (fun fl U s => match fl with | .ret v => Q v s | .next => Q .none s | _ => False)) :
  As g D ρ f args ob Q := (qE.go df others hk hlen hn sH h).wp
end
noncomputable def rI (c : Nat) : Bool := isIn [9, 10, 13, 133] c || ((decide (32 <= c) && decide (c <= 126)) || ((decide (160 <= c) && decide (c <= 55295)) || ((decide (57344 <= c) && decide (c <= 65533)) || (decide (65536 <= c) && decide (c <= 1114111)))))
section
variable {D : Nat}
theorem Vh (F : aE g) {c : Nat} {X : kP} {Q : jZ} (h : Q (.bool (rI c)) σ) : FW g 0 ρ X 130 [sv [c]] σ Q := by
 refine FW.go (F.d 46 rfl) [] rfl rfl (by decide) (by decide +kernel) fun C' B => ?_;have Gg : ∀ {a b : Str} {a' b' : Nat} {ka kb : Nat} {pa pb q r : Pos} {Q : nG}, a.cps.toList = [a'] -> b.cps.toList = [b'] -> Q (.bool (decide (a' <= c) && decide (c <= b'))) [("ch", .val (sv [c]))] σ ->
   EW g 0 C' ρ (fun x U s => X x s) (.Compare (.Constant (.str a) ka pa) [.LtE, .LtE] [.Name "ch" q, .Constant (.str b) kb pb] r) [("ch", .val (sv [c]))] σ Q := by
  intro a b a' b' ka kb pa pb q r Q ea eb hq;refine EW.Vk rfl (EW.str (EW.var (B.loc rfl rfl) (.head _) (rU ea rfl ⟨fun hb => ?_, fun hb => EW.str (rU rfl eb ?_)⟩)))
  ·rw [hb] at hq; exact hq
  ·rw [hb] at hq; exact hq
 refine SW.cons (SW.ret (EW.mH (EW.bC rfl (EW.var (B.loc rfl rfl) (.head _) (EW.str (fD [9, 10, 13, 133] rfl ?_))))));unfold rI at h;cases h1 : isIn [9, 10, 13, 133] c with
 | true => rw [h1] at h; exact ⟨fun U => h, fun h => (by cases h)⟩
 | false =>
 rw [h1] at h;refine ⟨fun h => (by cases h), fun U => EW.mH (Gg (a' := 32) (b' := 126) rfl rfl ?_)⟩;cases h2 : (decide (32 <= c) && decide (c <= 126)) with
 | true => rw [h2] at h; exact ⟨fun U => h, fun h => (by cases h)⟩
 | false =>
 rw [h2] at h;refine ⟨fun h => (by cases h), fun U => EW.mH (Gg (a' := 160) (b' := 55295) rfl rfl ?_)⟩;cases h3 : (decide (160 <= c) && decide (c <= 55295)) with
 | true => rw [h3] at h; exact ⟨fun U => h, fun h => (by cases h)⟩
 | false =>
 rw [h3] at h;refine ⟨fun h => (by cases h), fun U => EW.mH (Gg (a' := 57344) (b' := 65533) rfl rfl ?_)⟩;cases h4 : (decide (57344 <= c) && decide (c <= 65533)) with
 | true => rw [h4] at h; exact ⟨fun U => h, fun h => (by cases h)⟩
 | false =>
 rw [h4] at h;exact ⟨fun h => (by cases h), fun U => EW.qV (Gg (a' := 65536) (b' := 1114111) rfl rfl h)⟩
theorem pI (F : aE g) {r : Value} {x : Str} (hp : ∀ c ∈ x.cps.toList, rI c = true) {Q : jZ} (h : Q .none none) : FW g 1 ρ (fun U U => False) 182 [.glob r, .str x] none Q := by
 refine FW.go (F.d 6 rfl) ["start", "character", "position"] rfl rfl (by decide) (by decide +kernel) fun C' B => ?_;refine SW.cons (SW.Py B.hh (B.loc rfl rfl) (B.loc rfl rfl) (by rw [B.cs]; rfl) rfl x (fun U l => ∃ a b, l = ([("self", .val (.glob r)), ("data", .val (.str x)), ("start", a), ("character", b), ("position", .un)] : aF) /\ a.flat = true /\ b.flat = true) ?_ ?_ ?_ ?_ (fun U => rfl) ?_)
 ·rintro i l ⟨a, b, rfl, ha, hb⟩
  exact (Bool.and_eq_true _ _).mpr ⟨rfl, (Bool.and_eq_true _ _).mpr ⟨rfl, (Bool.and_eq_true _ _).mpr ⟨ha, (Bool.and_eq_true _ _).mpr ⟨hb, rfl⟩⟩⟩⟩
 ·exact EW.builtin (F.n 4 rfl) rfl (by decide) (B.glob rfl) rfl ⟨rfl, EW.lv B 1 rfl rfl rfl ⟨rfl, rfl, .un, .un, rfl, rfl, rfl⟩⟩
 ·rintro i c l hc ⟨a, b, rfl, ha, hb⟩
  refine (pO _ _ (.cH 2 rfl rfl) (.cH 3 rfl rfl) ?_);refine SW.cons (SW.nN (BW.not (BW.val (fun U => rfl) (EW.lB (D' := 0) B.hh F.So (by decide) rfl (EW.glob (F.gl 17 rfl) (B.glob rfl) rfl ⟨rfl, EW.var (B.loc rfl rfl) (.tail _ (.tail _ (.tail _ (.head _)))) (Vh F ?_)⟩)))));have : rI c = true := hp c (by rw [← Array.getElem?_toList] at hc; exact List.mem_of_getElem? hc);rw [this];exact ⟨fun h => (by cases h), fun U => SW.nil (SW.nil ⟨rfl, rfl, _, _, rfl, rfl, rfl⟩)⟩
 ·rintro l _
  exact SW.nil h
 ·show ((C'.cs.kind == .class || (C'.cs.kind == .module && C'.env.locals != C'.env.globals)) = false);rw [B.cs]; rfl
variable {C : Cx} {loc : aF}
theorem eV.RY {x qX : Str} {pos kp : Pos} {e0 : Expr} {args : List Expr} {ek : Expr} {l : List (Str × Str)} {n : Nat} {Q : V -> aF -> Ob -> Prop}
  (co : Qm g Cl l n qX) (hn : n = args.length + 1) (hD : 2 <= D) (hs : aH pos (e0 :: args) C.env) (TN : starEach (e0 :: args) C.env = (false, eval e0 C.env) :: starEach args C.env)
  (h : EW g D C ρ Yk (.Name x np) loc none (fun v l1 s => v = .glob (.ref Cl) /\ AW g D C ρ Yk (e0 :: args) l1 s (fun vs l2 s => s = none /\ vs.length = args.length + 1 /\ eV g D C ρ ek l2 ob (fun u l3 kX => Q (.inst Cl (l.map (·.1)) (vs ++ [u])) l3 kX)))) :
  eV g D C ρ (.Call (.Name x np) (e0 :: args) [⟨some qX, ek, kp⟩] pos) loc ob Q := by
 obtain ⟨fI, qual, params, body, scope, dV, eW, sf, AN, hlen, hb⟩ := co;subst hn;refine .of fun ok G fo l' m s O I Qr Er q => ?_;show wpAny _ _ (do callWith pos (← eval (.Name x np) C.env) [] (backTo pos (starEach (e0 :: args) C.env)) (backToKw pos (keywordEach [⟨some qX, ek, kp⟩] C.env))) _ _ _;refine wpAny_bind (EW.seq1 h ok I (fun U U U U U U U z => z.elim) fun v bP fE G1 val h1 dB z1 z2 z3 z4 U => ?_);obtain ⟨rfl, z⟩ := z1;induction z3.out
 have Yy : ((backTo pos (starEach (e0 :: args) C.env)).any (·.1) || (backToKw pos (keywordEach [⟨some qX, ek, kp⟩] C.env)).any (·.1.isNone)) = false := by
  have Ha := hs;have Ha := Ha.eq;rw [Ha];have : ((e0 :: args).map fun e => ((false : Bool), eval e C.env)).any (·.1) = false := by simp [List.any_map, Function.comp_def]
  rw [this]; rfl
 refine callWith_KW ok.fK AN.kp rfl ?_ Yy TN;have JG := hs;have JG := JG.eq;rw [JG];refine AW.run z ok (s := (St s h1 dB)) z4 (fun U U U U U U U z => z.elim) fun vs bG fV G2 vals2 h2 eM y1 y2 y3 y4 U => ?_;refine qA y1 ?_;try clear y1;intro cN uE y1;subst cN;refine kwAll_cons (y1.out ok G2 fo l' m (St s h2 eM) (O.mono fun p hp => y2 p (z2 p hp)) y4 _ _ fun u lU RS G3 l3 DK h3 Dh x1 x2 x3 x4 x5 => ?_);refine kwAll_nil ?_;refine ⟨ok.fK.keeps x5.fr.keep, ?_⟩;have Bq := y3.length;refine pZ (D := D - 2) AN (ok.mono (Nat.le_of_eq (Nat.sub_add_cancel hD))) (s := (St s h3 Dh)) x5 (as := vs ++ [u]) (fF := vals2 ++ [DK]) ((y3.mono x2).append (.cons x4 .nil)) (by rw [hlen, List.length_append, uE]; rfl) (hb vals2 DK (by rw [Bq, uE])) fun G' val h' aN w1 w2 w3 => ?_;exact q _ lU RS G' l3 val h' aN x1 (fun p hp => w1 p (x2 p (y2 p (z2 p hp)))) (x3.mono w1) w2 w3
theorem eV.append {o e : Expr} {apos pos : Pos} {Q : V -> aF -> Ob -> Prop} (he : bS o "append" apos pos [e] C.env) (hs : aH pos [e] C.env)
  (h : eV g D C ρ o loc ob (fun v l s => ∃ a vs r, v = .glob (.ref a) /\ s.xs = (a, vs) :: r /\ vs.length <= 1000 /\ eV g D C ρ e l s (fun v l' s' => s' = s /\ Q .none l' { s with xs := (a, vs ++ [v]) :: r }))) :
  eV g D C ρ (.Call (.Attribute o "append" apos) [e] [] pos) loc ob Q := by
 refine .of fun ok G fo l m s O I Qr Er q => ?_;obtain ⟨pl, he⟩ := he.eq;refine MethodCall_ (h.out ok G fo l m s O I _ _ fun v bP QU G1 l1 val h1 dB z1 z2 z3 z4 z5 => ?_) he;refine EB z1 fun a vs r cN MV Bq z => ?_;subst cN;induction z4.out
 refine fO z5.kM fun os b c d => ?_;have LY := z3;obtain ⟨es, n, vals, ll, rfl, hE, hV, hX⟩ := z3.ex;rw [MV] at hX;induction hX.out with
 | @cons tn ll tv hT LL =>
 refine gS (s := (St s h1 dB)) c (Dl := a) (its := tv.toArray) (n := tn) (by simp) PySem.F.slot_list_append PySem.F.type_list_append hs ?_;refine spliced_cons (z.out ok G1 fo _ m (St s h1 dB) LY z5 _ _ fun v2 bG yP G2 l2 rX h2 eM y1 y2 y3 y4 y5 => ?_);refine spliced_nil ?_;obtain ⟨rfl, y1⟩ := y1;refine fO y5.kM fun os2 b2 c2 d2 => ?_;obtain ⟨FQ, n2, vals2, Oz, rfl, QL, QX, ET⟩ := y3.ex;rw [MV] at ET;induction ET.out with
 | @cons OD Oz OE LR PF =>
 have eq1 : ∀ o, os2 ++ (((yP.aS, instObj 1048 yP.dS) :: (yP.dS, dictOf FQ n2) :: (yP.kd ++ ((a, o) :: Oz)) ++ fo) ++ G2) = (os2 ++ (yP.aS, instObj 1048 yP.dS) :: (yP.dS, dictOf FQ n2) :: yP.kd) ++ (a, o) :: ((Oz ++ fo) ++ G2) := by intro o; simp
 rw [eq1] at c2 d2;obtain ⟨s1, s2⟩ := dO d2;show wpAny (model g.prog g.w) C.A (call (.builtin "list.append") [.ref a, rX]) _ _ (St s h2 eM);refine append_K (s := (St s h2 eM)) y5.fr c2 (jD s1 s2) (fun h' F' N' => ?_) (by rw [List.size_toArray, LR.length]; unfold sizeLine; lia);rw [List.push_toArray] at N';refine q .none bG _ G2 ((yP.aS, instObj 1048 yP.dS) :: (yP.dS, dictOf FQ n2) :: (yP.kd ++ ((a, W.listOf (OE ++ [rX]).toArray (OD + 1)) :: Oz))) .none h' _ y1 (z2.trans y2) ⟨⟨FQ, n2, vals2, (a, W.listOf (OE ++ [rX]).toArray (OD + 1)) :: Oz, rfl, QL, QX, .cons (LR.append (.cons y4 .nil)) PF⟩, y3.nd, y3.len, y3.kd⟩ .none ⟨⟨[], os2, rfl, b2, ?_, ?_⟩, F', y5.nd⟩
 ·rw [List.nil_append, eq1]; exact N'
 ·rw [List.nil_append, eq1]; exact fB d2
end
section
variable {D : Nat} {C : Cx} {loc : aF}
noncomputable def BH (g : Gl) (D : Nat) (C : Cx) (ρ : bZ) : List Expr -> aF -> Ob -> (List V -> aF -> Ob -> Prop) -> Prop
 | [], loc, ob, Q => Q [] loc ob
 | e :: r, loc, ob, Q => eV g D C ρ e loc ob (fun v l s => BH g D C ρ r l s (fun vs => Q (v :: vs)))
theorem BH.run {args : List Expr} {loc : aF} {Q : List V -> aF -> Ob -> Prop} (h : BH g D C ρ args loc ob Q) (ok : fM g D C) {G fo l m s : _} (O : OR ρ G ob l) (I : bJ C ρ G (l ++ fo) none m loc s.heap) {t : List Value -> Shared -> Prop}
  (k : ∀ vs aC kX G' l' vals h' aN, Q vs aC kX -> Sub G G' -> OR ρ G' kX l' -> cA ρ G' vs vals -> bJ C ρ G' (l' ++ fo) none m aC h' -> t vals (St s h' aN)) :
  wpAny (model g.prog g.w) C.A (spliced (args.map fun e => (false, eval e C.env))) t Er s := by
 induction args generalizing loc ob Q G l s t with
 | nil => exact spliced_nil (k [] loc ob G l [] s.heap s.toks h (.refl _) O .nil I)
 | cons e r ih =>
  refine spliced_cons (h.out ok G fo l m s O I _ _ fun v bP QU G1 l1 val h1 dB z1 z2 z3 z4 z5 => ?_);refine ih z1 (s := (St s h1 dB)) z3 z5 fun vs bG yP G2 l2 vals h2 eM y1 y2 y3 y4 y5 => ?_;exact k (v :: vs) bG yP G2 l2 (val :: vals) h2 eM y1 (fun p hp => y2 p (z2 p hp)) y3 (.cons (z4.mono y2) y4) y5
theorem eV.yS {x : Str} {pos : Pos} {args : List Expr} {l : List (Str × Str)} {n : Nat} {Q : V -> aF -> Ob -> Prop} (co : oU g Cl l n []) (hn : n = args.length) (hD : 2 <= D) (hs : aH pos args C.env)
  (h : EW g D C ρ Yk (.Name x np) loc none (fun v l1 s => v = .glob (.ref Cl) /\ s = none /\ BH g D C ρ args l1 ob (fun vs l2 kX => vs.length = args.length /\ Q (.inst Cl (l.map (·.1)) vs) l2 kX))) :
  eV g D C ρ (.Call (.Name x np) args [] pos) loc ob Q := by
 obtain ⟨fI, qual, params, body, scope, dV, eW, sf, cR, AN, yU, hlen, hb⟩ := co;subst hn;refine .of fun ok G fo l' m s O I Qr Er q => ?_;refine wpAny_Call_ofName (EW.seq1 h ok I (fun U U U U U U U z => z.elim) fun v bP fE G1 val h1 dB z1 z2 z3 z4 U => ?_);refine qA z1 fun cN nA z => ?_;subst cN nA;induction z3.out
 refine dN (first := []) hs AN.kp ?_;refine BH.run z ok (s := (St s h1 dB)) (O.mono z2) z4 fun vs bG yP G2 l2 vals2 h2 eM y1 y2 y3 y4 y5 => ?_;refine ⟨ok.fK.keeps y5.fr.keep, ?_⟩;have PY : cR = [] := by have := yU ρ G2; cases this; rfl
 have Ux := hb vals2 (by rw [y4.length, y1.1]);rw [PY, List.append_nil] at Ux;refine pZ (D := D - 2) AN (ok.mono (Nat.le_of_eq (Nat.sub_add_cancel hD))) (s := (St s h2 eM)) y5 (as := vs) (fF := vals2) y4 (by rw [hlen, y1.1]; rfl) Ux fun G' val h' aN w1 w2 w3 => ?_;exact q _ bG yP G' l2 val h' aN y1.2 (fun p hp => w1 p (y2 p (z2 p hp))) (y3.mono w1) w2 w3
theorem Ir.isNone {e : Expr} {k : Nat} {pos : Pos} {Q : Bool -> aF -> Ob -> Prop} (h : eV g D C ρ e loc ob (fun v l s => ∃ b, v.isNone = some b /\ Q b l s)) : Ir g D C ρ (.Compare e [.Is] [.Constant .none k cp] pos) loc ob Q := by
 refine .of fun ok G fo l m s w O I ew Qr Er q => ?_;refine wpAny_isTrue_Compare1 (h.out ok G fo l m s O I _ _ fun v aC kX G' l' val h' aN z1 z2 z3 z4 z5 => ?_) rfl;refine aR z1 fun b hb z1 => ?_;refine wpAny_Constant_none ?_;have e := oQ hb z4;exact PyProof.Rows.is_none_gen (wpAny_truthy_bool (by rw [e]; exact q b aC kX G' l' h' aN z1 z2 z3 z5))
theorem dE.kQ {aS dS : Addr} {vs : List V} {xs : List (Addr × List V)} {kd : List (Addr × Obj)} {x name : Str} {p pos : Pos} {e : Expr} {Q : Fl -> aF -> Ob -> Prop} (F : aE g) (k : Nat) (hk : aD[k]? = some name) (hx : aB C x) (hs : swapsWith e (some (.Attribute (.Name x np) name p)) pos.line C.env = pure false)
  (h : eV g D C ρ e loc ⟨aS, dS, aD.take k, vs, xs, kd⟩ (fun v l s => ∃ vs xs kd, s = ⟨aS, dS, aD.take k, vs, xs, kd⟩ /\ (x, LV.val (.glob (.ref aS))) ∈ l /\ Q .next l ⟨aS, dS, aD.take (k + 1), vs ++ [v], xs, kd⟩)) :
  dE g D C ρ (exec (.Assign [.Attribute (.Name x np) name p] e pos) C.env) loc ⟨aS, dS, aD.take k, vs, xs, kd⟩ Q := by
 refine dE.set F (List.mem_of_getElem? hk) hx hs (h.mono fun v l s q => ?_);refine Pt q ?_;try clear q;intro vs xs kd cN hm q;subst cN;refine ⟨hm, .inl (fL (fun QV => ?_) ?_ ?_)⟩
 ·obtain ⟨i, hi⟩ := List.mem_iff_getElem?.mp QV;rw [List.getElem?_take] at hi
  split at hi
  ·rename_i pK
   have UU := (List.getElem?_eq_some_iff.mp hk).1;have := (List.getElem?_inj (i := i) (j := k) (by lia) eP).mp (hi.trans hk.symm)
   lia
  ·cases hi
 ·show (aD.take k).length <= 50;rw [List.length_take];have : aD.length = 20 := rfl
  lia
 ·have : aD.take k ++ [name] = aD.take (k + 1) := by rw [List.take_add_one, hk]; rfl
  show Q .next l ⟨aS, dS, aD.take k ++ [name], vs ++ [v], xs, kd⟩;rw [this]; exact q
theorem dE.AY {aS dS : Addr} {ns : List Str} {vs : List V} {xs : List (Addr × List V)} {kd : List (Addr × Obj)} {x name : Str} {p pos : Pos} {e : Expr} {Q : Fl -> aF -> Ob -> Prop} (F : aE g) (i : Nat) (hn : name ∈ aD) (hi : ns[i]? = some name) (hx : aB C x) (hs : swapsWith e (some (.Attribute (.Name x np) name p)) pos.line C.env = pure false)
  (h : eV g D C ρ e loc ⟨aS, dS, ns, vs, xs, kd⟩ (fun v l s => ∃ vs xs kd, s = ⟨aS, dS, ns, vs, xs, kd⟩ /\ (x, LV.val (.glob (.ref aS))) ∈ l /\ Q .next l ⟨aS, dS, ns, vs.set i v, xs, kd⟩)) :
  dE g D C ρ (exec (.Assign [.Attribute (.Name x np) name p] e pos) C.env) loc ⟨aS, dS, ns, vs, xs, kd⟩ Q := by
 refine dE.set F hn hx hs (h.mono fun v l s q => ?_);refine Pt q ?_;try clear q;intro vs xs kd cN hm q;subst cN;exact ⟨hm, .inr (eO i hi q)⟩
noncomputable def lT (b : Str) : List V := [.str "<unicode string>", .none, .int 0, .bool true, .str b, .int 0, .none, .none, .none, .int 0, .int 0, .int 0]
theorem Dq (F : aE g) {aS dS : Addr} {xs : List (Addr × List V)} {kd : List (Addr × Obj)} {x : Str} (hp : ∀ c ∈ x.cps.toList, rI c = true) (hl : x.length <= 99999) {Q : V -> Ob -> Prop} (h : Q .none ⟨aS, dS, aD.take 12, lT (x ++ "\x00"), xs, kd⟩) :
  qE g 2 ρ 144 [.glob (.ref aS), .str x] ⟨aS, dS, [], [], xs, kd⟩ Q := by
 refine qE.go (F.d 47 rfl) [] rfl rfl (by decide) (by decide +kernel) fun C' B => ?_;refine dE.cons (dE.kQ F 0 rfl (B.loc rfl rfl) rfl (eV.lift (EW.none ⟨rfl, _, _, _, rfl, .head _, ?_⟩)));refine dE.cons (dE.kQ F 1 rfl (B.loc rfl rfl) rfl (eV.lift (EW.none ⟨rfl, _, _, _, rfl, .head _, ?_⟩)));refine dE.cons (dE.kQ F 2 rfl (B.loc rfl rfl) rfl (eV.lift (EW.int ⟨rfl, _, _, _, rfl, .head _, ?_⟩)));refine dE.cons (dE.kQ F 3 rfl (B.loc rfl rfl) rfl (eV.lift (EW.bool ⟨rfl, _, _, _, rfl, .head _, ?_⟩)));refine dE.cons (dE.kQ F 4 rfl (B.loc rfl rfl) rfl (eV.lift (EW.str ⟨rfl, _, _, _, rfl, .head _, ?_⟩)));refine dE.cons (dE.kQ F 5 rfl (B.loc rfl rfl) rfl (eV.lift (EW.int ⟨rfl, _, _, _, rfl, .head _, ?_⟩)));refine dE.cons (dE.kQ F 6 rfl (B.loc rfl rfl) rfl (eV.lift (EW.none ⟨rfl, _, _, _, rfl, .head _, ?_⟩)));refine dE.cons (dE.kQ F 7 rfl (B.loc rfl rfl) rfl (eV.lift (EW.none ⟨rfl, _, _, _, rfl, .head _, ?_⟩)));refine dE.cons (dE.kQ F 8 rfl (B.loc rfl rfl) rfl (eV.lift (EW.none ⟨rfl, _, _, _, rfl, .head _, ?_⟩)));refine dE.cons (dE.kQ F 9 rfl (B.loc rfl rfl) rfl (eV.lift (EW.int ⟨rfl, _, _, _, rfl, .head _, ?_⟩)));refine dE.cons (dE.kQ F 10 rfl (B.loc rfl rfl) rfl (eV.lift (EW.int ⟨rfl, _, _, _, rfl, .head _, ?_⟩)));refine dE.cons (dE.kQ F 11 rfl (B.loc rfl rfl) rfl (eV.lift (EW.int ⟨rfl, _, _, _, rfl, .head _, ?_⟩)));refine dE.cons (dE.nN (Ir.lift (BW.val (fun U => rfl) (EW.Vt rfl (EW.builtin (F.n 3 rfl) rfl (by decide) (B.glob rfl) rfl ⟨rfl, EW.lv B 1 rfl rfl rfl (EW.builtin (F.n 2 rfl) rfl (by decide) (B.glob rfl) rfl ⟨x, rfl, ⟨rfl, fun U => ?_, fun h => by cases h⟩⟩)⟩)))));refine dE.cons (dE.AY F 0 (by simp [aD]) rfl (B.loc rfl rfl) rfl (eV.lift (EW.str ⟨rfl, _, _, _, rfl, .head _, ?_⟩)));refine dE.cons (dE.expr (B.int rfl) rfl (eV.Lf (D' := 1) B.hh (F.m 4 rfl) (by show _ ∉ aD.take 12; decide +kernel) (by decide) (B.loc rfl rfl) (.head _) ⟨_, rfl⟩ rfl (EW.lv B 1 rfl rfl rfl ⟨rfl, As.lift (pI F hp ⟨rfl, ?_⟩)⟩)));refine dE.cons (dE.AY F 4 (by simp [aD]) rfl (B.loc rfl rfl) rfl (eV.lift (EW.tA (EW.var (B.loc rfl rfl) (.tail _ (.head _)) (EW.str ⟨_, _, rfl, rfl, ?_, rfl, _, _, _, rfl, .head _, ?_⟩)))))
 ·show x.length + 1 <= _;unfold sizeLine; lia
 ·exact dE.nil (dE.nil h)
noncomputable def Sf (aS dS aT : Addr) (b : Str) (ts : List V) : Ob := ⟨aS, dS, aD.take 15, lT b ++ [.bool false, .int 0, .glob (.ref aT)], [(aT, ts)], []⟩
theorem Oi (F : aE g) {aS dS aT : Addr} {b : Str} {ts : List V} {Q : V -> Ob -> Prop} (h : Q (iD b 0 0 0) (Sf aS dS aT b ts)) : As g 2 ρ 175 [.glob (.ref aS)] (Sf aS dS aT b ts) Q := by
 refine As.go (F.d 5 rfl) [] rfl rfl (by decide) (by decide +kernel) fun C' B => ?_;refine dE.cons (dE.nN (Ir.isNone (eV.attr (i := 1) (F.attr _ (by simp [aD])) (B.loc rfl rfl) (.head _) rfl rfl (.inl rfl) rfl (nF true rfl (fun U => ?_) (fun h => by cases h)))));refine dE.cons (dE.ret (eV.yS (F.c 0 rfl) rfl (by decide) rfl (EW.glob (F.gl 0 rfl) (B.glob rfl) rfl (fL rfl rfl ?_))));refine eV.attr (i := 0) (F.attr _ (by simp [aD])) (B.loc rfl rfl) (.head _) rfl rfl (.inl rfl) rfl ?_;refine eV.attr (i := 9) (F.attr _ (by simp [aD])) (B.loc rfl rfl) (.head _) rfl rfl (.inl rfl) rfl ?_;refine eV.attr (i := 10) (F.attr _ (by simp [aD])) (B.loc rfl rfl) (.head _) rfl rfl (.inl rfl) rfl ?_;refine eV.attr (i := 11) (F.attr _ (by simp [aD])) (B.loc rfl rfl) (.head _) rfl rfl (.inl rfl) rfl ?_;refine eV.attr (i := 4) (F.attr _ (by simp [aD])) (B.loc rfl rfl) (.head _) rfl rfl (.inl rfl) rfl ?_;refine eV.attr (i := 5) (F.attr _ (by simp [aD])) (B.loc rfl rfl) (.head _) rfl rfl (.inl rfl) rfl ?_;exact ⟨rfl, h⟩
theorem rA (F : aE g) {aS dS aT : Addr} {b : Str} {Q : V -> Ob -> Prop} (h : Q .none (Sf aS dS aT b [fH (iD b 0 0 0) (iD b 0 0 0) .none])) : As g 3 ρ 636 [.glob (.ref aS)] (Sf aS dS aT b []) Q := by
 refine As.go (F.d 17 rfl) ["mark"] rfl rfl (by decide) (by decide +kernel) fun C' B => ?_;refine dE.cons (dE.assign rfl (B.loc rfl rfl) (eV.Lf (D' := 2) B.hh (F.m 3 rfl) (by show _ ∉ aD.take 15; decide +kernel) (by decide) (B.loc rfl rfl) (.head _) ⟨_, rfl⟩ rfl ⟨rfl, Oi F (eO _ (.cH 1 rfl rfl) ?_)⟩));refine dE.cons (dE.expr (B.int rfl) rfl (eV.append ⟨_, rfl⟩ rfl (eV.attr (i := 14) (F.attr _ (by simp [aD])) (B.loc rfl rfl) (.head _) rfl rfl (.inr ⟨_, rfl⟩) rfl (EG aT ([]) ([]) rfl rfl (by decide) ?_))));refine eV.RY F.Tu rfl (by decide) rfl rfl (EW.glob (F.gl 19 rfl) (B.glob rfl) rfl ⟨rfl, EW.lv B 1 rfl rfl rfl (EW.lv B 1 rfl rfl rfl ⟨rfl, rfl, ?_⟩)⟩);refine eV.attr (i := 8) (F.attr _ (by simp [aD])) (B.loc rfl rfl) (.head _) rfl rfl (.inl rfl) rfl ⟨rfl, ?_⟩;exact dE.nil h
end
mutual
noncomputable def V.free : V -> Bool
 | .self => false
 | .toks => false
 | .rC => false
 | .inst _ _ vs => V.frees vs
 | .tup vs => V.frees vs
 | .lst vs => V.frees vs
 | _ => true
noncomputable def V.frees : List V -> Bool
 | [] => true
 | v :: vs => v.free && V.frees vs
end
theorem VR.lay {v : V} {val : Value} (x : VR ρ G v val) : v.free = true -> VR ρ' G v val :=
 VR.rec (motive_1 := fun v val U => v.free = true -> VR ρ' G v val) (motive_2 := fun vs vals U => V.frees vs = true -> cA ρ' G vs vals) (fun U => .none) (fun U => .bool) (fun U => .int) (fun U => .str) (fun U => .glob) (fun a b c U d h => .inst a b c (d h)) (fun a b c U d h => .An a b c (d h)) (fun a U d h => .tup a (d h)) (fun a U d h => .lst a (d h)) (fun h => Bool.noConfusion h) (fun h => Bool.noConfusion h) (fun h => Bool.noConfusion h) (fun U => .rK) (fun U => .nil) (fun U U a b h => .cons (a ((Bool.and_eq_true _ _).mp h).1) (b ((Bool.and_eq_true _ _).mp h).2)) x
theorem cA.lay {ρ ρ' : bZ} {G : bB} {vs : List V} {vals : List Value} (x : cA ρ G vs vals) (h : V.frees vs = true) : cA ρ' G vs vals := by
 induction vs generalizing vals with
 | nil => induction x.out; exact .nil
 | cons v vs ih => induction x.out with | cons a b => exact .cons (a.lay ((Bool.and_eq_true _ _).mp h).1) (ih b ((Bool.and_eq_true _ _).mp h).2)
noncomputable def LV.free : LV -> Bool
 | .un => true
 | .val v => v.free
 | .ml vs => V.frees vs
 | .cell _ none => true
 | .cell _ (some v) => v.free
theorem qS.lay {ρ ρ' : bZ} {G : bB} {m : cV} {x : Str} {lv : LV} {o : bB} (h : qS ρ G m x lv o) (hf : lv.free = true) : qS ρ' G m x lv o := by
 cases lv with
 | un => exact h
 | val v => induction h.out with | val a b => exact .val a (b.lay hf)
 | ml vs => induction h.out with | ml a b => exact .ml a (b.lay hf)
 | cell c v =>
  induction h.out with
  | cell a b =>
   cases v with
   | none => induction b.out; exact .cell a .none
   | some v =>
    induction b.out with
    | some b2 => exact .cell a (.some (b2.lay hf))
theorem bH.lay {ρ ρ' : bZ} {G : bB} {m : cV} {loc : aF} {os : bB} (h : bH ρ G m loc os) (hf : (loc.all fun p => p.2.free) = true) : bH ρ' G m loc os := by
 induction h with
 | nil => exact .nil
 | cons h _ ih =>
  obtain ⟨h1, h2⟩ := (Bool.and_eq_true _ _).mp hf;exact .cons (h.lay h1) (ih h2)
inductive BY (g : Gl) : Prop
 | mk (oc od Bv name qual kV doc pm an ct cda Ys Yh vs Yl file tf : _) (a : g.K.lookup 550 = some ⟨oc, od, .func (ksFn name qual (aL 34 0).args (aL 34 0).body (aL 34 0).scope .none kV doc pm an (.ref cda) ct 538), Bv⟩) (b : codeIn g.K (.ref cda) qual = true) (c : g.K.lookup cda = some ⟨Ys, Yh, .fields vs, Yl⟩) (d : vs[2]? = some (.str file tf)) (e : ((g.prog.main.file : Str) == file) = true)
structure rF (g : Gl) : Prop where
 IJ : makesIn g.K 1048 = true
 DD : findIn g.K (.ref 1048) "__init__" = some (some (.ref 550))
 CM : isFn g.K (.ref 550) = true
 kp : keepIn g.K (.ref 1048) = true
 fn : BY g
 cell : ∃ cl Yp Yi, g.K.lookup 538 = some ⟨cl, Yp, .cell (some (.ref 1048)), Yi⟩
 cls : ∃ cd, clsIn g.K 1048 = some cd
 mro : mroIn g.K 1048 (.ref 1048) = some true
 sup : nsIn g.K mainGlobals "super" = some none
 top : (g.prog.main.scope.names.lookup ("super" : Str)).isSome = false
 PH : nsIn g.K cStatics "thirdparty.any" = some none
 sin : ks_superIn g.K 1048 1048 "__init__" = some (some (.ref 144))
 ty : typeIn g.K (.ref 144) = some (.type "function")
 fi : fnIn g.K 144 = true
section
variable {D : Nat} {C : Cx} {loc : aF}
theorem xC (F : aE g) {C' : Cx} (B : Bd C' (aL 34 0)) {aS dS : Addr} {b : Str} {sv' : V} :
  dE g 5 C' ρ (execs ((aL 34 0).body.drop 1) C'.env) [("self", .val (.glob (.ref aS))), ("stream", .val sv')] ⟨aS, dS, aD.take 12, lT b, [], []⟩
   (fun fl U s => fl = .next /\ ∃ aT aI aK oK, s = ⟨aS, dS, aD, lT b ++ [.bool false, .int 0, .glob (.ref aT), .int 0, .int (-1), .glob (.ref aI), .bool true, .glob (.ref aK)], [(aI, []), (aT, [fH (iD b 0 0 0) (iD b 0 0 0) .none])], [(aK, oK)]⟩) := by
 refine dE.cons (dE.kQ F 12 rfl (B.loc rfl rfl) rfl (eV.lift (EW.bool ⟨rfl, _, _, _, rfl, .head _, ?_⟩)));refine dE.cons (dE.kQ F 13 rfl (B.loc rfl rfl) rfl (eV.lift (EW.int ⟨rfl, _, _, _, rfl, .head _, ?_⟩)));refine dE.cons (dE.kQ F 14 rfl (B.loc rfl rfl) rfl (eV.newList fun aT => (Vp _ _ _ rfl (.head _) ?_)));refine dE.cons (dE.expr (B.int rfl) rfl (eV.Lf (D' := 3) B.hh (F.m 15 rfl) (by show _ ∉ aD.take 15; decide +kernel) (by decide) (B.loc rfl rfl) (.head _) ⟨_, rfl⟩ rfl ⟨rfl, rA F (aT := aT) ?_⟩));refine dE.cons (dE.kQ F 15 rfl (B.loc rfl rfl) rfl (eV.lift (EW.int ⟨rfl, _, _, _, rfl, .head _, ?_⟩)));refine dE.cons (dE.kQ F 16 rfl (B.loc rfl rfl) rfl (eV.lift (EW.neg (EW.int ⟨_, rfl, rfl, _, _, _, rfl, .head _, ?_⟩))));refine dE.cons (dE.kQ F 17 rfl (B.loc rfl rfl) rfl (eV.newList fun aI => (Vp _ _ _ rfl (.head _) ?_)));refine dE.cons (dE.kQ F 18 rfl (B.loc rfl rfl) rfl (eV.lift (EW.bool ⟨rfl, _, _, _, rfl, .head _, ?_⟩)));refine dE.cons (dE.kQ F 19 rfl (B.loc rfl rfl) rfl (eV.newDict fun aK oK => (Vp _ _ _ rfl (.head _) ?_)));exact dE.nil ⟨rfl, aT, aI, aK, oK, rfl⟩
end
class inductive uB (ρ ρ' : bZ) (G G' : bB) : List V -> List V -> Prop
 | nil : uB ρ ρ' G G' [] []
 | cons {v w vs ws : _} (a : ∀ val, VR ρ G v val -> VR ρ' G' w val) (b : uB ρ ρ' G G' vs ws) : uB ρ ρ' G G' (v :: vs) (w :: ws)
theorem uB.fs {v : V} {vs : List V} (hf : v.flat = true) (h : uB ρ ρ' G G' vs ws) : uB ρ ρ' G G' (v :: vs) (v :: ws) := .cons (fun U z => z.flat hf) h
theorem cA.conv {vs : List V} {vals : List Value} (c : uB ρ ρ' G G' vs ws) (h : cA ρ G vs vals) : cA ρ' G' ws vals := by
 induction c generalizing vals with
 | nil => cases h.out; exact .nil
 | cons a _ ih => cases h.out with | cons x y => exact .cons (a _ x) (ih y)
theorem Of (x : Str) : x ++ Str.ofString "\x00" = ⟨(x.cps.toList ++ [0]).toArray⟩ := by
 obtain ⟨⟨l⟩⟩ := x;have e : (Str.ofString "\x00").cps = #[0] := rfl;show Str.mk (Array.mk l ++ (Str.ofString "\x00").cps) = _;rw [e]; simp
section
variable {D : Nat} {C : Cx} {loc : aF}
theorem bJ.GN {m : cV} {h : Heap} {aS dS aT aI aK : Addr} {oK : Obj} {b : Str} {es : List DictEntry} {n nT nI : Nat} {vals vT tI : List Value} (zC : (loc.all fun p => p.2.free) = true) (sH : bH ρ G m loc os)
  (hE : eJ es aD vals) (hV : cA ρ G (lT b ++ [.bool false, .int 0, .glob (.ref aT), .int 0, .int (-1), .glob (.ref aI), .bool true, .glob (.ref aK)]) vals) (hT : cA ρ G [fH (iD b 0 0 0) (iD b 0 0 0) .none] vT) (hI : cA ρ G [] tI)
  (hk : (aK == sysModules) = false /\ ∀ prog w, oK.IsDictOf (intKind prog w) []) {x : Str} (hb : b = ⟨(x.cps.toList ++ [0]).toArray⟩) (F : Fr C.h₀ C.L h m) (nd : (loc.map (·.1)).Nodup)
  (N : News C.h₀ C.L h ([(dS, dictOf es n), (aT, W.listOf vT.toArray nT), (aI, W.listOf tI.toArray nI), (aK, oK)] ++ (os ++ (fo ++ ((aS, instObj 1048 dS) :: G)))))
  (d : (([(dS, dictOf es n), (aT, W.listOf vT.toArray nT), (aI, W.listOf tI.toArray nI), (aK, oK)] ++ (os ++ (fo ++ ((aS, instObj 1048 dS) :: G)))).map (·.1)).Nodup) :
  bJ C ⟨aS, dS, aT, aI⟩ ((aS, instObj 1048 dS) :: G) fo (some ((Z.init x.cps.toList).sc aK oK)) m loc h := by
 have sub : ∀ p ∈ G, p ∈ (aS, instObj 1048 dS) :: G := fun p hp => .tail _ hp;refine ⟨⟨_, os, ⟨es, n, vals, vT, nT, nI, aK, oK, [], tI, rfl, .head _, hE, ?_, ?_, ⟨rfl, rfl, hk.1, hk.2, .nil⟩, ?_⟩, (sH.lay zC).mono sub, N, d⟩, F, nd⟩
 ·cases hI; exact .nil
 ·show cA _ _ [fH (iD ⟨(x.cps.toList ++ [0]).toArray⟩ 0 0 0) (iD ⟨(x.cps.toList ++ [0]).toArray⟩ 0 0 0) .none] vT;rw [← hb];exact (hT.lay rfl).mono sub
 ·refine cA.conv ?_ hV;rw [hb];exact .fs rfl (.fs rfl (.fs rfl (.fs rfl (.fs rfl (.fs rfl (.fs rfl (.fs rfl (.fs rfl (.fs rfl (.fs rfl (.fs rfl (.fs rfl (.fs rfl (.cons (fun val h => by cases h.out; exact .toks) (.fs rfl (.fs rfl (.cons (fun val h => by cases h.out; exact .rC) (.fs rfl (.fs rfl (.nil))))))))))))))))))))
theorem Kt {α : Type} {p q s : α} {l : List α} (h : p ∈ q :: l) : p ∈ q :: s :: l := List.cons_subset_cons q (List.subset_cons_self s l) h
theorem BN {α : Type} {x d q : α} {os fo G : List α} : (q :: x :: d :: (os ++ (fo ++ G))).Perm (x :: d :: q :: ((os ++ fo) ++ G)) := by
 rw [List.append_assoc]; exact (List.Perm.swap _ _ _).trans (.cons _ (.swap _ _ _))
theorem CJ {α : Type} {x d k i t : α} {os fo G : List α} : (x :: d :: k :: i :: t :: ((os ++ fo) ++ G)).Perm (d :: t :: i :: k :: (os ++ (fo ++ (x :: G)))) := by
 rw [← List.append_assoc os fo (x :: G)];have p1 : (x :: d :: k :: i :: t :: ((os ++ fo) ++ G)).Perm ((d :: k :: i :: t :: (os ++ fo)) ++ x :: G) := (@List.perm_middle α x (d :: k :: i :: t :: (os ++ fo)) G).symm;exact p1.trans (.cons _ (((List.reverse_perm [t, i, k]).append_right _)))
theorem Zm {α : Type} {x d k i t q : α} {o6 os fo G : List α} : (x :: d :: k :: i :: t :: ((os ++ fo) ++ G)).Sublist (o6 ++ (x :: d :: k :: i :: t :: q :: ((os ++ fo) ++ G))) :=
 List.Sublist.trans (.cons₂ _ (.cons₂ _ (.cons₂ _ (.cons₂ _ (.cons₂ _ (.cons _ (.refl _))))))) (List.sublist_append_right o6 _)
noncomputable def vN (qual : Str) (L' cda : Addr) (gg base : Heap) (outer : List Env) (xH : Around) : Cx :=
 { cn := qual, cs := (aL 34 0).scope, L := L', a := 550, Bu := .ref cda, cl := [("__class__", 538)], h₀ := gg, base := base, outer := outer, A₀ := xH, A := xH.deeper (ksEnv qual (aL 34 0).scope L' 550 (.ref cda) 538) }
inductive EM (g : Gl) (qual : Str) (cda : Addr) : Prop
 | mk (oc od Bv name kV doc pm an ct Ys Yh vs Yl file tf cl Yp Yi FR : _) (lk : g.K.lookup 550 = some ⟨oc, od, .func (ksFn name qual (aL 34 0).args (aL 34 0).body (aL 34 0).scope .none kV doc pm an (.ref cda) ct 538), Bv⟩) (lc : codeIn g.K (.ref cda) qual = true) (Fd : g.K.lookup cda = some ⟨Ys, Yh, .fields vs, Yl⟩) (uE : vs[2]? = some (.str file tf)) (Ei : ((g.prog.main.file : Str) == file) = true) (En : g.K.lookup 538 = some ⟨cl, Yp, .cell (some (.ref 1048)), Yi⟩) (Ip : clsIn g.K 1048 = some FR)
theorem rF.code (SF : rF g) : ∃ qual cda, EM g qual cda := by
 obtain ⟨oc, od, Bv, name, qual, kV, doc, pm, an, ct, cda, Ys, Yh, vs, Yl, file, tf, lk, lc, Fd, uE, Ei⟩ := SF.fn;refine CO SF.cell fun cl Yp Yi En => ?_;obtain ⟨FR, Ip⟩ := SF.cls;exact ⟨qual, cda, _, _, _, _, _, _, _, _, _, _, _, _, _, _, _, _, _, _, _, lk, lc, Fd, uE, Ei, En, Ip⟩
def Tw (ρ : bZ) (G : bB) (os fo : bB) (x : Str) (xo dx : Addr) (gg : Heap) (L' : Addr) (s : Shared) (T : Shared -> Prop) : Prop :=
 ∀ (m6 : cV) (G6 : bB) (h6 : Heap) (Za : Tok) (aT aI aK : Addr) (oK : Obj) (es : List DictEntry) (n nT nI : Nat) (vals vT tI : List Value), Sub G G6 -> eJ es aD vals -> cA ρ G6 (lT (x ++ Str.ofString "\x00") ++ [.bool false, .int 0, .glob (.ref aT), .int 0, .int (-1), .glob (.ref aI), .bool true, .glob (.ref aK)]) vals -> cA ρ G6 [fH (iD (x ++ Str.ofString "\x00") 0 0 0) (iD (x ++ Str.ofString "\x00") 0 0 0) .none] vT -> cA ρ G6 [] tI ->
  ((aK == sysModules) = false /\ ∀ prog w, oK.IsDictOf (intKind prog w) []) -> Fr gg L' h6 m6 -> News gg L' h6 ([(dx, dictOf es n), (aT, W.listOf vT.toArray nT), (aI, W.listOf tI.toArray nI), (aK, oK)] ++ (os ++ (fo ++ ((xo, instObj 1048 dx) :: G6)))) -> (([(dx, dictOf es n), (aT, W.listOf vT.toArray nT), (aI, W.listOf tI.toArray nI), (aK, oK)] ++ (os ++ (fo ++ ((xo, instObj 1048 dx) :: G6)))).map (·.1)).Nodup -> T (St s h6 Za)
inductive LJ (ρ : bZ) (G : bB) (a b : Addr) (u v : List V) : bB -> Prop
 | mk (n k : Nat) (p q : List Value) (hp : cA ρ G u p) (hq : cA ρ G v q) : LJ ρ G a b u v [(a, W.listOf p.toArray n), (b, W.listOf q.toArray k)]
theorem Je.two {a b : Addr} {u v : List V} {l : bB} (h : Je ρ G [(a, u), (b, v)] l) : LJ ρ G a b u v l := by
 induction h.out with
 | cons hI LL =>
 induction LL.out with
 | cons hT ET =>
 induction ET.out
 exact ⟨_, _, _, _, hI, hT⟩
theorem Pq {C2 : Cx} {G6 : bB} {x : Str} {xo q aT aI aK : Addr} {oK oq : Obj} {l6 : cV} {DM : aF} {h6 : Heap} {Za : Tok} {s : Shared} (sub : Sub G G6) {own : bB}
  (y3 : OR ρ G6 ⟨xo, dx, aD, lT (x ++ Str.ofString "\x00") ++ [.bool false, .int 0, .glob (.ref aT), .int 0, .int (-1), .glob (.ref aI), .bool true, .glob (.ref aK)], [(aI, []), (aT, [fH (iD (x ++ Str.ofString "\x00") 0 0 0) (iD (x ++ Str.ofString "\x00") 0 0 0) .none])], [(aK, oK)]⟩ own) (y5 : bJ C2 ρ G6 (own ++ ((q, oq) :: (os ++ fo))) none l6 DM h6) {T : Shared -> Prop} (k : Tw ρ G os fo x xo dx C2.h₀ C2.L s T) : T (St s h6 Za) := by
 refine fO y5.kM fun RH b6 c6 d6 => ?_;have QM := y3.kd;have hf := y5.fr;clear y5;obtain ⟨es, n, vals, ll, rfl, hE, hV, hX⟩ := y3.ex;clear y3;obtain ⟨nI, nT, tI, vT, hI, hT⟩ := hX.two;have pB := CJ (x := (xo, instObj 1048 dx)) (d := (dx, dictOf es n)) (k := (aK, oK)) (i := (aI, W.listOf tI.toArray nI)) (t := (aT, W.listOf vT.toArray nT)) (os := os) (fo := fo) (G := G6);have sB := (Zm (x := (xo, instObj 1048 dx)) (d := (dx, dictOf es n)) (k := (aK, oK)) (i := (aI, W.listOf tI.toArray nI)) (t := (aT, W.listOf vT.toArray nT)) (q := (q, oq)) (o6 := RH) (os := os) (fo := fo) (G := G6));exact k _ G6 h6 Za aT aI aK oK es n nT nI vals vT tI sub hE hV hT hI (QM (aK, oK) (.head _)) hf (bY c6 fun p hp => sB.subset (pB.mem_iff.mpr hp)) ((List.Perm.nodup_iff (pB.map _)).mp (dJ d6 sB))
theorem xI (F : aE g) (SF : rF g) {L' cda : Addr} {gg base : Heap} {outer : List Env} {xH : Around} (SC : EM g qual cda) (uD : fM g 6 (vN qual L' cda gg base outer xH)) (LH : xH.handled = none) {x : Str} {t : Tok} (hp : ∀ c ∈ x.cps.toList, rI c = true) (hl : x.length <= 99999) {xo : Addr} {s : Shared}
  (F2 : Fr gg L' s.heap (fun y => ([(("self" : Str), Value.ref xo), ("stream", .str x t)] : List (Str × Value)).reverse.lookup y)) (N2 : News gg L' s.heap ((xo, instObj 1048 dx) :: (dx, dictOf [] 0) :: ([] ++ (os ++ (fo ++ G))))) (dd : (((xo, instObj 1048 dx) :: (dx, dictOf [] 0) :: ([] ++ (os ++ (fo ++ G)))).map (·.1)).Nodup)
  {T : Flow -> Shared -> Prop} (k : Tw ρ G os fo x xo dx gg L' s (T .next)) :
  PySem.wpAt (model g.prog g.w) (vN qual L' cda gg base outer xH).A (.func (aL 34 0).body (ksEnv qual (aL 34 0).scope L' 550 (.ref cda) 538)) (execs (aL 34 0).body (ksEnv qual (aL 34 0).scope L' 550 (.ref cda) 538)) T E s := by
 obtain ⟨oc, od, Bv, name, kV, doc, pm, an, ct, Ys, Yh, vs, Yl, file, tf, cl, Yp, Yi, FR, lk, lc, Fd, uE, Ei, En, Ip⟩ := SC;have X2 := uD.fK;have T2 := uD.top;have nm : (fun y => ([(("self" : Str), Value.ref xo), ("stream", .str x t)] : List (Str × Value)).reverse.lookup y) "self" = some (.ref xo) := rfl;have OC : (fun y => ([(("self" : Str), Value.ref xo), ("stream", .str x t)] : List (Str × Value)).reverse.lookup y) "stream" = some (.str x t) := rfl;generalize hm : (fun y => ([(("self" : Str), Value.ref xo), ("stream", .str x t)] : List (Str × Value)).reverse.lookup y) = m2 at *;refine ks_wpAt_execs_cons (ks_wpAt_Expr_any (ks_wpAt_MethodCall (ks_node (f := 550) (x := xo) (C := 1048) (D := 1048) (cc := 538) (cda := cda) F2 X2 N2 T2 lk rfl nm (InstAt.of_news N2 (.head _) (.tail _ (.head _))) Fd uE Ei En Ip SF.mro SF.sup (by decide) rfl rfl rfl rfl SF.top rfl fun so h3 F3 N3 l4 => ?_) rfl) rfl rfl);refine ks_method (s := (St s h3 _)) F3 X2 N3 (.head _) (InstAt.of_news N3 (.tail _ (.head _)) (.tail _ (.tail _ (.head _)))) SF.PH SF.sin SF.ty (by decide) fun q h4 F4 N4 l5 => ?_;refine callWith_M (s := (St s h4 _)) X2 N4 (.head _) SF.fi ?_ rfl rfl;refine spliced_cons (nameX_L (s := (St s h4 _)) (cs := (aL 34 0).scope) (cl := [("__class__", 538)]) F4 OC ?_ rfl rfl rfl);refine spliced_nil ⟨methP N4 (.head _) (X2.keeps F4.keep), ?_⟩;refine call_meth (s := (St s h4 _)) N4 (.head _) ?_;have O : OR ρ G ⟨xo, dx, [], [], [], []⟩ ((xo, instObj 1048 dx) :: (dx, dictOf [] 0) :: ([] ++ [])) := ⟨⟨[], 0, [], [], rfl, .nil, .nil, .nil⟩, by simp, by simp, by simp⟩;have I2 : bJ (vN qual L' cda gg base outer xH) ρ G (((xo, instObj 1048 dx) :: (dx, dictOf [] 0) :: ([] ++ [])) ++ ((q, methodObj (.ref 144) (.ref xo)) :: (os ++ fo))) none m2 [("self", .val (.glob (.ref xo))), ("stream", .val (.str x))] h4 := by
  have d2 := cF (oa := methodObj (.ref 144) (.ref xo)) dd fun p hp => l5 p (.tail _ hp);have pA := BN (x := (xo, instObj 1048 dx)) (d := (dx, dictOf [] 0)) (q := (q, methodObj (.ref 144) (.ref xo))) (os := os) (fo := fo) (G := G);exact ⟨⟨[], [], rfl, .val nm .glob (.val OC .str .nil), bY N4 fun p hp => Kt (pA.mem_iff.mpr hp), (List.Perm.nodup_iff (pA.map _)).mp d2⟩, F4, (by decide +kernel : ([("self" : Str), "stream"] : List Str).Nodup)⟩
 refine (Dq F hp hl (aS := xo) (dS := dx) (xs := []) (kd := []) (Q := fun v ob => v = .none /\ ob = ⟨xo, dx, aD.take 12, lT (x ++ Str.ofString "\x00"), [], []⟩) ⟨rfl, rfl⟩).out (vN qual L' cda gg base outer xH) (uD.mono (by lia)) LH G ((q, methodObj (.ref 144) (.ref xo)) :: (os ++ fo)) _ _ _ _ [.ref xo, .str x t] O I2 (.cons .glob (.cons .str .nil)) _ _ fun v kX G' l' val h5 JR z1 z2 z3 z4 z5 => ?_;obtain ⟨rfl, rfl⟩ := z1;refine wpAt_of_wpAny ((xC F (C' := vN qual L' cda gg base outer xH) ⟨rfl, LH⟩ (sv' := .str x)).out (uD.mono (by lia)) G' ((q, methodObj (.ref 144) (.ref xo)) :: (os ++ fo)) l' _ (St s h5 JR) z3 z5 _ _ fun fl DM UM G6 l6 m6 fv h6 Za y1 y2 y3 y4 y5 => ?_);obtain ⟨rfl, aT, aI, aK, oK, rfl⟩ := y1;induction y4.out
 exact Pq (s := s) (z2.trans y2) y3 y5 k
theorem xG (F : aE g) (SF : rF g) {x : Str} {t : Tok} (hp : ∀ c ∈ x.cps.toList, rI c = true) (hl : x.length <= 99999) (hD : 8 <= D) (ok : fM g D C) (hh : C.A.handled = none) {m : cV} {s : Shared} (I : bJ C ρ G fo none m loc s.heap) (zC : (loc.all fun p => p.2.free) = true)
  {Qr : cY}
  (k : ∀ ρ' G' ka ko h' aN, Sub G G' -> bJ C ρ' G' fo (some ((Z.init x.cps.toList).sc ka ko)) m loc h' -> Qr (.ref ρ'.aS) (St s h' aN)) :
  wpAny (model g.prog g.w) C.A (call (.ref 1048) [.str x t]) Qr Er s := by
 obtain ⟨⟨ls, os, a, b, c, d⟩, F0, nd⟩ := I;have a : ls = [] := a;subst a;refine Cr SF.code fun qual cda SC => ?_;have RC := SC;obtain ⟨oc, od, Bv, name, kV, doc, pm, an, ct, Ys, Yh, vs, Yl, file, tf, cl, Yp, Yi, FR, lk, lc, -⟩ := SC;refine call_cls F0 ok.fK c SF.IJ SF.DD SF.CM fun xo dx h' F' N' l1 l2 => ?_;refine ks_code_super (A := C.A.under (.builtin "type.__call__" ⟨.ref 1048 :: [.str x t], []⟩)) (env := C.env) ok.below F' ok.fK N' ok.top ok.frames rfl ok.kind lk lc (by have := ok.dep; show C.A.depth + 1 < _; lia)
  (binds := [("self", .ref xo), ("stream", .str x t)]) (BindsTo.of_eq rfl) ?_ (fun gg L' iZ Fg F2 N2 B2 X2 T2 l3 => ?_) (by decide +kernel) rfl rfl rfl
 ·intro y hy
  rcases List.mem_cons.mp hy with rfl | hy
  ·rfl
  ·rw [List.mem_singleton.mp hy]; rfl
 have uD : fM g 6 (vN qual L' cda gg C.base (C.env :: C.outer) (C.A.under (.builtin "type.__call__" ⟨.ref 1048 :: [.str x t], []⟩))) := by
  refine ⟨B2, X2, T2, rfl, Around.frames_deeper ok.frames, ?_, ?_⟩
  ·show C.A.depth + 1 + 1 + 6 < _;have := ok.dep; lia
  ·show C.A.units + 1 + 3 + 8 * 6 < _;have := ok.CG; lia
 refine xI (ρ := ρ) F SF RC uD hh hp hl F2 N2 (pE (oa := instObj 1048 dx) (ob := dictOf [] 0) d l1 l2) fun m6 G6 h6 Za aT aI aK oK es n nT nI vals vT tI sub hE hV hT hI hk fr N6 d6 => ?_;exact ⟨L', m6, _, fr, N6, fun kF kN => ⟨rfl, k ⟨xo, dx, aT, aI⟩ ((xo, instObj 1048 dx) :: G6) aK oK h6 _ (fun p hp => .tail _ (sub p hp)) (bJ.GN zC (b.mono sub) hE hV hT hI hk (Of x) kF nd kN d6)⟩⟩
end
section
variable {D : Nat} {C : Cx} {X : dW} {loc : aF}
inductive KC (x p : Str) (loc : aF) (σ : bQ) (Q : nG) (v : V) (l : aF) (s : bQ) : Prop
 | mk (uO : List V) (el : l = [(p, .ml uO)]) (es : s = σ) (aC : aF) (u : cK x (.ml uO) loc aC) (h : Q v aC σ)
theorem qB {os1 os2 : bB} {p : Addr × Obj} : (ls ++ ((os1 ++ p :: os2) ++ (fo ++ G))).Perm (ls ++ ([p] ++ (((os1 ++ os2) ++ fo) ++ G))) := by
 refine (List.Perm.refl ls).append ?_;rw [List.append_assoc, List.append_assoc, List.append_assoc, List.cons_append, List.singleton_append];exact List.perm_middle
inductive Av (ρ : bZ) (G : bB) (m : cV) (x : Str) (vs : List V) (loc : aF) : bB -> Prop
 | mk (l1 l2 : aF) (os1 os2 : bB) (ad : Addr) (n : Nat) (vals : List Value) (el : loc = l1 ++ (x, .ml vs) :: l2) (h1 : bH ρ G m l1 os1) (h2 : bH ρ G m l2 os2) (n1 : x ∉ l1.map (·.1)) (n2 : x ∉ l2.map (·.1)) (hm : m x = some (.ref ad)) (hv : cA ρ G vs vals) : Av ρ G m x vs loc (os1 ++ (ad, W.listOf vals.toArray n) :: os2)
theorem bH.Og {m : cV} {x : Str} {vs : List V} {loc : aF} (b : bH ρ G m loc os) (h : (x, LV.ml vs) ∈ loc) (nd : (loc.map (·.1)).Nodup) : Av ρ G m x vs loc os := by
 obtain ⟨l1, l2, os1, o, os2, el, rfl, FU, TP, FL, n1, n2⟩ := b.at h nd;induction TP.out with
 | ml hm hv => exact .mk l1 l2 os1 os2 _ _ _ el FU FL n1 n2 hm hv
inductive Rf (C : Cx) (ρ : bZ) (G fo os1 os2 : bB) (σ : bQ) (ad : Addr) (vs : List V) (L : Addr) (h₀ h : Heap) : Prop
 | mk (ls : bB) (n : Nat) (vals : List Value) (a : Gr ρ G σ ls) (hv : cA ρ G vs vals) (c : News h₀ L h (ls ++ ((os1 ++ (ad, W.listOf vals.toArray n) :: os2) ++ (fo ++ G)))) (d : ((ls ++ ((os1 ++ (ad, W.listOf vals.toArray n) :: os2) ++ (fo ++ G))).map (·.1)).Nodup)
theorem bJ.Rl {C : Cx} {os1 os2 : bB} {m : cV} {p : Str} {vs : List V} {h : Heap} {ad : Addr} (I : bJ C ρ G ((os1 ++ os2) ++ fo) σ m [(p, .ml vs)] h) (hm : m p = some (.ref ad)) : Rf C ρ G fo os1 os2 σ ad vs C.L C.h₀ h := by
 obtain ⟨⟨ls, os, a, b, c, d⟩, F, nd⟩ := I;obtain ⟨o2, RB, rfl, hx, HO⟩ := b.Jm;cases HO;induction hx.out with
 | @ml UW n2 vals2 Ur uK =>
 cases Ur.symm.trans hm;have pm := qB (ls := ls) (os1 := os1) (os2 := os2) (fo := fo) (G := G) (p := (ad, W.listOf vals2.toArray n2));rw [List.append_nil] at c d;exact ⟨ls, n2, vals2, a, uK, bY c fun q hq => pm.subset hq, (List.Perm.nodup_iff (pm.map _)).mpr d⟩
theorem EW.Qi {D' : Nat} {EU x p : Str} {HB pos rp : Pos} {f : Addr} {params : Arguments} {e : Expr} {scope : Scope} {vs : List V} (df : lV g f) (hD : D' + 1 <= D)
  (fn : xM g f qual params [.Return (some e) rp] scope dV eW) (hb : ∀ (val : Value) (s : Shared), g.K.In s.heap -> ∀ name kV doc pm an ct, BindsTo s (fnOf name qual params [.Return (some e) rp] scope dV kV doc pm an eW ct) ⟨[val], []⟩ [(p, val)])
  (hp : scope.names.lookup p = some .local) (en : nsIn g.K mainGlobals EU = some (some (.ref f))) (KW : C.cs.names.lookup EU = some .globalImplicit) (OZ : (EU == ("__debug__" : Str)) = false) (hx : aB C x) (h0 : (x, LV.ml vs) ∈ loc)
  (h : ∀ C' : Cx, C'.cs = scope -> C'.A.handled = C.A.handled -> EW g D' C' ρ (fun U U U => False) e [(p, .ml vs)] σ (KC x p loc σ Q)) :
  EW g D C ρ X (.Call (.Name EU HB) [.Name x np] [] pos) loc σ Q := by
 refine .of fun ok G fo m s I Qr Er q qe => ?_;have hs : aH pos [.Name x np] C.env := rfl;refine wpAny_Call_ofName (nameX_K I.fr ok.fK (topRead_of ok.top) en ?_ ok.kind KW OZ);refine dN (first := []) hs df.kp ?_;obtain ⟨⟨ls, os, a, b, c, d⟩, F, nd⟩ := I;obtain ⟨l1, l2, os1, os2, ad, n, vals, el, FU, FL, n1, n2, hm, hv⟩ := b.Og h0 nd;refine spliced_cons (nameX_L F hm ?_ ok.kind hx.1 hx.2);refine spliced_nil ⟨ok.fK.keeps F.keep, ?_⟩;obtain ⟨oc, od, name, kV, doc, pm, an, ct, Bv, lk⟩ := fn.lk;have c' : News C.h₀ C.L s.heap (ls ++ ((os1 ++ (ad, W.listOf vals.toArray n) :: os2) ++ (fo ++ G))) := c;have d' : ((ls ++ ((os1 ++ (ad, W.listOf vals.toArray n) :: os2) ++ (fo ++ G))).map (·.1)).Nodup := d;refine wpAny_call (code_def ok.below F ok.fK c' ok.top ok.frames rfl ok.kind lk fn.cd ok.room (binds := [(p, .ref ad)]) (hb _ s (ok.fK.keeps F.keep) name kV doc pm an ct) (fun y hy => ?_) (fun yQ L' iZ Fg F' N' B' X' T' => ?_) fn.co fn.gen fn.kd fn.cell)
 ·rw [List.mem_singleton.mp hy]; exact hp
 have LU : (fun y => ([(p, Value.ref ad)] : List (Str × Value)).reverse.lookup y) p = some (.ref ad) := by
  show List.lookup p [(p, Value.ref ad)] = _;rw [List.lookup_cons, beq_self_eq_true]
 have I' : bJ (iJ C qual scope L' f eW yQ) ρ G ((os1 ++ os2) ++ fo) σ (fun y => ([(p, Value.ref ad)] : List (Str × Value)).reverse.lookup y) [(p, .ml vs)] iZ :=
  ⟨⟨ls, [(ad, W.listOf vals.toArray n)], a, .ml LU hv .nil, bY N' fun q hq => qB.symm.subset hq, (List.Perm.nodup_iff (qB.map _)).mp d'⟩, F', by simp⟩
 refine wpAny_execs_cons (wpAny_Return_some ((h (iJ C qual scope L' f eW yQ) rfl rfl).out (pM (ok.mono hD) B' X' T' fn.kd) G ((os1 ++ os2) ++ fo) _ (St s iZ _) I' _ _ (fun v l' aW G' val h' aN z1 z2 z3 z4 => ?_) fun U U U U U U U z U U => z.elim));obtain ⟨uO, rfl, rfl, aC, u, hq⟩ := z1;obtain ⟨Yo, PI, vals2, a', uK, c2, d2⟩ := z4.Rl LU;refine ⟨L', _, _, z4.fr, c2, fun kF kN => ?_⟩;refine q v aC aW G' val h' aN hq z2 z3 ⟨⟨Yo, os1 ++ (ad, W.listOf vals2.toArray PI) :: os2, a', ?_, kN, d2⟩, kF, by rw [u.names]; exact nd⟩;rw [el] at u;rw [u.at n2 n1];exact (FU.mono z2).append (.ml hm uK (FL.mono z2))
end
section
variable {D : Nat} {C : Cx} {X : dW} {loc : aF}
inductive Tq (f : Int -> Int -> Int) (Q : nG) (a b : V) (l : aF) (s : bQ) : Prop
 | mk (i j : Int) (ha : a = .int i) (hb : b = .int j) (h0 : 0 < j) (h1 : j <= 1073741824) (h : Q (.int (f i j)) l s)
inductive NI (Q : nG) (a b : V) (l : aF) (s : bQ) : Prop
 | mk (i j : Int) (ha : a = .int i) (hb : b = .int j) (h0 : 0 <= j) (h1 : j <= 1000000) (h2 : i.natAbs < 2 ^ 64) (h : Q (.int (i ^ j.toNat)) l s)
theorem EW.fmod {l r : Expr} {pos : Pos} (h : EW g D C ρ X l loc σ (Bx g D C ρ X r (Tq (· % ·) Q))) : EW g D C ρ X (.BinOp l .Mod r pos) loc σ Q := by
 refine EW.binop (h.mono fun a l1 s1 z => z.mono fun b l2 s2 z => ?_);obtain ⟨i, j, rfl, rfl, h0, h1, zz⟩ := z;intro G s av bv ha hb T E k;induction ha.out; induction hb.out
 refine PyProof.Rows.mod_int (Int.ne_of_gt h0) (k _ _ _ ?_ .int);rw [Int.fmod_eq_emod_of_nonneg _ (Int.le_of_lt h0)]; exact zz
theorem EW.fdiv {l r : Expr} {pos : Pos} (h : EW g D C ρ X l loc σ (Bx g D C ρ X r (Tq (· / ·) Q))) : EW g D C ρ X (.BinOp l .FloorDiv r pos) loc σ Q := by
 refine EW.binop (h.mono fun a l1 s1 z => z.mono fun b l2 s2 z => ?_);obtain ⟨i, j, rfl, rfl, h0, h1, zz⟩ := z;intro G s av bv ha hb T E k;induction ha.out; induction hb.out
 refine PyProof.Rows.floordiv_int (hp := .inl (PyProof.noPylong_of_log2 ?_)) (Int.ne_of_gt h0) (k _ _ _ ?_ .int)
 ·rw [Int.fdiv_eq_ediv_of_nonneg _ (Int.le_of_lt h0)]; exact zz
 ·have h2 : j.natAbs < 2147483648 := by omega
  exact Nat.lt_of_lt_of_le ((Nat.log2_lt (k := 31) (show j.natAbs ≠ 0 by omega)).mpr h2) (by decide)
theorem EW.rP {x y : Str} {t : Tok} {pos : Pos} {Q : _} (e : nsIn g.K mainGlobals x = some (some (.str y t))) (hx : C.cs.names.lookup x = some .globalImplicit) (hd : (x == ("__debug__" : Str)) = false) (h : Q (.str y) loc σ) : EW g D C ρ X (.Name x pos) loc σ Q := by
 refine .of fun ok G fo m s I Qr Er q _ => ?_;exact nameX_K I.fr ok.fK (topRead_of ok.top) e (q _ loc σ G _ s.heap s.toks h (fun U z => z) .str I) ok.kind hx hd
theorem bJ.listAt {m : cV} {h : Heap} {a : Addr} {vals : List Value} {n : Nat} (I : bJ C ρ G fo σ m loc h) (hm : (a, W.listOf vals.toArray n) ∈ G) : h.IsList a vals.toArray := by
 obtain ⟨ls, os, _, _, c, _⟩ := I.ex;exact ⟨_, (c (a, W.listOf vals.toArray n) (List.mem_append_right _ (List.mem_append_right _ (List.mem_append_right _ hm)))).1, rfl, ⟨n, rfl⟩⟩
theorem bJ.Fo {m : cV} {h : Heap} {a : Addr} {vals : List Value} (I : bJ C ρ G fo σ m loc h) (hm : (a, mZ vals) ∈ G) : IsTup h a vals.toArray := by
 obtain ⟨ls, os, _, _, c, _⟩ := I.ex;exact ⟨_, (c (a, mZ vals) (List.mem_append_right _ (List.mem_append_right _ (List.mem_append_right _ hm)))).1, rfl, _, rfl⟩
theorem cA.Yu {vs : List V} {vals : List Value} {i : Nat} {v : V} (h : cA ρ G vs vals) (e : vs[i]? = some v) : ∃ val, vals[i]? = some val /\ VR ρ G v val := by
 induction vs generalizing vals i with
 | nil => cases e
 | cons u vs ih =>
  induction h.out with
  | cons a b =>
   induction i with
   | zero => cases e; exact (eO _ rfl a)
   | succ i =>
    refine aR (ih b e) fun w h1 h2 => ?_;exact (eO w h1 h2)
inductive Zq (Q : nG) (a b : V) (l : aF) (s : bQ) : Prop
 | mk (vs : List V) (i : Nat) (v : V) (ha : a = .lst vs \/ a = .tup vs) (hb : b = .int i) (hi : vs[i]? = some v) (hz : i < 2 ^ 62) (h : Q v l s)
theorem EW.item {value slice : Expr} {pos : Pos} (hs : ∀ a i u, subscripted slice false (.ref a) (.int i u) = operate [.ref a, .int i u] (getItem (.ref a) (.int i u)))
  (h : EW g D C ρ X value loc σ (Bx g D C ρ X slice (Zq Q))) : EW g D C ρ X (.Subscript value slice pos) loc σ Q := by
 refine .of fun ok G fo m s I Qr Er q qe => ?_;refine Subscript_ (EW.rE h ok I qe fun a b aC aW G' av bv h' aN z1 z2 z3 z4 z5 U => ?_);obtain ⟨vs, i, v, ha, rfl, hi, hz, hq⟩ := z1;induction z4.out
 have fin : ∀ val, VR ρ G' v val -> Qr val (St s h' aN) := fun val hv => q v aC aW G' val h' aN hq z2 hv z5
 rcases ha with rfl | rfl
 ·induction z3.out with
  | lst hm hv =>
   refine aR (hv.Yu hi) fun val e hv => ?_;have hl := z5.listAt hm;exact tail_any (s := (St s h' aN)) hl.typeIs slot_list_getitem.lookup (wpAny_getItem_list hl (by omega) (by omega) (x := val) (by simpa using e) (fin val hv)) (hs _ _ _)
 ·induction z3.out with
  | @tup a vals hm hv =>
   refine aR (hv.Yu hi) fun val e hv => ?_;have hl := z5.Fo hm;have hn : (i : Int) < ((vals.toArray.size : Nat) : Int) := Int.ofNat_lt.mpr (List.getElem?_eq_some_iff.mp e).1;exact tail_any (s := (St s h' aN)) hl.typeIs slot_tuple_getitem.lookup (getItem_tuple hl (by omega) (by omega) (seqIndex_of (by omega) hn) (x := val) (by simpa using e) (fin val hv)) (hs _ _ _)
end
section
variable {D : Nat} {C : Cx} {X : dW} {loc : aF}
inductive Yj (ρ : bZ) (G : bB) (m : cV) (loc : aF) (ws : List V) (val : Value) : Prop
 | fz (h : VR ρ G (.lst ws) val)
 | own (x : Str) (hx : (x, LV.ml ws) ∈ loc) (hm : m x = some val)
inductive Zt (ρ : bZ) (G : bB) (h : Heap) (ws : List V) (val : Value) : Prop
 | mk (a : Addr) (vals : List Value) (n : Nat) (e : val = .ref a) (ho : h.get? a = some (W.listOf vals.toArray n)) (hv : cA ρ G ws vals)
theorem Yj.is {m : cV} {h : Heap} {val : Value} (r : Yj ρ G m loc ws val) (I : bJ C ρ G fo σ m loc h) : Zt ρ G h ws val := by
 obtain ⟨⟨ls, os, a, b, c, d⟩, F, nd⟩ := I;induction r with
 | fz h =>
  induction h.out with
  | lst hm hv => exact ⟨_, _, _, rfl, (c _ (List.mem_append_right _ (List.mem_append_right _ (List.mem_append_right _ hm)))).1, hv⟩
 | own x hx hm =>
  refine Df (b.own hx nd) fun os1 ad vals n os2 cN e2 e3 U => ?_;subst cN;rw [hm] at e2; cases e2;exact ⟨ad, vals, n, rfl, (c (ad, W.listOf vals.toArray n) (List.mem_append_right _ (List.mem_append_left _ (List.mem_append_right _ (.head _))))).1, e3⟩
theorem Zt.isList {h : Heap} {val : Value} (l : Zt ρ G h ws val) : ∃ a vals, val = .ref a /\ h.IsList a vals.toArray /\ cA ρ G ws vals := by
 obtain ⟨a, vals, n, e, ho, hv⟩ := l;exact (pO a vals e ⟨_, ho, rfl, n, rfl⟩ hv)
@[irreducible] def EL (g : Gl) (D : Nat) (C : Cx) (ρ : bZ) (X : dW) (e : Expr) (loc : aF) (σ : bQ) (Q : List V -> aF -> bQ -> Prop) : Prop :=
 fM g D C -> ∀ G fo m s, bJ C ρ G fo σ m loc s.heap -> ∀ (Qr : cY) (Er : cY),
  (∀ ws aC aW G' val h' aN, Q ws aC aW -> Sub G G' -> Yj ρ G' m aC ws val -> bJ C ρ G' fo aW m aC h' -> Qr val (St s h' aN)) ->
  (uI C ρ G fo m s X Er) ->
  wpAny (model g.prog g.w) C.A (eval e C.env) Qr Er s
theorem EL.of {D : Nat} {C : Cx} {X : dW} {e : Expr} {loc : aF} {Q : List V -> aF -> bQ -> Prop} (h :
 fM g D C -> ∀ G fo m s, bJ C ρ G fo σ m loc s.heap -> ∀ (Qr : cY) (Er : cY),
  (∀ ws aC aW G' val h' aN, Q ws aC aW -> Sub G G' -> Yj ρ G' m aC ws val -> bJ C ρ G' fo aW m aC h' -> Qr val (St s h' aN)) ->
  (uI C ρ G fo m s X Er) ->
  wpAny (model g.prog g.w) C.A (eval e C.env) Qr Er s) : EL g D C ρ X e loc σ Q := by delta EL; exact h
theorem EL.out {D : Nat} {C : Cx} {X : dW} {e : Expr} {loc : aF} {Q : List V -> aF -> bQ -> Prop} (h : EL g D C ρ X e loc σ Q) :
 fM g D C -> ∀ G fo m s, bJ C ρ G fo σ m loc s.heap -> ∀ (Qr : cY) (Er : cY),
  (∀ ws aC aW G' val h' aN, Q ws aC aW -> Sub G G' -> Yj ρ G' m aC ws val -> bJ C ρ G' fo aW m aC h' -> Qr val (St s h' aN)) ->
  (uI C ρ G fo m s X Er) ->
  wpAny (model g.prog g.w) C.A (eval e C.env) Qr Er s := by delta EL at h; exact h
theorem EL.own {x : Str} {pos : Pos} {ws : List V} {Q : List V -> aF -> bQ -> Prop} (hx : aB C x) (h0 : (x, LV.ml ws) ∈ loc) (h : Q ws loc σ) : EL g D C ρ X (.Name x pos) loc σ Q := by
 refine .of fun ok G fo m s I Qr Er q qe => ?_;refine aR (I.kY h0) fun a hm U => ?_;exact nameX_L I.fr hm (q ws loc σ G _ s.heap s.toks h (fun U z => z) (.own x h0 hm) I) ok.kind hx.1 hx.2
inductive PW (Q : List V -> aF -> bQ -> Prop) (v : V) (l : aF) (s : bQ) : Prop
 | mk (ws : List V) (e : v = .lst ws) (h : Q ws l s)
theorem EL.Zy {e : Expr} {Q : List V -> aF -> bQ -> Prop} (h : EW g D C ρ X e loc σ (PW Q)) : EL g D C ρ X e loc σ Q := by
 refine .of fun ok G fo m s I Qr Er q qe => ?_;refine h.out ok G fo m s I Qr Er (fun v aC aW G' val h' aN z1 z2 z3 z4 => ?_) qe;obtain ⟨ws, rfl, z⟩ := z1;exact q ws aC aW G' val h' aN z z2 (.fz z3) z4
noncomputable def Pe (g : Gl) (D : Nat) (C : Cx) (ρ : bZ) (X : dW) (r : Expr) (R : List V -> List V -> aF -> bQ -> Prop) : List V -> aF -> bQ -> Prop := fun ws l s => EL g D C ρ X r l s (fun us l' s' => l' = l /\ R ws us l' s')
theorem EL.two {l r : Expr} {R : List V -> List V -> aF -> bQ -> Prop} (h : EL g D C ρ X l loc σ (Pe g D C ρ X r R)) (ok : fM g D C) {G fo m s : _} (I : bJ C ρ G fo σ m loc s.heap) {t : Value -> Value -> Shared -> Prop}
  (qe : uI C ρ G fo m s X Er)
  (k : ∀ ws us aC aW G' av bv h' aN, R ws us aC aW -> Sub G G' -> Zt ρ G' h' ws av -> Zt ρ G' h' us bv -> bJ C ρ G' fo aW m aC h' -> t av bv (St s h' aN)) :
  wpAny (model g.prog g.w) C.A (eval l C.env) (fun av s1 => wpAny (model g.prog g.w) C.A (eval r C.env) (fun bv s2 => t av bv s2) Er s1) Er s := by
 refine h.out ok G fo m s I _ _ (fun ws bP fE G1 av h1 dB z1 z2 z3 z4 => ?_) qe;refine z1.out ok G1 fo m (St s h1 dB) z4 _ _ (fun us bG fV G2 bv h2 eM y1 y2 y3 y4 => ?_) (qe.step z2);obtain ⟨rfl, y1⟩ := y1;have z5 : Yj ρ G2 m bG ws av := by
  induction z3 with
  | fz h => exact .fz (h.mono y2)
  | own x hx hm => exact .own x hx hm
 exact k ws us bG fV G2 av bv h2 eM y1 (z2.trans y2) (z5.is y4) (y3.is y4) y4
structure HZ (Q : nG) (ws us : List V) (l : aF) (s : bQ) : Prop where
 hz : ws.length + us.length <= sizeLine
 h : Q (.lst (ws ++ us)) l s
theorem EW.JD {l r : Expr} {pos : Pos} (h : EL g D C ρ X l loc σ (Pe g D C ρ X r (HZ Q))) : EW g D C ρ X (.BinOp l .Add r pos) loc σ Q := by
 refine .of fun ok G fo m s I Qr Er q qe => ?_;refine wpAny_BinOp (EL.two h ok I qe fun ws us aC aW G' av bv h' aN z1 z2 z3 z4 z5 => ?_);refine pT z3.isList fun a vals cN hl hv => ?_;subst cN;refine pT z4.isList fun b vals2 cN Cb uK => ?_;subst cN;obtain ⟨⟨ls, os, a1, b1, c1, d1⟩, F, nd⟩ := z5;refine add_lists (s := (St s h' aN)) F c1 hl Cb (fun h2 F2 N2 => ?_) (by rw [hv.length, uK.length]; exact z1.hz);have dd := cF (oa := W.listOf (vals ++ vals2).toArray 0) d1 (fun p hp => Heap.lt_size (c1 p hp).1);have k1 : ∀ p ∈ G', p ∈ [((h'.objs.size : Addr), W.listOf (vals ++ vals2).toArray 0)] ++ G' := fun p hp => .tail _ hp;exact q _ aC aW ([((h'.objs.size : Addr), W.listOf (vals ++ vals2).toArray 0)] ++ G') _ h2 _ z1.h (z2.trans k1) (.lst (.head _) ((hv.append uK).mono k1)) (bJ.more a1 b1 nd N2 dd F2)
inductive GX (x : Str) (Q : dD) (ws us : List V) (l : aF) (s : bQ) : Prop
 | mk (hz : ws.length + us.length <= sizeLine) (l' : aF) (u : cK x (.ml (ws ++ us)) l l') (h : Q .next l' s)
theorem Ci {x : Str} (ok : fM g D C) (hx : aB C x) {G fo m s : _} {al : Addr} {h2 : Heap} {vals : List Value} {n : Nat} (a : Gr ρ G σ ls) (b : bH ρ G m loc os) (nd : (loc.map (·.1)).Nodup) (hv : cA ρ G ws vals) (u : cK x (.ml ws) loc aC)
  (F2 : Fr C.h₀ C.L h2 m) (N2 : News C.h₀ C.L h2 ((al, W.listOf vals.toArray n) :: (ls ++ (os ++ (fo ++ G))))) (dd : (((al, W.listOf vals.toArray n) :: (ls ++ (os ++ (fo ++ G)))).map (·.1)).Nodup) (hs : s.heap = h2)
  {Q : Unit -> Shared -> Prop} (k : ∀ h' aN, bJ C ρ G fo σ (mT m x (.ref al)) aC h' -> Q () (St s h' aN)) : wpAny (model g.prog g.w) C.A (storeName C.env x (.ref al)) Q E s := by
 subst hs;refine Pd (b.setM (a := al) (n := n) hv u nd) fun os1 os2 b' sb => ?_;refine wpAny_storeName_local hx.1 F2.ns (fun h3 hn AE => ?_) (by show (C.cs.kind == .class || (C.cs.kind == .module && C.L != mainGlobals)) = false; rw [ok.kind]; rfl);have N3 : News C.h₀ C.L h3 ((al, W.listOf vals.toArray n) :: (ls ++ (os ++ (fo ++ G)))) := N2.set AE;have sub : (ls ++ ((os1 ++ os2) ++ (fo ++ G))).Sublist (ls ++ (os ++ (fo ++ G))) := (List.Sublist.refl _).append (sb.append (.refl _));have pm : ((al, W.listOf vals.toArray n) :: (ls ++ ((os1 ++ os2) ++ (fo ++ G)))).Perm (ls ++ ((os1 ++ (al, W.listOf vals.toArray n) :: os2) ++ (fo ++ G))) := by
  refine List.perm_middle.symm.trans ((List.Perm.refl ls).append ?_);rw [List.append_assoc, List.append_assoc, List.cons_append];exact List.perm_middle.symm
 refine k h3 _ ⟨⟨ls, os1 ++ (al, W.listOf vals.toArray n) :: os2, a, b', ?_, ?_⟩, F2.set hn AE, by rw [u.names]; exact nd⟩
 ·exact bY N3 fun p hp => (List.Sublist.cons₂ _ sub).subset (pm.symm.subset hp)
 ·exact (List.Perm.nodup_iff (pm.map _)).mp (dJ dd (List.Sublist.cons₂ _ sub))
theorem SW.nC {x : Str} {p pos bp : Pos} {l r : Expr} {Q : dD} (hx : aB C x) (zY : swapsWith (.BinOp l .Add r bp) (some (.Name x p)) pos.line C.env = pure false)
  (h : EL g D C ρ X l loc σ (Pe g D C ρ X r (GX x Q))) : iB g D C ρ X (.Assign [.Name x p] (.BinOp l .Add r bp) pos) loc σ Q := by
 refine .of fun ok G fo m s I Qr Er q qe => ?_;refine wpAny_Assign_Name (wpAny_BinOp (EL.two h ok I (qe.at) fun ws us aC aW G' av bv h' aN z1 z2 z3 z4 z5 => ?_)) zY;refine pT z3.isList fun a vals cN hl hv => ?_;subst cN;refine pT z4.isList fun b vals2 cN Cb uK => ?_;subst cN;obtain ⟨hz, l', u, hq⟩ := z1;obtain ⟨⟨ls, os, a1, b1, c1, d1⟩, F, nd⟩ := z5;refine add_lists (s := (St s h' aN)) F c1 hl Cb (fun h2 F2 N2 => ?_) (by rw [hv.length, uK.length]; exact hz);have dd := cF (oa := W.listOf (vals ++ vals2).toArray 0) d1 (fun p hp => Heap.lt_size (c1 p hp).1);exact Ci (s := (St s h2 aN)) (vals := vals ++ vals2) (n := 0) ok hx a1 b1 nd (hv.append uK) u F2 N2 dd rfl fun h3 t3 I3 => q .next l' aW G' _ .next h3 t3 hq z2 .next I3
end
section
open PySem PySem.W PySem.Spec PySem.Calls PyProof.Rows PySem.SeqAt
section
variable {D : Nat} {C : Cx} {X : dW} {loc : aF}
theorem cA.flatten {G : bB} {ws : List V} {vals : List Value} (h : cA ρ G ws vals) : ∀ n : Nat, cA ρ G (List.replicate n ws).flatten (List.replicate n vals).flatten
 | 0 => .nil
 | n + 1 => by
  rw [List.replicate_succ, List.replicate_succ, List.flatten_cons, List.flatten_cons];exact h.append (h.flatten n)
inductive JH (Q : nG) (a b : V) (l : aF) (s : bQ) : Prop
 | mk (ws : List V) (n : Nat) (ha : a = .lst ws) (hb : b = .int n) (hz : ws.length * n <= 2 ^ 24) (hn : n < 2 ^ 62) (h : Q (.lst (List.replicate n ws).flatten) l s)
theorem EW.mulL {l r : Expr} {pos : Pos} (h : EW g D C ρ X l loc σ (Bx g D C ρ X r (JH Q))) : EW g D C ρ X (.BinOp l .Mult r pos) loc σ Q := by
 refine .of fun ok G fo m s I Qr Er q qe => ?_;refine wpAny_BinOp (EW.rE h ok I qe fun a b aC aW G' av bv h' aN z1 z2 z3 z4 z5 U => ?_);obtain ⟨ws, n, rfl, rfl, hz, hn, hq⟩ := z1;induction z4.out
 induction z3.out with
 | @lst al vals k hm hv =>
 obtain ⟨⟨ls, os, a1, b1, c1, d1⟩, F, nd⟩ := z5;have hl := (c1 (al, W.listOf vals.toArray k) (List.mem_append_right _ (List.mem_append_right _ (List.mem_append_right _ hm)))).1;refine mul_list (s := (St s h' aN)) F c1 hl (by lia) (by lia) (by rw [List.size_toArray, hv.length]; exact hz) fun h2 F2 N2 => ?_;rw [listMul_foldl_if] at N2;have dd := cF (oa := W.listOf (List.replicate n vals).flatten.toArray 0) d1 (fun p hp => Heap.lt_size (c1 p hp).1);have k1 : ∀ p ∈ G', p ∈ [((h'.objs.size : Addr), W.listOf (List.replicate n vals).flatten.toArray 0)] ++ G' := fun p hp => .tail _ hp;exact q _ aC aW ([((h'.objs.size : Addr), W.listOf (List.replicate n vals).flatten.toArray 0)] ++ G') _ h2 _ hq (fun p hp => k1 p (z2 p hp)) (.lst (.head _) ((hv.flatten n).mono k1)) (bJ.more a1 b1 nd N2 dd F2)
noncomputable def V.atom (v : V) : Bool := v.sel false true (fun U => true) (fun U => true) (fun U => true)
noncomputable def V.told (v : V) : Bool := v.sel false (t := fun us => us.all V.atom)
set_option tactic.hygienic true in
theorem Im {A : Around} {s : Shared} {u : V} {a b : Value} (ha : VR ρ G u a) (hb : VR ρ G u b) (hf : u.atom = true) : EqAt A s a b true := by
 cases u with
 | none => induction ha.out; induction hb.out; exact EqAt.same _
 | bool b => induction ha.out; induction hb.out; exact EqAt.same _
 | int i =>
  induction ha.out; induction hb.out
  rename_i t u
  have := (MeetsSeq.EqGives.int i i t u).at A s
  rwa [beq_self_eq_true] at this
 | str x =>
  induction ha.out; induction hb.out
  rename_i t u
  have := (eqGives_str x x t u).at A s
  rwa [beq_self_eq_true] at this
 | _ => exact (Bool.false_ne_true hf).elim
theorem Hd {A : Around} {h : Heap} {s : Shared} {m : cV} {u : V} {a b : Value} (I : bJ C ρ G fo σ m loc h) (hs : s.heap = h) (hu : A.units + 2 < cLine) (ha : VR ρ G u a) (hb : VR ρ G u b) (ht : u.told = true) : EqAt A.in1 s a b true := by
 subst hs;have PA : ∃ us, u = .tup us := by
  cases u with
  | tup us => exact ⟨us, rfl⟩
  | _ => exact (Bool.false_ne_true ht).elim
 obtain ⟨us, rfl⟩ := PA;induction ha.out with
 | @tup a vals hm hv =>
 induction hb.out with
 | @tup b vals2 Ur uK =>
 by_cases e : a = b
 ·subst e; exact EqAt.same _
 ·refine EqAt.of_refs e ?_;have l1 := hv.length;have l2 := uK.length;have := RcAt.tuples (A := A.in1) (s := s) (e := fun U => true) (I.Fo hm) (I.Fo Ur) (by show A.units + 1 < cLine; lia) (fun j h1 h2 => ?_)
  ·have e1 : ((List.range (min vals.toArray.size vals2.toArray.size)).all (fun U => true) && vals.toArray.size == vals2.toArray.size) = true := by
    rw [List.size_toArray, List.size_toArray, l1, l2, beq_self_eq_true, Bool.and_true];exact List.all_eq_true.mpr fun U U => rfl
   rwa [e1] at this
  ·rw [List.size_toArray] at h1 h2;have hj : j < us.length := by lia
   refine aR (hv.Yu (i := j) (List.getElem?_eq_getElem hj)) fun v1 e1 r1 => ?_;refine aR (uK.Yu (i := j) (List.getElem?_eq_getElem hj)) fun v2 e2 r2 => ?_;have f1 : vals.toArray[j] = v1 := by
    rw [List.getElem?_eq_getElem h1] at e1;exact Option.some.inj e1
   have f2 : vals2.toArray[j] = v2 := by
    rw [List.getElem?_eq_getElem h2] at e2;exact Option.some.inj e2
   rw [f1, f2];exact Im r1 r2 (List.all_eq_true.mp ht _ (List.getElem_mem hj))
structure QN (Q : nG) (ws us : List V) (l : aF) (s : bQ) : Prop where
 e : ws = us
 ht : ws.all V.told = true
 h : Q (.bool true) l s
theorem EW.PG {l r : Expr} {pos : Pos} (hm : behindInMarks .Eq r = false) (hD : 1 <= D) (h : EL g D C ρ X l loc σ (Pe g D C ρ X r (QN Q))) : EW g D C ρ X (.Compare l [.Eq] [r] pos) loc σ Q := by
 refine .of fun ok G fo m s I Qr Er q qe => ?_;refine wpAny_Compare1 (EL.two h ok I qe fun ws us aC aW G' av bv h' aN z1 z2 z3 z4 z5 => ?_) hm;refine pT z3.isList fun a vals cN hl hv => ?_;subst cN;refine pT z4.isList fun b vals2 cN Cb uK => ?_;subst cN;obtain ⟨rfl, ht, hq⟩ := z1;have hu := ok.CG;have l1 := hv.length;have l2 := uK.length;refine eq_listAt (s := (St s h' aN)) (e := fun U => true) hl Cb (by rw [List.size_toArray, List.size_toArray, l1, l2]) (by lia) (fun j h1 h2 => ?_) ?_
 ·rw [List.size_toArray] at h1 h2;have hj : j < ws.length := by lia
  refine aR (hv.Yu (i := j) (List.getElem?_eq_getElem hj)) fun v1 e1 r1 => ?_;refine aR (uK.Yu (i := j) (List.getElem?_eq_getElem hj)) fun v2 e2 r2 => ?_;have f1 : vals.toArray[j] = v1 := by
   rw [List.getElem?_eq_getElem h1] at e1;exact Option.some.inj e1
  have f2 : vals2.toArray[j] = v2 := by
   rw [List.getElem?_eq_getElem h2] at e2;exact Option.some.inj e2
  rw [f1, f2];exact Hd z5 rfl (by lia) r1 r2 (List.all_eq_true.mp ht _ (List.getElem_mem hj))
 ·rw [List.all_eq_true.mpr fun U U => rfl];exact q (.bool true) aC aW G' _ h' aN hq z2 .bool z5
noncomputable def Ca (x : Str) : Value -> Bool
 | .str y _ => y == x
 | _ => false
theorem Bm {x : Str} {ys : List Str} {vals : List Value} (h : cA ρ G (ys.map V.str) vals) : vals.any (Ca x) = ys.any (· == x) /\ ∀ v ∈ vals, ∃ y t, v = .str y t := by
 induction ys generalizing vals with
 | nil => induction h.out; exact ⟨rfl, fun U h => nomatch h⟩
 | cons y ys ih =>
  induction h.out with
  | cons h1 h2 =>
   induction h1.out
   obtain ⟨a, b⟩ := ih h2;refine ⟨congrArg (_ || ·) a, fun w hw => ?_⟩
   rcases List.mem_cons.mp hw with rfl | hw
   ·exact ⟨_, _, rfl⟩
   ·exact b w hw
inductive JN (neg : Bool) (Q : lR) (a b : V) (l : aF) (s : bQ) : Prop
 | mk (x : Str) (ys : List Str) (ha : a = .str x) (hb : b = .lst (ys.map V.str)) (h : Q (neg != ys.any (· == x)) l s)
theorem Mp {m : cV} {s : Shared} {x : Str} {ys : List Str} {a b : V} {av bv : Value} (I : bJ C ρ G fo σ m loc s.heap) (ha : VR ρ G (.str x) av) (hb : VR ρ G (.lst (ys.map V.str)) bv) {A : Around} {T : cY} (q : T (.bool (ys.any (· == x))) s) :
  wpAny (model g.prog g.w) A (compareOp .In av bv) T E s := by
 induction ha.out
 induction hb.out with
 | lst hm hv =>
 obtain ⟨e, k⟩ := Bm (x := x) hv;refine in_listAt (Ca x) (I.listAt hm) (fun y hy => ?_) ?_
 ·refine Cr (k y (by simpa using hy)) fun y' t cN => ?_;subst cN;exact (eqGives_str y' x t _).at _ _
 ·rw [List.any_toArray, e]; exact q
theorem Iv {m : cV} {s : Shared} {x : Str} {ys : List Str} {a b : V} {av bv : Value} (I : bJ C ρ G fo σ m loc s.heap) (ha : VR ρ G (.str x) av) (hb : VR ρ G (.lst (ys.map V.str)) bv) {A : Around} {T : cY} (q : T (.bool (!ys.any (· == x))) s) :
  wpAny (model g.prog g.w) A (compareOp .NotIn av bv) T E s := by
 induction ha.out
 induction hb.out with
 | lst hm hv =>
 obtain ⟨e, k⟩ := Bm (x := x) hv;refine notIn_listAt (Ca x) (I.listAt hm) (fun y hy => ?_) ?_
 ·refine Cr (k y (by simpa using hy)) fun y' t cN => ?_;subst cN;exact (eqGives_str y' x t _).at _ _
 ·rw [List.any_toArray, e]; exact q
theorem EW.JJ {l r : Expr} {pos : Pos} (hm : behindInMarks .In r = false) (h : EW g D C ρ X l loc σ (Bx g D C ρ X r (JN false (NX Q)))) : EW g D C ρ X (.Compare l [.In] [r] pos) loc σ Q := by
 refine .of fun ok G fo m s I Qr Er q qe => ?_;refine wpAny_Compare1 (EW.rE h ok I qe fun a b aC aW G' av bv h' aN z1 z2 z3 z4 z5 U => ?_) hm;obtain ⟨x, ys, rfl, rfl, hq⟩ := z1;rw [Bool.false_bne] at hq;exact Mp (a := .none) (b := .none) (s := (St s h' aN)) z5 z3 z4 (q _ aC aW G' _ h' aN hq z2 .bool z5)
theorem BW.JJ {l r : Expr} {pos : Pos} {Q : lR} (hm : behindInMarks .In r = false) (h : EW g D C ρ X l loc σ (Bx g D C ρ X r (JN false Q))) : BW g D C ρ X (.Compare l [.In] [r] pos) loc σ Q := by
 refine .of fun ok G fo m s w I _ Qr Er q qe => ?_;refine wpAny_isTrue_Compare1 (EW.rE h ok I qe fun a b aC aW G' av bv h' aN z1 z2 z3 z4 z5 U => ?_) hm;obtain ⟨x, ys, rfl, rfl, hq⟩ := z1;rw [Bool.false_bne] at hq;exact Mp (a := .none) (b := .none) (s := (St s h' aN)) z5 z3 z4 (wpAny_truthy_bool (q _ aC aW G' h' aN hq z2 z5))
theorem BW.JA {l r : Expr} {pos : Pos} {Q : lR} (hm : behindInMarks .NotIn r = false) (h : EW g D C ρ X l loc σ (Bx g D C ρ X r (JN true Q))) : BW g D C ρ X (.Compare l [.NotIn] [r] pos) loc σ Q := by
 refine .of fun ok G fo m s w I _ Qr Er q qe => ?_;refine wpAny_isTrue_Compare1 (EW.rE h ok I qe fun a b aC aW G' av bv h' aN z1 z2 z3 z4 z5 U => ?_) hm;obtain ⟨x, ys, rfl, rfl, hq⟩ := z1;rw [Bool.true_bne] at hq;exact Iv (a := .none) (b := .none) (s := (St s h' aN)) z5 z3 z4 (wpAny_truthy_bool (q _ aC aW G' h' aN hq z2 z5))
end
end
section
variable {D : Nat} {C : Cx} {X : dW} {loc : aF}
inductive MY (f : Str -> Int -> Str) (Q : nG) (a b : V) (l : aF) (s : bQ) : Prop
 | mk (x : Str) (i : Int) (ha : a = .str x) (hb : b = .int i) (hz : x.length <= sizeLine) (h : Q (.str (f x i)) l s)
theorem EW.sliceFrom {value lo : Expr} {p pos : Pos}
  (hs : ∀ x t a, subscripted (.Slice (some lo) Option.none Option.none p) false (.str x t) (.ref a) = operate [.ref a, .str x t] (getItem (.str x t) (.ref a))) (ht : ∀ x t r, letTemporaryGo value (.str x t) r = pure ())
  (h : EW g D C ρ X value loc σ (Bx g D C ρ X lo (MY (fun x i => Txt.slice x (some i) Option.none) Q))) : EW g D C ρ X (.Subscript value (.Slice (some lo) Option.none Option.none p) pos) loc σ Q := by
 refine .of fun ok G fo m s I Qr Er q qe => ?_;refine Subscript_ (EW.seq1 h ok I qe fun a bP fE G1 av h1 dB z1 z2 z3 z4 gU => ?_);refine wpAny_Slice ?_;refine EW.seq1 z1 ok (s := (St s h1 dB)) z4 gU fun b bG fV G2 bv h2 eM y1 y2 y3 y4 mU => ?_;refine evalPart_none_step (evalPart_none_step ?_);obtain ⟨x, i, rfl, rfl, gT, w⟩ := y1;induction z3.out; induction y3.out
 obtain ⟨⟨ls, os, a', b', c', d'⟩, F, nd⟩ := y4;exact slice_strN_sn (s := (St s h2 eM)) F c' (fun h' t' k F' N' => q _ bG fV G2 _ h' k w (z2.trans y2) .str ⟨⟨ls, os, a', b', N', d'⟩, F', nd⟩) (hs _ _ _) (ht _ _) gT
theorem EW.sliceTo {value up : Expr} {p pos : Pos}
  (hs : ∀ x t a, subscripted (.Slice Option.none (some up) Option.none p) false (.str x t) (.ref a) = operate [.ref a, .str x t] (getItem (.str x t) (.ref a))) (ht : ∀ x t r, letTemporaryGo value (.str x t) r = pure ())
  (h : EW g D C ρ X value loc σ (Bx g D C ρ X up (MY (fun x i => Txt.slice x Option.none (some i)) Q))) : EW g D C ρ X (.Subscript value (.Slice Option.none (some up) Option.none p) pos) loc σ Q := by
 refine .of fun ok G fo m s I Qr Er q qe => ?_;refine Subscript_ (EW.seq1 h ok I qe fun a bP fE G1 av h1 dB z1 z2 z3 z4 gU => ?_);refine wpAny_Slice (evalPart_none_step ?_);refine EW.seq1 z1 ok (s := (St s h1 dB)) z4 gU fun b bG fV G2 bv h2 eM y1 y2 y3 y4 mU => ?_;refine evalPart_none_step ?_;obtain ⟨x, i, rfl, rfl, gT, w⟩ := y1;induction z3.out; induction y3.out
 obtain ⟨⟨ls, os, a', b', c', d'⟩, F, nd⟩ := y4;exact slice_strN_ns (s := (St s h2 eM)) F c' (fun h' t' k F' N' => q _ bG fV G2 _ h' k w (fun p hp => y2 p (z2 p hp)) .str ⟨⟨ls, os, a', b', N', d'⟩, F', nd⟩) (hs _ _ _) (ht _ _) gT
inductive IF (Q : nG) (v : V) (l : aF) (s : bQ) : Prop
 | mk (n : Nat) (ev : v = .int n) (hn : n <= 1114111) (h : Q (.str ⟨#[n]⟩) l s)
structure Gd (g : Gl) (D : Nat) (C : Cx) (ρ : bZ) (X : dW) (f : Value) (e : Expr) (Q : nG) (v : V) (l : aF) (s : bQ) : Prop where
 ev : v = .glob f
 h : EW g D C ρ X e l s Q
theorem EW.chr {pos : Pos} {e : Expr} (hs : aH pos [e] C.env) (hf : EW g D C ρ X (.Name "chr" np) loc σ (Gd g D C ρ X (.builtin "chr") e (IF Q))) : EW g D C ρ X (.Call (.Name "chr" np) [e] [] pos) loc σ Q := by
 refine .of fun ok G fo m s I Qr Er q qe => ?_;refine wpAny_Call_ofName (EW.seq1 hf ok I qe fun v bP fE G1 val h1 dB z1 z2 z3 z4 gU => ?_);obtain ⟨rfl, z⟩ := z1;induction z3.out
 refine dR (first := []) hs ?_;refine spliced_cons (EW.seq1 z ok (s := (St s h1 dB)) z4 gU fun v bG fV G2 rX h2 eM y1 y2 y3 y4 mU => ?_);refine spliced_nil ?_;obtain ⟨n, rfl, hn, hq⟩ := y1;induction y3.out
 exact chr_of_range (s := (St s h2 eM)) (by lia) (by lia) (q _ bG fV G2 _ h2 _ hq (fun p hp => y2 p (z2 p hp)) .str y4)
inductive GP (x : Str) (Q : nG) (v : V) (l : aF) (s : bQ) : Prop
 | mk (y : Str) (i : Nat) (r : List Nat) (ev : v = .str y) (ho : Builtin.Str.occurrences x y 0 x.length 1 = i :: r) (h : Q (.int i) l s)
inductive LB (g : Gl) (D : Nat) (C : Cx) (ρ : bZ) (X : dW) (e : Expr) (Q : nG) (v : V) (l : aF) (s : bQ) : Prop
 | mk (x : Str) (ev : v = .str x) (h : EW g D C ρ X e l s (GP x Q))
theorem EW.idx {o e : Expr} {pos : Pos} (he : bS o "index" apos pos [e] C.env) (hs : aH pos [e] C.env) (h : EW g D C ρ X o loc σ (LB g D C ρ X e Q)) :
  EW g D C ρ X (.Call (.Attribute o "index" apos) [e] [] pos) loc σ Q := by
 refine .of fun ok G fo m s I Qr Er q qe => ?_;obtain ⟨pl, he⟩ := he.eq;refine MethodCall_ (EW.seq1 h ok I qe fun v bP fE G1 val h1 dB z1 z2 z3 z4 gU => ?_) he;obtain ⟨x, rfl, z⟩ := z1;induction z3.out
 refine GM.index ?_;refine dR hs ?_;refine spliced_cons (EW.seq1 z ok (s := (St s h1 dB)) z4 gU fun v bG fV G2 rX h2 eM y1 y2 y3 y4 mU => ?_);refine spliced_nil ?_;obtain ⟨y, i, r, rfl, ho, hq⟩ := y1;induction y3.out
 exact SC.index (s := (St s h2 eM)) ho (q _ bG fV G2 _ h2 _ hq (fun p hp => y2 p (z2 p hp)) .int y4)
theorem bJ.Vb {m : cV} {h h' : Heap} {it : Addr} (I : bJ C ρ G fo σ m loc h) (he : Heap.ExtBut it h h') (hi : h.objs.size <= it) : bJ C ρ G fo σ m loc h' := by
 obtain ⟨⟨ls, os, a, b, c, d⟩, F, nd⟩ := I;exact ⟨⟨ls, os, a, b, fun p hp => ⟨he _ _ (Nat.ne_of_lt (Nat.lt_of_lt_of_le (Heap.lt_size (c p hp).1) hi)) (c p hp).1, (c p hp).2⟩, d⟩, F.extBut he hi, nd⟩
inductive IX (a b : Str) (Q : dD) (v : V) (l : aF) (s : bQ) : Prop
 | mk (x y : V) (ev : v = .tup [x, y]) (l1 l2 : aF) (u1 : cK b (.val y) l l1) (u2 : cK a (.val x) l1 l2) (h : Q .next l2 s)
theorem SW.Fj {a b : Str} {pa pb tp pos : Pos} {k : Nat} {e : Expr} {Q : dD} (hh : C.A.handled = none) (ha : aB C a) (hb : aB C b)
  (hs : swapsWithSole [.Tuple [.Name a pa, .Name b pb] k tp] e pos.line C.env = pure false) (hw : swappedStores [.Tuple [.Name a pa, .Name b pb] k tp] e C.env = pure (some [a, b]))
  (h : EW g D C ρ X e loc σ (IX a b Q)) : iB g D C ρ X (.Assign [.Tuple [.Name a pa, .Name b pb] k tp] e pos) loc σ Q := by
 refine .of fun ok G fo m s I Qr Er q qe => ?_;refine Assign_Tuple_swapped (names := [a, b]) (EW.seq1 h ok I (qe.at) fun v bP fE G1 val h1 dB z1 z2 z3 z4 gU => ?_) hs hw;obtain ⟨x, y, rfl, l1, l2, u1, u2, hq⟩ := z1;induction z3.out with
 | @tup t vals hm hv =>
 induction hv.out with
 | @cons vx vr hx Ze =>
 induction Ze.out with
 | @cons vy vr hy uK =>
 induction uK.out
 have key : ∀ {P : List Value -> Shared -> Prop} {E : cY}, (∀ h2, Heap.ExtBut h1.objs.size h1 h2 -> P [vx, vy] (St s h2 dB)) -> wpAny (model g.prog g.w) C.A (unpackItems (.ref t) 2 none) P E (St s h1 dB) := fun k =>
  unpackItems_tuple (items := [vx, vy].toArray) (s := (St s h1 dB)) hh (z4.Fo hm) k
 refine key fun h2 he => ?_;have I2 := z4.Vb he (Nat.le_refl _);refine assignInOrder_cons (bindName_ (eG ok hb.1 (s := (St s h2 dB)) I2 hy u1 fun h3 t3 I3 => ?_));refine assignInOrder_cons (bindName_ (eG ok ha.1 (s := (St s h3 t3)) I3 hx u2 fun h4 t4 I4 => ?_));exact wpAny_pure (q .next l2 fE G1 _ .next h4 t4 hq z2 .next I4)
end
section
variable {D : Nat} {C : Cx} {X : dW} {loc : aF}
theorem qR {n : Nat} (hn : n <= 1000) : Builtin.Range.small 0 (n : Int) 1 = true /\ Builtin.Range.rangeSize 0 (n : Int) 1 = n := by
 have e : Builtin.Range.rangeSize 0 (n : Int) 1 = n := by rw [rangeSize_one]; split <;> lia
 refine ⟨?_, e⟩;unfold Builtin.Range.small;rw [e]
 simp [Builtin.Range.rangeFitsLong]
 lia
inductive Vq (n : Nat) (J : Nat -> aF -> bQ -> Prop) (v : V) (l : aF) (s : bQ) : Prop
 | mk (ev : v = .int n) (h : J 0 l s)
set_option tactic.hygienic true in
theorem yY {jA : Pos} {e : Expr} (hs : aH jA [e] C.env) {n : Nat} {J : Nat -> aF -> bQ -> Prop} (hit : EW g D C ρ X (.Name "range" np) loc σ (Gd g D C ρ X (.type "range") e (Vq n J))) (ok : fM g D C) {m : cV} {s : Shared} (I : bJ C ρ G fo σ m loc s.heap) (qe : uI C ρ G fo m s X Er) {T : cY}
  (k : ∀ bP fE G1 r h1 dB a b c, J 0 bP fE -> Sub G G1 -> bJ C ρ G1 fo fE m bP h1 -> IsRange h1 r 0 n 1 a b c -> T (.ref r) (St s h1 dB)) : wpAny (model g.prog g.w) C.A (eval (.Call (.Name "range" np) [e] [] jA) C.env) T Er s := by
 refine wpAny_Call_ofName (EW.seq1 hit ok I qe fun v SK UT G0 val h0 RU w1 TY w3 w4 SV => ?_);obtain ⟨rfl, w1⟩ := w1;induction w3.out
 refine qD (first := []) hs ?_;refine spliced_cons (EW.seq1 w1 ok (s := (St s h0 RU)) w4 SV fun v bP fE G1 val h1 dB z1 z2 z3 z4 gU => ?_);refine spliced_nil ?_;obtain ⟨rfl, hj⟩ := z1;induction z3.out
 rename_i tt
 refine call_range_1 (s := (St s h1 dB)) ?_;exact k _ _ _ _ _ _ _ _ _ hj (TY.trans z2) ((z4.yL { cls := .type "range", data := .fields #[.int 0 dB, .int n tt, .int 1 (dB + 1)] } rfl).pP) (IsRange.new h1 0 n 1 _ _ _)
noncomputable abbrev El (i n : Int) : Obj := { cls := .type "range_iterator", data := .fields #[rawInt i, rawInt n, rawInt 1] }
theorem Kl (i n : Nat) : (El ((i : Int) + 1) ((n : Int) - i - 1)) = El ((i + 1 : Nat) : Int) ((n : Int) - ((i + 1 : Nat) : Int)) := by
 rw [show ((i + 1 : Nat) : Int) = (i : Int) + 1 by lia, show (n : Int) - ((i : Int) + 1) = (n : Int) - i - 1 by lia]
theorem SW.Lm {x : Str} {px pos jA : Pos} {e : Expr} {body : List Stmt} {Q : dD} (hh : C.A.handled = Option.none) (hx : aB C x) (hs : aH jA [e] C.env) (n : Nat) (hn : n <= 1000) (J : Nat -> aF -> bQ -> Prop)
  (hit : EW g D C ρ X (.Name "range" np) loc σ (Gd g D C ρ X (.type "range") e (Vq n J)))
  (turn : ∀ i l s, i < n -> J i l s -> Si g D C ρ X x (.int i) body (J (i + 1)) Q l s)
  (fin : ∀ l s, J n l s -> Q .next l s) (sE : ∀ v, foldedSetIterable (.Call (.Name "range" np) [e] [] jA) C.env v = pure v) :
  iB g D C ρ X (.For (.Name x px) (.Call (.Name "range" np) [e] [] jA) body [] pos) loc σ Q := by
 refine .of fun ok G fo m s I Qr Er q qe => ?_;obtain ⟨HG, gT⟩ := qR hn;refine wpAny_For (yY hs hit ok I qe.at fun bP fE G1 r h1 dB U U U hj sub z5 ir => ?_) sE;refine wpAny_pyIter_range (s := (St s h1 dB)) ir HG ?_;rw [gT];refine sT (len := n) (P := J) (IO := fun i oI => oI = El i ((n : Int) - i)) hx ok (q.sub sub) (qe.sub sub) ?_ hj (z5.yL _ rfl) (by show _ = El _ _; simp);intro i aC aW G' m' h' aN oI hi Bb sub I' hI Sy T E item stop;subst hI
 by_cases pK : i < n
 ·refine wpAny_pyNext_range_item (s := (St s h' aN)) Sy (by lia) fun h2 Nq Ha => ?_;exact item (.int i) _ h2 _ _ pK (.int (t := aN)) (turn i aC aW pK Bb) Nq (Kl i n) Ha
 ·have DB : i = n := Nat.le_antisymm hi (Nat.not_lt.mp pK);refine wpAny_pyNext_range_end (s := (St s h' aN)) hh Sy (by lia) fun h2 Qh => ?_;exact stop h2 (fin _ _ (DB ▸ Bb)) Qh
end
section
variable {D : Nat} {C : Cx} {X : dW} {loc : aF}
structure mF (C : Cx) (x : Str) (c : Addr) : Prop where
 kd : (envX C.cn C.cs C.L C.a C.Bu C.cl).kindOf x = some .cell
 lk : C.cl.lookup x = some c
 hd : (x == ("__debug__" : Str)) = false
inductive IE (x : Str) (c : Addr) (Q : dD) (v : V) (l : aF) (s : bQ) : Prop
 | mk (w : Option V) (hw : (x, LV.cell c w) ∈ l) (l' : aF) (u : cK x (.cell c (some v)) l l') (h : Q .next l' s)
theorem SW.Cy {x : Str} {c : Addr} {p pos : Pos} {e : Expr} {Q : dD} (zY : swapsWith e (some (.Name x p)) pos.line C.env = pure false) (hx : mF C x c) (h : EW g D C ρ X e loc σ (IE x c Q)) : iB g D C ρ X (.Assign [.Name x p] e pos) loc σ Q := by
 refine .of fun ok G fo m s I Qr Er q qe => ?_;refine wpAny_Assign_Name (h.out ok G fo m s I _ _ (fun v aC aW G' val h' aN z1 z2 z3 z4 => ?_) qe.at) zY;obtain ⟨w, hw, l', u, hq⟩ := z1;obtain ⟨⟨ls, os, a, b, cc, d⟩, F, nd⟩ := z4;obtain ⟨l1, l2, o1, o, o2, rfl, rfl, h1, hv, h2, n1, n2⟩ := b.at hw nd;induction hv.out with
 | @cell ov ob PR US =>
 have re : ∀ ob : Obj, ls ++ ((o1 ++ ([(c, ob)] ++ o2)) ++ (fo ++ G')) = (ls ++ o1) ++ (c, ob) :: (o2 ++ (fo ++ G')) := fun ob => by simp
 rw [re] at cc d;obtain ⟨s1, s2⟩ := dO d;refine storeX_C (s := (St s h' aN)) F cc hx.lk (nW s1 s2) PR (fun h3 o' F3 N3 HH => ?_) ok.kind hx.kd;refine q .next l' aW G' m .next h3 aN hq z2 .next ⟨⟨ls, o1 ++ ([(c, o')] ++ o2), a, ?_, ?_, ?_⟩, F3, by rw [u.names]; exact nd⟩
 ·rw [u.at n2 n1];exact h1.append (.cell HH (.some z3) h2)
 ·rw [re]; exact N3
 ·rw [re]; exact fB d
theorem yA {ys : List Value} {zs : List Str} (h : CarriedAll ys (zs.map .str)) : StrsAre ys zs := by
 induction zs generalizing ys with
 | nil => cases h; exact .nil
 | cons z zs ih => cases h with | cons a b => cases a; exact .cons _ _ (ih b)
theorem yE {ys : List Value} {zs : List Int} (h : CarriedAll ys (zs.map .int)) : cA ρ G (zs.map V.int) ys := by
 induction zs generalizing ys with
 | nil => cases h; exact .nil
 | cons z zs ih => cases h with | cons a b => cases a; exact .cons .int (ih b)
noncomputable def bX : Scope := { kind := .function, names := [(".0", .local), ("k", .local), ("_law_WORD", .globalImplicit), ("m", .free)], isGenerator := false, isCoroutine := false, more := [] }
theorem rM {c : Addr} (hc : mF C "m" c) : closureFor bX C.env = pure [(("m" : Str), c)] := by
 have e : cellOf C.env "m" = pure c := by
  unfold cellOf;rw [show C.env.cells.lookup ("m" : Str) = some c from hc.lk]
 unfold closureFor bX
 simp [e]
theorem rL {c : Addr} (hc : mF C "m" c) (hk : C.cs.kind = .function) : relabel bX C.env = { bX with names := [(".0", .local), ("k", .local), ("_law_WORD", .globalImplicit), ("m", .cell)] } := by
 have e1 : C.env.kindOf ("m" : Str) = some .cell := hc.kd;have e2 : (C.env.scope.kind == ScopeKind.function) = true := by show (C.cs.kind == _) = _; rw [hk]; rfl
 unfold relabel bX
 simp [e1, e2]
theorem Dt {c Cc : Addr} {mm k : Int} {t tw tk : Tok} {W : Str} {k1 k2 : Nat} {p1 p2 p4 p5 p6 p7 p8 p9 : Pos} {m m₂ : cV} {sY : Shared} {A : Around} (hc : mF C "m" c) (hk : C.cs.kind = .function) (F : Fr C.h₀ C.L sY.heap m) (fK : g.K.In C.h₀) (top : Top g.p g.loose g.Kq g.mg g.mb C.h₀)
  (hW : nsIn g.K mainGlobals "_law_WORD" = some (some (.str W tw))) (Wi : W.length = 64) (DN : sY.heap.IsCell c (some (.int mm t))) (DY : sY.heap.Ns (compEnvC bX [("m", c)] Cc C.env).locals m₂) (RL : m₂ "k" = some (.int k tk)) (h0 : 0 <= mm) (JP : 0 <= k) (UX : k < 5) :
  wpAny (model g.prog g.w) A (eval (.Subscript (.Name "_law_WORD" p1) (.BinOp (.BinOp (.Name "m" p2) .FloorDiv (.BinOp (.Constant (.int 64) k1 p3) .Pow (.Name "k" p4) p5) p6) .Mod (.Constant (.int 64) k2 p7) p8) p9) (compEnvC bX [("m", c)] Cc C.env))
   (fun y JL => Carried y (.str (Txt.item W (mm / 64 ^ k.toNat % 64))) /\ Keeps sY JL) E sY := by
 have rl : (compEnvC bX [("m", c)] Cc C.env).scope = { bX with names := [(".0", .local), ("k", .local), ("_law_WORD", .globalImplicit), ("m", .cell)] } := rL hc hk
 have ks : (compEnvC bX [("m", c)] Cc C.env).scope.kind = .function := by rw [rl]; rfl
 have hp : 0 < (64 : Int) ^ k.toNat := Int.pow_pos (by decide);have IY : (64 : Int) ^ k.toNat <= 1073741824 := by
  have : k = 0 \/ k = 1 \/ k = 2 \/ k = 3 \/ k = 4 := by lia
  rcases this with rfl | rfl | rfl | rfl | rfl <;> decide
 refine Subscript_ (nameG_K F fK (topRead_of top) hW ?_ rfl ks (by unfold Env.kindOf; rw [rl]; rfl) rfl);refine wpAny_BinOp (wpAny_BinOp (wpAny_Name (wpAny_loadName_cell ks (by unfold Env.kindOf; rw [rl]; rfl) rfl DN ?_) rfl));refine wpAny_BinOp (wpAny_Constant_int (wpAny_Name (wpAny_loadName_local ks (by unfold Env.kindOf; rw [rl]; rfl) DY RL ?_) rfl));refine PyProof.Rows.pow_int_small JP (by lia) (by decide) ?_;refine PyProof.Rows.floordiv_int (hp := .inl (PyProof.noPylong_of_log2 ?_)) (Int.ne_of_gt hp) ?_
 ·refine wpAny_Constant_int ?_;refine PyProof.Rows.mod_int (by decide) ?_;rw [Int.fdiv_eq_ediv_of_nonneg _ (Int.le_of_lt hp), Int.fmod_eq_emod_of_nonneg _ (by decide)];have b1 : 0 <= mm / 64 ^ k.toNat % 64 := Int.emod_nonneg _ (by decide);have b2 : mm / 64 ^ k.toNat % 64 < 64 := Int.emod_lt_of_pos _ (by decide);refine item_str ?_ (by rw [Wi]; lia) (by rw [Wi]; exact b2) (fun U => ⟨.str _ _, _, _, rfl, fun U U h => h⟩) rfl fun U => rfl;unfold fitsSsize;have h1 : ¬ (mm / 64 ^ k.toNat % 64 < -2 ^ 63) := by lia
  have h2 : ¬ (mm / 64 ^ k.toNat % 64 ≥ 2 ^ 63) := by lia
  simp only [h1, h2, decide_false, Bool.or_self, Bool.not_false]
 ·have h2 : ((64 : Int) ^ k.toNat).natAbs < 2147483648 := by lia
  exact Nat.lt_of_lt_of_le ((Nat.log2_lt (k := 31) (show ((64 : Int) ^ k.toNat).natAbs ≠ 0 by lia)).mpr h2) (by decide)
theorem cA.FX {zs : List Str} {vals : List Value} (h : StrsAre vals zs) : cA ρ G (zs.map V.str) vals := by
 induction h with
 | nil => exact .nil
 | cons _ _ _ ih => exact .cons .str ih
inductive Wm (ρ : bZ) (G : bB) (c : Addr) (v : V) (os : bB) : Prop
 | mk (ob : Obj) (val : Value) (Wj : (c, ob) ∈ os) (hd : ob.data = .cell (some val)) (hv : VR ρ G v val)
theorem bH.cellAt {m : cV} {x : Str} {c : Addr} {v : V} {loc : aF} (b : bH ρ G m loc os) (hm : (x, LV.cell c (some v)) ∈ loc) (nd : (loc.map (·.1)).Nodup) : Wm ρ G c v os := by
 obtain ⟨l1, l2, o1, o, o2, el, eo, FU, hv, FL, n1, n2⟩ := b.at hm nd;subst eo;induction hv.out with
 | cell hd h =>
  induction h.out with
  | some uK => exact ⟨_, _, List.mem_append_right o1 (.head _), hd, uK⟩
noncomputable def DC (W : Str) (mm : Int) (k : Int) : PyData := .str (Txt.item W (mm / 64 ^ k.toNat % 64))
theorem Cg {W : Str} {mm : Int} {N : Nat} : (((rangeInts 0 1 N).filter fun U => true).map (DC W mm)) = ((List.range N).map fun (k : Nat) => Txt.item W (mm / 64 ^ k % 64)).map PyData.str := by
 rw [List.filter_eq_self.mpr fun U U => rfl, List.map_map];unfold rangeInts;rw [List.map_map];refine List.map_congr_left fun k U => ?_;show PyData.str (Txt.item W (mm / 64 ^ (0 + (k : Int) * 1).toNat % 64)) = _;rw [show (0 + (k : Int) * 1).toNat = k by lia]
 rfl
theorem yZ {W : Str} {mm : Int} {N : Nat} (Wi : W.length = 64) : (((List.range N).map fun (k : Nat) => Txt.item W (mm / 64 ^ k % 64)).map Str.length).sum = N := by
 have hlen : ∀ k : Nat, (Txt.item W (mm / 64 ^ k % 64)).length = 1 := fun k => by
  rw [item_meets ⟨Int.emod_nonneg _ (by decide), by rw [Wi]; exact Int.emod_lt_of_pos _ (by decide)⟩]
  rfl
 rw [List.map_map, show ((List.range N).map (Str.length ∘ fun (k : Nat) => Txt.item W (mm / 64 ^ k % 64))) = (List.range N).map fun U => 1 from List.map_congr_left fun k U => hlen k, List.map_const', List.sum_replicate_nat, List.length_range, Nat.mul_one]
structure EJ (c : Addr) (mm : Int) (W : Str) (N : Nat) (Q : nG) (_ : Nat) (l : aF) (s : bQ) : Prop where
 hm : (("m" : Str), LV.cell c (some (.int mm))) ∈ l
 h : Q (.str (Txt.join (Str.ofString "") ((List.range N).map fun (k : Nat) => Txt.item W (mm / 64 ^ k % 64)))) l s
inductive GZ (C : Cx) (ρ : bZ) (G fo : bB) (σ : bQ) (m : cV) (l : aF) (h : Heap) (c : Addr) (mm : Int) : Prop
 | mk (ls os : bB) (ob : Obj) (t : Tok) (a : Gr ρ G σ ls) (b : bH ρ G m l os) (cc : News C.h₀ C.L h (ls ++ (os ++ (fo ++ G)))) (d : ((ls ++ (os ++ (fo ++ G))).map (·.1)).Nodup) (F : Fr C.h₀ C.L h m) (nd : (l.map (·.1)).Nodup) (Wj : (c, ob) ∈ ls ++ (os ++ (fo ++ G))) (hd : ob.data = .cell (some (.int mm t)))
theorem Aq {c : Addr} {mm : Int} {W : Str} {N i : Nat} {m : cV} {h : Heap} (I : bJ C ρ G fo σ m loc h) (hj : EJ c mm W N Q i loc σ) : GZ C ρ G fo σ m loc h c mm := by
 obtain ⟨⟨ls, os, a, b, cc, d⟩, F, nd⟩ := I;obtain ⟨ob, cv, Wj, hd, PB⟩ := b.cellAt hj.hm nd;induction PB.out
 exact ⟨ls, os, ob, _, a, b, cc, d, F, nd, List.mem_append_right _ (List.mem_append_left _ Wj), hd⟩
theorem EW.gJ {c : Addr} {mm : Int} {N : Nat} {W : Str} {tw : Tok} {k0 k1 k2 : Nat} {sp p1 p2 p4 p5 p6 p7 p8 p9 px jA Hb pos : Pos} {ne elt Gg : Expr} (hh : C.A.handled = Option.none) (hc : mF C "m" c) (h0 : 0 <= mm) (hN : N <= 5)
  (hW : nsIn g.K mainGlobals "_law_WORD" = some (some (.str W tw))) (Wi : W.length = 64) (JZ : elt = .Subscript (.Name "_law_WORD" p1) (.BinOp (.BinOp (.Name "m" p2) .FloorDiv (.BinOp (.Constant (.int 64) k1 p3) .Pow (.Name "k" p4) p5) p6) .Mod (.Constant (.int 64) k2 p7) p8) p9) (SP : Gg = .Call (.Name "range" np) [ne] [] jA) (hs : aH jA [ne] C.env) (HA : ∀ v, foldedSetIterable Gg C.env v = pure v)
  (he : bS (.Constant (.str (Str.ofString "")) k0 sp) "join" apos pos [.ListComp elt [⟨.Name "k" px, Gg, [], 0⟩] bX Hb] C.env)
  (hf : EW g D C ρ X (.Name "range" np) loc σ (Gd g D C ρ X (.type "range") ne (Vq N (EJ c mm W N Q)))) :
  EW g D C ρ X (.Call (.Attribute (.Constant (.str (Str.ofString "")) k0 sp) "join" apos) [.ListComp elt [⟨.Name "k" px, Gg, [], 0⟩] bX Hb] [] pos) loc σ Q := by
 refine .of fun ok G fo m s I Qr Er q qe => ?_;obtain ⟨HG, gT⟩ := qR (n := N) (by lia);obtain ⟨pl, he⟩ := he.eq;refine @MethodCall_ _ _ _ _ _ _ _ _ _ _ _ _ ?_ he;refine wpAny_Constant_str ?_;refine GM.join ?_;have PV : aH pos [.ListComp elt [⟨.Name "k" px, Gg, [], 0⟩] bX Hb] C.env := rfl;refine dR PV ?_;refine spliced_cons (ListComp_DCr (h₀ := C.h₀) (L := C.L) (m := m) (cl := [(("m" : Str), c)]) (pz := fun U => true) (d := DC W mm) hh (rM hc) (by decide) rfl (by decide) rfl ?_ HA);rw [SP];refine yY hs hf ok (s := { s with toks := s.toks + 1 }) I qe fun bG fV G2 r h2 eM t1 t2 t3 hj z2 I3 ir => ?_
 have J := Aq I3 hj;obtain ⟨ls, os, ob, tc, a, b, cc, d, F, nd, Wj, hd⟩ := J;refine (CE (ls ++ (os ++ (fo ++ G2))) _ 0 N 1 _ _ _ N rfl ir HG gT (by unfold sizeLine; lia) F cc (fun U U U sY U U U U U U U U => wpAny_pure ⟨rfl, _, _, rfl, fun U U h => h⟩) (fun Cc k v sY m₂ E' hC LM hv U DY Ur Nj => ?_) (fun Dl ys h' aN F' N' Pp hl Yy Xy => ?_))
 ·obtain ⟨tk, rfl⟩ := ItemKind.int_is hv;obtain ⟨JP, UQ⟩ := mem_rangeInts LM;rw [JZ];exact Dt hc ok.kind (F.keeps Nj) ok.fK ok.top hW Wi ⟨ob, Nj _ _ (cc _ Wj).1, hd⟩ DY Ur h0 JP (by lia)
 ·refine spliced_nil ?_;rw [Cg] at Xy;refine join_listW (s := (St s h' aN)) hl (by simpa using yA Xy) (by decide) ?_ fun t' k => ?_
  ·rw [yZ Wi, List.length_map, List.length_range]
   lia
  ·exact q _ _ _ G2 _ h' k hj.h z2 .str ⟨⟨ls, os, a, b, N', d⟩, F', nd⟩
end
section
variable {D : Nat} {C : Cx} {X : dW} {loc : aF}
noncomputable def qC : Scope := { kind := .function, names := [(".0", .local), ("n", .local)], isGenerator := false, isCoroutine := false, more := [] }
inductive BX (y : Str) (ns : List Int) (Q : dD) (l : aF) (s : bQ) : Prop
 | mk (l' : aF) (u : cK y (.ml ((ns.take 10).map fun n => V.int (n % 1073741824))) l l') (h : Q .next l' s)
theorem Kr {y : Str} {vs : List V} {ys : List Value} {D : Addr} {m : cV} {h : Heap} (a1 : Gr ρ G σ ls) (b : bH ρ G m loc os) (d : ((ls ++ (os ++ (fo ++ G))).map (·.1)).Nodup) (nd : (loc.map (·.1)).Nodup) (hv : cA ρ G vs ys) (u : cK y (.ml vs) loc l') (F' : Fr C.h₀ C.L h (mT m y (.ref D))) (N' : News C.h₀ C.L h (ls ++ (os ++ (fo ++ G)))) (Pp : C.h₀.get? D = none) (Yy : NewPlain h (ls ++ (os ++ (fo ++ G))) D ys.toArray) :
  bJ C ρ G fo σ (mT m y (.ref D)) l' h := by
 obtain ⟨⟨n, Zs⟩, Yn⟩ := Yy;have TB := NewPlain.ne_locals ⟨⟨n, Zs⟩, Yn⟩ F';refine Pd (b.setM (a := D) (n := n) hv u nd) fun os1 os2 b' sb => ?_;have N3 : News C.h₀ C.L h ((D, W.listOf ys.toArray n) :: (ls ++ (os ++ (fo ++ G)))) := fun p hp => (List.mem_cons.mp hp).elim (fun e => e ▸ (fL Zs TB Pp)) (N' p);have dd : (((D, W.listOf ys.toArray n) :: (ls ++ (os ++ (fo ++ G)))).map (·.1)).Nodup := List.nodup_cons.mpr ⟨fun hm => (List.mem_map.mp hm).elim fun p hp => Yn p hp.1 hp.2, d⟩;have sub : (ls ++ ((os1 ++ os2) ++ (fo ++ G))).Sublist (ls ++ (os ++ (fo ++ G))) := (List.Sublist.refl _).append (sb.append (.refl _));have pm : ((D, W.listOf ys.toArray n) :: (ls ++ ((os1 ++ os2) ++ (fo ++ G)))).Perm (ls ++ ((os1 ++ (D, W.listOf ys.toArray n) :: os2) ++ (fo ++ G))) := by
  refine List.perm_middle.symm.trans ((List.Perm.refl ls).append ?_);rw [List.append_assoc, List.append_assoc, List.cons_append];exact List.perm_middle.symm
 exact ⟨⟨ls, _, a1, b', bY N3 fun p hp => (List.Sublist.cons₂ _ sub).subset (pm.symm.subset hp), (List.Perm.nodup_iff (pm.map _)).mp (dJ dd (List.Sublist.cons₂ _ sub))⟩, F', by rw [u.names]; exact nd⟩
theorem Se {ns : List Int} {ys : List Value} (Xy : CarriedAll ys ((ns.filter fun U => true).map fun n => PyData.int (n % 1073741824))) : cA ρ G (ns.map fun n => V.int (n % 1073741824)) ys := by
 have ez : ((ns.filter fun U => true).map fun n => PyData.int (n % 1073741824)) = (ns.map fun n => n % 1073741824).map PyData.int := by
  rw [List.filter_eq_self.mpr fun U U => rfl, List.map_map]; rfl
 rw [ez] at Xy;have := yE (ρ := ρ) (G := G) Xy
 rwa [List.map_map] at this
theorem SW.aP {y sc : Str} {a : Addr} {vals : List Value} {ns : List Int} {py px p1 p2 p4 p5 p6 sp Hb AX : Pos} {k1 k2 : Nat} {elt it : Expr} {Q : dD} (hh : C.A.handled = none) (JZ : elt = .BinOp (.Name "n" p1) .Mod (.Constant (.int 1073741824) k1 p2) p3) (hit : it = .Subscript (.Name sc sp) (.Slice none (some (.Constant (.int 10) k2 p4)) none p5) p6) (hy : aB C y) (Gk : aB C sc) (h0 : (sc, LV.val (.glob (.ref a))) ∈ loc) (hl : C.h₀.IsList a vals.toArray) (hi : IntsAre vals ns) (hn : ns.length <= 1000)
  (HA : ∀ v, foldedSetIterable it C.env v = pure v) (zY : swapsWith (.ListComp elt [⟨.Name "n" px, it, [], 0⟩] qC Hb) (some (.Name y py)) AX.line C.env = pure true)
  (h : BX y ns Q loc σ) :
  iB g D C ρ X (.Assign [.Name y py] (.ListComp elt [⟨.Name "n" px, it, [], 0⟩] qC Hb) AX) loc σ Q := by
 refine .of fun ok G fo m s I Qr Er q qe => ?_;obtain ⟨⟨ls, os, a1, b, c, d⟩, F, nd⟩ := I;refine aR (b.get h0) fun val e1 e2 => ?_;induction e2.out
 have hlen := hi.length;have RJ : s.heap.IsList a vals.toArray := hl.at fun o e => F.keep _ _ e;obtain ⟨l', u, hq⟩ := h;refine Assign_ListComp_DCn (K := .int) (h₀ := C.h₀) (L := C.L) (m := m) (cl := []) (pz := fun U => true) (d := fun n => .int (n % 1073741824)) zY rfl hh (by unfold closureFor qC; simp) (by decide) rfl (by decide) rfl hy.1 (by show (C.cs.kind == .class || (C.cs.kind == .module && C.L != mainGlobals)) = false; rw [ok.kind]; rfl) ?_ HA;rw [hit];refine Subscript_ (nameX_L F e1 ?_ ok.kind Gk.1 Gk.2);refine wpAny_Slice (evalPart_none_step (evalPart_some_step (wpAny_Constant_int (evalPart_none_step ?_))));refine slice_list (s := { s with toks := s.toks + 1 }) F c RJ .none (.int 10 _) (fun h1 F1 N1 => ?_) rfl (fun U => rfl) (by rw [List.size_toArray, hlen]; unfold sizeLine; lia)
 have hp := (slice_ints_uptoW hi (y := 10) (by decide)).areOf;have N0 : News C.h₀ C.L h1 (ls ++ (os ++ (fo ++ G))) := fun p hp => N1 p (.tail _ hp);refine (GH (ls ++ (os ++ (fo ++ G))) _ ((slicePick vals.toArray none (some 10) none).toList) (ns.take 10) rfl ⟨_, (N1 _ (.head _)).1, rfl, 0, rfl⟩ hp (by rw [List.length_take]; unfold sizeLine; lia) F1 N0 (fun U U U sY U U U U U U U U => wpAny_pure ⟨rfl, _, _, rfl, fun U U h => h⟩) (fun Cc n v sY m₂ E' hC LM hv U DY Ur Nj => ?_) (fun Dl ys h' aN F' N' Pp Xg Yy Xy => q .next l' σ G _ .next h' aN hq (.refl _) .next (Kr a1 b d nd (Se Xy) u F' N' Pp Yy)));obtain ⟨tk, rfl⟩ := ItemKind.int_is hv;rw [JZ];refine wpAny_BinOp (wpAny_Name (wpAny_loadName_local rfl rfl DY Ur (wpAny_Constant_int ?_)) rfl);refine PyProof.Rows.mod_int (by decide) ?_;rw [Int.fmod_eq_emod_of_nonneg _ (by decide)];exact ⟨.int _ _, _, _, rfl, fun U U h => h⟩
inductive sI (g : Gl) (Cl Ck : Addr) : Bool -> Prop
 | t (h : PySem.W.isIn g.K (.ref Cl) Ck = true) : sI g Cl Ck true
 | f (h : kin_not g.K Cl Ck = true) (hg : plainGet g.K Cl "__class__" = true) (hd : hasDictIn g.K Cl = true) (ha : findIn g.K (.ref Cl) "__class__" = some (some (.builtin "object.__class__")))
   (hn : specialIn g.K (.builtin "object.__class__") "__get__" = some (some (.builtin "getset_descriptor.__get__"))) (ht : takesIn g.K (.builtin "object.__class__") = some true) (hm : mroIn g.K Cl (.type "object") = some true) : sI g Cl Ck false
inductive IG (g : Gl) (Q : nG) (vs : List V) (l : aF) (s : bQ) : Prop
 | mk (Cl Ck : Addr) (ns : List Str) (us : List V) (b : Bool) (ev : vs = [.inst Cl ns us, .glob (.ref Ck)]) (hi : sI g Cl Ck b) (h : Q (.bool b) l s)
structure CK (g : Gl) (D : Nat) (C : Cx) (ρ : bZ) (X : dW) (f : Value) (args : List Expr) (Q : List V -> aF -> bQ -> Prop) (v : V) (l : aF) (s : bQ) : Prop where
 ev : v = .glob f
 h : AW g D C ρ X args l s Q
theorem EW.KN {pos : Pos} {args : List Expr} (hs : aH pos args C.env) (hf : EW g D C ρ X (.Name "isinstance" np) loc σ (CK g D C ρ X (.builtin "isinstance") args (IG g Q))) : EW g D C ρ X (.Call (.Name "isinstance" np) args [] pos) loc σ Q := by
 refine .of fun ok G fo m s I Qr Er q qe => ?_;refine wpAny_Call_ofName (EW.seq1 hf ok I qe fun v bP fE G1 val h1 dB z1 z2 z3 z4 gU => ?_);obtain ⟨rfl, z⟩ := z1;induction z3.out
 refine dR (first := []) hs ?_;refine AW.run z ok (s := (St s h1 dB)) z4 gU fun vs bG fV G2 vals2 h2 eM y1 y2 y3 y4 mU => ?_;obtain ⟨Cl, Ck, ns, us, b, rfl, hi, hq⟩ := y1;induction y3.out with
 | cons hx PC =>
 induction PC.out with
 | cons hk PK =>
 induction PK.out; induction hk.out
 have fin : ∀ tk, Qr (.bool b) (St s h2 tk) := fun tk => q _ bG fV G2 _ h2 tk hq (fun p hp => y2 p (z2 p hp)) .bool y4;have key : ∀ {x : Addr} {ox od : Obj}, InstAt h2 x ox Cl (some od) -> wpAny (model g.prog g.w) C.A (PySem.call (.builtin "isinstance") [.ref x, .ref Ck]) Qr Er (St s h2 eM) := fun IA => by
  induction hi with
  | t h => exact isi_call (s := (St s h2 eM)) (ok.fK.keeps y4.fr.keep) (fun M => IA.type) h (by intro e; cases e) (fin _)
  | f h hg hd ha hn ht hm => exact kin_callC (s := (St s h2 eM)) (ok.fK.keeps y4.fr.keep) IA h hg hd ha hn ht hm (fin _)
 obtain ⟨ls, os, _, _, c, _⟩ := y4.ex;have mem : ∀ {p}, p ∈ G2 -> p ∈ ls ++ (os ++ (fo ++ G2)) := fun hp => List.mem_append_right _ (List.mem_append_right _ (List.mem_append_right _ hp));induction hx.out with
 | inst h1 h2 h3 h4 => exact key (InstAt.of_news c (mem h1) (mem h2))
 | An h1 h2 h3 h4 => exact key ⟨(c _ (mem h1)).1, rfl, rfl, (c _ (mem h2)).1⟩
end
@[irreducible] def lQ (g : Gl) (D : Nat) (C : Cx) (ρ : bZ) (t : Sem Flow) (loc : aF) (σ : bQ) : Prop :=
 fM g D C -> ∀ G fo m s, bJ C ρ G fo σ m loc s.heap -> ∀ (Qr : Flow -> Shared -> Prop) (Er : cY),
  (∀ ρ' G' aW m' aC h' aN, bJ C ρ' G' fo aW m' aC h' -> Qr (.ret (.bool true)) (St s h' aN)) -> wpAny (model g.prog g.w) C.A t Qr Er s
theorem lQ.of {D : Nat} {C : Cx} {t : Sem Flow} {loc : aF} (h :
 fM g D C -> ∀ G fo m s, bJ C ρ G fo σ m loc s.heap -> ∀ (Qr : Flow -> Shared -> Prop) (Er : cY),
  (∀ ρ' G' aW m' aC h' aN, bJ C ρ' G' fo aW m' aC h' -> Qr (.ret (.bool true)) (St s h' aN)) -> wpAny (model g.prog g.w) C.A t Qr Er s) : lQ g D C ρ t loc σ := by delta lQ; exact h
theorem lQ.out {D : Nat} {C : Cx} {t : Sem Flow} {loc : aF} (h : lQ g D C ρ t loc σ) :
 fM g D C -> ∀ G fo m s, bJ C ρ G fo σ m loc s.heap -> ∀ (Qr : Flow -> Shared -> Prop) (Er : cY),
  (∀ ρ' G' aW m' aC h' aN, bJ C ρ' G' fo aW m' aC h' -> Qr (.ret (.bool true)) (St s h' aN)) -> wpAny (model g.prog g.w) C.A t Qr Er s := by delta lQ at h; exact h
section
variable {D : Nat} {C : Cx} {loc : aF}
theorem lQ.TA {t : Sem Flow} (h : Sj g D C ρ (fun U U U => False) t loc σ (fun f U U => f = .ret (.bool true))) : lQ g D C ρ t loc σ := by
 refine .of fun ok G fo m s I Qr Er q => ?_;refine h.out ok G fo m s I Qr Er (fun f aC aW G' m' fv h' aN z1 z2 z3 z4 => ?_) fun U U U U U U U U z => z.elim;subst z1;induction z3.out with
 | ret hv => induction hv.out; exact q ρ G' aW m' aC h' aN z4
structure BQ (g : Gl) (D : Nat) (C : Cx) (ρ : bZ) (r : List Stmt) (f : Fl) (l : aF) (s : bQ) : Prop where
 e : f = .next
 h : lQ g D C ρ (execs r C.env) l s
theorem lQ.cons {st : Stmt} {r : List Stmt} (h : iB g D C ρ (fun U U U => False) st loc σ (BQ g D C ρ r)) : lQ g D C ρ (execs (st :: r) C.env) loc σ := by
 refine .of fun ok G fo m s I Qr Er q => ?_;refine wpAny_execs_cons (h.out ok G fo m s I _ _ (fun f aC aW G' m' fv h' aN z1 z2 z3 z4 => ?_) fun U U U U U U U U z => z.elim);obtain ⟨rfl, z1⟩ := z1;induction z3.out
 exact z1.out ok G' fo m' (St s h' aN) z4 Qr Er q
theorem lQ.iV (F : aE g) (SF : rF g) {x y : Str} {tp p pos : Pos} {r : List Stmt} {t : Str} (hD : 8 <= D) (hh : C.A.handled = none) (hg : C.cs.names.lookup ("Scanner" : Str) = some .globalImplicit) (hy : aB C y) (hx : aB C x) (h0 : (y, LV.val (.str t)) ∈ loc) (hp : ∀ c ∈ t.cps.toList, rI c = true) (hl : t.length <= 99999)
  (zC : (loc.all fun p => p.2.free) = true) (u : cK x (.val .self) loc aC) (zY : swapsWith (.Call (.Name "Scanner" np) [.Name y tp] [] cp) (some (.Name x p)) pos.line C.env = pure false)
  (h : ∀ ρ' ka ko, lQ g D C ρ' (execs r C.env) aC (some ((Z.init t.cps.toList).sc ka ko))) : lQ g D C ρ (execs (.Assign [.Name x p] (.Call (.Name "Scanner" np) [.Name y tp] [] cp) pos :: r) C.env) loc none := by
 refine .of fun ok G fo m s I Qr Er q => ?_;obtain ⟨ls, os, a, b, c, d⟩ := I.ex;refine aR (b.get h0) fun val e1 e2 => ?_;induction e2.out
 refine wpAny_execs_cons (wpAny_Assign_Name (wpAny_Call_ofName (nameX_K I.fr ok.fK (topRead_of ok.top) (F.gl 18 rfl) ?_ ok.kind hg rfl)) zY);refine dN (first := []) rfl SF.kp ?_;refine spliced_cons (nameX_L I.fr e1 ?_ ok.kind hy.1 hy.2);refine spliced_nil ⟨ok.fK.keeps I.fr.keep, ?_⟩;refine xG F SF hp hl hD ok hh I zC fun ρ' G' ka ko h' aN sub I' => ?_;refine eG ok hx.1 (s := (St s h' aN)) I' .self u fun h2 t2 I2 => ?_;exact (h ρ' ka ko).out ok G' fo _ (St s h2 t2) I2 Qr Er q
end
section
set_option genInjectivity false
set_option genSizeOf false
noncomputable def fN : Str := "0123456789ABCDEFGHIJKLMNOPQRSTUVWXYZabcdefghijklmnopqrstuvwxyz-_"
noncomputable def bW : Str := " \t\r\n\u0085\u2028\u2029"
noncomputable def pH : List Str := ["\n", "\r\n", "\r", "\u0085", "\u2028", "\u2029"]
noncomputable def Cw : List Str := [" ", ":", ",", "?", "]", "}", "", "%", "@", "`", "\t", "\n", "\r\n", "\r", "\u0085", "\u2028", "\u2029"]
noncomputable def Jt : List Str := ["é", "\ufeff", "\u00a0", "😀"]
noncomputable def kO : List Str := ["]", "}"]
noncomputable def mV : List Nat := [1, 2, 3, 5, 4, 0]
noncomputable def kL : List Str := ["x", "", " 'x'"]
noncomputable def bO (tag : Str) (val s : V) (e : Int) : V := .tup [.str tag, val, s, .int e]
noncomputable def bD (n : Int) : Str :=
 if n % 3 < 2 then Cw.getD (n / 3 % 17).toNat "" else if n / 3 / 95 % 8 = 7 then Jt.getD (n / 3 % 4).toNat "" else ⟨#[(32 + n / 3 % 95).toNat]⟩
noncomputable def aM : List Int -> Int
 | [] => 0
 | n :: _ => n
noncomputable def Ug (c p aA : Bool) (sign : Str) (name : V) (at_ e : Int) : List V :=
 cond c (cond aA [bO "?" .none (.int at_) at_, name, bO ":" .none (.int e) (e + 1)] ([bO "<block mapping start>" .none (.int at_) at_] ++ [bO "?" .none (.int at_) at_, name, bO ":" .none (.int e) (e + 1)]))
  (cond p ([name] ++ [bO sign .none (.int e) (e + 1)]) [name])
noncomputable def kH (aA : Bool) (sign : Str) (name : V) (at_ e : Int) : List V := Ug (sign == ":") (Txt.contains "?,]}" sign) aA sign name at_ e
noncomputable def Ig (rows : List V) (e w : Int) (l : List Nat) : Option (List V) := l.head?.map fun i => rows ++ [bO "<scalar>" (.str "x") (.int (e + i)) (e + i + w)]
noncomputable def Ue (c d : Bool) (l m : List Nat) (rows : List V) (e : Int) : Option (List V) := cond c (Ig rows e 3 l) (cond d (Ig rows e 1 m) (some rows))
noncomputable def kZ (rows : List V) (rest : Str) (e : Int) : Option (List V) :=
 Ue (Txt.contains rest "'x'") (Txt.contains rest "x") (Builtin.Str.occurrences rest "'x'" 0 rest.length 1) (Builtin.Str.occurrences rest "x" 0 rest.length 1) rows e
noncomputable def Nx (aA c : Bool) (en : Int) (rows : List V) : List V := cond aA (cond c rows (rows ++ [bO "]" .none (.int (en - 2)) (en - 1)])) rows
noncomputable def lD (aA : Bool) (sign : Str) (en : Int) (rows : List V) : List V := Nx aA (Txt.contains "]}" sign) en rows
noncomputable def Cp (q b aA : Bool) (sg : Str) (nm : V) (rest : Str) (at_ e en : Int) : Option (List V) :=
 cond (q && !aA && !b) (some [nm, bO "<scalar>" (.str (sg ++ "x")) (.int e) (e + 2)])
  ((kZ (kH aA sg nm at_ e) rest e).map (lD aA sg en))
noncomputable def Xq (p q r b aA : Bool) (sg : Str) (nm : V) (rest : Str) (at_ e en : Int) : Option (List V) :=
 cond (p || (q && !aA && (r && b))) (some [bO "refused" .none .none e]) (Cp q b aA sg nm rest at_ e en)
noncomputable def nQ (aA : Bool) (sg bh : Str) (nm : V) (rest : Str) (at_ e en : Int) : Option (List V) :=
 Xq (Txt.contains "%@`\t" sg) (Txt.contains ":?" sg) (sg == "?") (Txt.contains bW bh) aA sg nm rest at_ e en
noncomputable def oJ (body : Str) (at_ e : Int) (k : Nat) : V := bO (cond (Txt.item body 0 == "*") "<alias>" "<anchor>") (.str (Txt.slice body (some 1) (some (k + 1)))) (.int at_) e
noncomputable def gZ (aA : Bool) (body : Str) (at_ : Int) (k : Nat) : Option (List V) :=
 cond (k == 0 || (!Txt.contains bW (Txt.item body (k + 1)) && !Txt.contains "?:,]}%@`" (Txt.item body (k + 1)))) (some [bO "refused" .none (.int at_) (at_ + (k + 1))])
  (nQ aA (Txt.item body (k + 1)) (Txt.slice body (some (k + 1 + 1)) (some (k + 1 + 2))) (oJ body at_ (at_ + (k + 1)) k) (Txt.slice body (some (k + 1)) none) at_ (at_ + (k + 1)) (at_ + body.length))
structure LS where
 aP : List Int
 text : Str
 dA : List V
 ends : Int
 sound : Bool
noncomputable def V.txt (v : V) : Option Str := v.sel Option.none (s := some)
noncomputable def V.head (v : V) : Option V := v.sel Option.none (t := List.head?)
noncomputable def jG (rows : List V) : Option Str := (rows.head?.bind V.head).bind V.txt
noncomputable def bV (n : Int) (sign : Str) : Bool := (n % 2 == 1) || kO.any (· == sign)
noncomputable def bR (n m : Int) : Str := Txt.join "" ((List.range (mV.getD (n / 4 % 6).toNat 0)).map fun (k : Nat) => Txt.item fN (m / 64 ^ k % 64))
noncomputable def wG (n m : Int) (sign : Str) : Str := Txt.item "&*" (n / 2 % 2) ++ bR n m ++ sign
noncomputable def qP (n m : Int) (sign : Str) : Str := if pH.any (· == sign) = true then wG n m sign ++ "  " else wG n m sign
noncomputable def vR (n m : Int) (sign : Str) : Str := qP n m sign ++ kL.getD (n / 24 % 3).toNat ""
noncomputable def wD (n m : Int) (sign : Str) : Str := if bV n sign = true /\ kO.any (· == sign) = false then vR n m sign ++ "]" else vR n m sign
noncomputable def eS (n m : Int) (sign : Str) : Str := wD n m sign ++ "\n"
noncomputable def bL (aA : Bool) : Str := if aA = true then "- [" else "- "
noncomputable def kD (body : Str) : Option Nat := span (fun c => fN.cps.toList.contains c) (body.cps.toList.drop 1)
noncomputable def wV (st : LS) (at_ : Int) : List V := (if st.ends = 2 then st.dA ++ [bO "<block end>" .none (.int at_) at_] else st.dA) ++ [bO "-" .none (.int at_) (at_ + 1)]
noncomputable def pF (aA : Bool) (tag : Str) (dA : List V) (at_ : Int) : List V := cond ((tag != "refused") && aA) (dA ++ [bO "[" .none (.int (at_ + 2)) (at_ + 3)]) dA
noncomputable def gX (st : LS) : Bool := bV (aM st.aP) (bD (aM st.aP.tail.tail))
noncomputable def gA (st : LS) : Str := eS (aM st.aP) (aM st.aP.tail) (bD (aM st.aP.tail.tail))
noncomputable def jF (st : LS) (fl : Bool) (bd : Str) (rest : List Int) : Option LS :=
 if st.sound = true then
  (kD bd).bind fun k => (gZ fl bd (st.text.length + (bL fl).length) k).bind fun rows => (jG rows).bind fun tag => some ⟨rest, st.text ++ bL fl ++ bd, pF fl tag (wV st st.text.length) st.text.length ++ rows, if (tag == "<block mapping start>") = true then 2 else 1, tag != "refused"⟩
 else some ⟨rest, st.text ++ bL fl ++ bd, st.dA, st.ends, st.sound⟩
noncomputable def fU (st : LS) : Option LS := jF st (gX st) (gA st) st.aP.tail.tail.tail
noncomputable def qY : Nat -> LS -> Option LS
 | 0, st => some st
 | n + 1, st => (fU st).bind (qY n)
noncomputable def kG (aZ : List Int) : List Int := (aZ.take 10).map (· % 1073741824)
noncomputable def mO (aP : List Int) : LS := ⟨aP, "", [bO "<stream start>" .none (.int 0) 0, bO "<block sequence start>" .none (.int 0) 0], 1, true⟩
noncomputable def dP (first : Int) (st : LS) : Str := if first / 3 % 2 = 1 then Txt.slice st.text none (some (-1)) else st.text
noncomputable def mD (st : LS) (len : Int) : List V := if st.sound = true then st.dA ++ (List.replicate st.ends.toNat [bO "<block end>" .none (.int len) len]).flatten ++ [bO "<stream end>" .none (.int len) len] else st.dA
noncomputable def Ak (aZ : List Int) : Option (Str × List V) :=
 (qY (1 + aM (kG aZ) % 3).toNat (mO (kG aZ).tail)).map fun st => (dP (aM (kG aZ)) st, mD st (dP (aM (kG aZ)) st).length)
noncomputable def uL (C : Addr) : Str :=
 if C = 278 then "<stream start>" else if C = 290 then "<stream end>" else if C = 302 then "<block sequence start>" else if C = 314 then "<block mapping start>" else if C = 326 then "<block end>" else if C = 338 then "[" else if C = 362 then "]" else if C = 374 then "}" else
 if C = 386 then "?" else if C = 398 then ":" else if C = 410 then "-" else if C = 422 then "," else if C = 441 then "<alias>" else if C = 460 then "<anchor>" else if C = 499 then "<scalar>" else ""
noncomputable def bU (v : V) : V := v.sel .none (o := fun C U l => bif C == 53 then (l.drop 1).headD .none else .none)
noncomputable def Wz (ns : List Str) (vs : List V) (n : Str) : V := ((ns.zip vs).find? fun p => decide (p.1 = n)).elim .none (·.2)
noncomputable def dC (v : V) : V := v.sel .none (o := fun C ns vs => .tup [.str (uL C), if C = 441 \/ C = 460 \/ C = 499 then Wz ns vs "value" else .none, bU (Wz ns vs "start_mark"), bU (Wz ns vs "end_mark")])
noncomputable def gR : List V × Option (V × V) -> List V
 | (ts, none) => ts.map dC
 | (ts, some (c, p)) => ts.map dC ++ [.tup [.str "refused", .none, bU c, bU p]]
noncomputable def Zx (aZ : List Int) : Bool :=
 match Ak aZ with
 | none => false
 | some (text, dA) => match kT 1000 1000 (Z.init text.cps.toList) [] with
  | none => false
  | some r => true
end
noncomputable def Qk : List Addr := [290, 302, 314, 326, 338, 362, 374, 386, 398, 410, 422]
structure HD (g : Gl) (C : Addr) : Prop where
 pg : plainGet g.K C "id" = true
 hd : hasDictIn g.K C = true
 fi : ∃ t, findIn g.K (.ref C) "id" = some (some (Value.str (uL C) t)) /\ specialIn g.K (Value.str (uL C) t) "__get__" = some Option.none
structure Vv (g : Gl) (C : Addr) : Prop where
 id : HD g C
 sm : eT g C "start_mark"
 em : eT g C "end_mark"
 i1 : sI g C 441 (C == 441)
 i2 : sI g C 460 (C == 460)
 i3 : sI g C 499 (C == 499)
structure iL (g : Gl) : Prop where
 Ba : pU g 1057 (top 38) [] 0 [] []
 Ap : lV g 1057
 Bh : nsIn g.K mainGlobals "_law_BREAKS" = some (some (.ref 1057))
 Ft : pU g 1064 (top 39) [] 0 [] []
 Gf : lV g 1064
 Fi : nsIn g.K mainGlobals "_law_OFTEN" = some (some (.ref 1064))
 Lz : pU g 1071 (top 40) [] 0 [] []
 Np : lV g 1071
 My : nsIn g.K mainGlobals "_law_WIDE" = some (some (.ref 1071))
 Lb : ∃ qual dV eW, xM g 1078 qual (top 41).args (top 41).body (top 41).scope dV eW /\ ∀ (val : Value) (s : Shared), g.K.In s.heap -> ∀ name kV doc pm an ct, BindsTo s (fnOf name qual (top 41).args (top 41).body (top 41).scope dV kV doc pm an eW ct) ⟨[val], []⟩ [("tape", val)]
 Mn : lV g 1078
 Ll : nsIn g.K mainGlobals "_law_next" = some (some (.ref 1078))
 Jn : pU g 1085 (top 42) ["n"] 1 [] []
 Lk : lV g 1085
 Nb : nsIn g.K mainGlobals "_law_sign" = some (some (.ref 1085))
 Fv : pU g 1092 (top 43) ["flow", "body", "at"] 3 [] []
 Fu : lV g 1092
 Ff : nsIn g.K mainGlobals "_law_entry" = some (some (.ref 1092))
 Jz : pU g 1099 (top 44) ["token"] 1 [] []
 Mx : lV g 1099
 Mq : nsIn g.K mainGlobals "_law_told" = some (some (.ref 1099))
 Di : ∃ t, nsIn g.K mainGlobals "_law_WORD" = some (some (.str fN t))
 zM : ∃ t, nsIn g.K mainGlobals "_law_BLANKS" = some (some (.str bW t))
 tok : ∀ C ∈ 278 :: 441 :: 460 :: 499 :: Qk, Vv g C
 val : ∀ C ∈ ([441, 460, 499] : List Addr), eT g C "value"
 err : ∀ n ∈ ([("context_mark" : Str), "problem_mark"] : List Str), eT g 511 n
inductive iY : V -> Int -> Prop
 | mk (b : Str) (i l c : Int) : iY (iD b i l c) i
inductive eD : V -> Prop
 | tk {C : Addr} {s e : V} {i j : Int} (h : C ∈ Qk) (hs : iY s i) (he : iY e j) : eD (tk C s e)
 | Ge {C : Addr} {s e : V} {i j : Int} {x : Str} (h : C = 441 \/ C = 460) (hs : iY s i) (he : iY e j) : eD (Ge C (.str x) s e)
 | Bj {s e st : V} {i j : Int} {x : Str} {pl : Bool} (hs : iY s i) (he : iY e j) : eD (Bj (.str x) pl s e st)
 | fH {s e en : V} {i j : Int} (hs : iY s i) (he : iY e j) : eD (fH s e en)
section
variable {D : Nat}
theorem EW.next {C : Cx} {X : dW} {loc : aF} {x : Str} {HB pos : Pos} {ts : List Int} (LF : iL g) (hh : C.A.handled = Option.none) (hD : 1 <= D) (KW : C.cs.names.lookup ("_law_next" : Str) = some .globalImplicit) (hx : aB C x)
  (h0 : (x, LV.ml (ts.map V.int)) ∈ loc) (hl : ts.length <= 1000) (u : cK x (.ml (ts.tail.map V.int)) loc aC) (h : Q (.int (aM ts)) aC σ) : EW g D C ρ X (.Call (.Name "_law_next" HB) [.Name x np] [] pos) loc σ Q := by
 refine wZ LF.Lb fun qual dV eW fn hb => ?_;refine EW.Qi (D' := 0) LF.Mn (by omega) fn hb rfl LF.Ll KW rfl hx h0 fun C' GF hA => ?_;have hT : aB C' "tape" := ⟨by show C'.cs.names.lookup ("tape" : Str) = _; rw [GF]; rfl, rfl⟩;refine EW.uC (BW.own hT (.head _) (by rw [List.length_map]; unfold sizeLine; lia) ?_);induction ts with
 | nil => exact ⟨fun h => (by cases h), fun U => EW.int ⟨[], rfl, rfl, aC, u, h⟩⟩
 | cons t ts =>
  refine ⟨fun U => ?_, fun h => (by cases h)⟩;exact EW.Pk hT (.head _) ⟨_, rfl⟩ rfl (EW.int ⟨.int t, ts.map V.int, _, rfl, .head _, by rw [List.length_cons, List.length_map]; simp only [List.length_cons] at hl; unfold sizeLine; lia, .head, ts.map V.int, rfl, rfl, aC, u, h⟩)
theorem Hi (LF : iL g) {X : kP} {Q : jZ} (h : Q (.lst (pH.map V.str)) σ) : FW g 0 ρ X 1057 [] σ Q := by
 refine FW.go LF.Ba [] rfl rfl (by decide) (by decide +kernel) fun C' B => ?_;exact SW.cons (SW.ret (EW.qL rfl (EW.str (EW.str (EW.str (EW.str (EW.str (EW.str ⟨by decide, h⟩))))))))
theorem Ka (LF : iL g) {X : kP} {Q : jZ} (h : Q (.lst (Cw.map V.str)) σ) : FW g 0 ρ X 1064 [] σ Q := by
 refine FW.go LF.Ft [] rfl rfl (by decide) (by decide +kernel) fun C' B => ?_;refine SW.cons ?_;refine SW.ret ?_;refine EW.qL ?a ?b
 case b =>
  refine EW.str (EW.str (EW.str (EW.str ?_)));refine EW.str (EW.str (EW.str (EW.str ?_)));refine EW.str (EW.str (EW.str (EW.str ?_)));refine EW.str (EW.str (EW.str (EW.str ?_)));exact EW.str ⟨(by decide : (17 : Nat) <= sizeLine), h⟩
 case a => exact rfl
theorem Rj (LF : iL g) {X : kP} {Q : jZ} (h : Q (.lst (Jt.map V.str)) σ) : FW g 0 ρ X 1071 [] σ Q := by
 refine FW.go LF.Lz [] rfl rfl (by decide) (by decide +kernel) fun C' B => ?_;exact SW.cons (SW.ret (EW.qL rfl (EW.str (EW.str (EW.str (EW.str ⟨by decide, h⟩))))))
theorem qK {l : List Str} {i : Nat} (h : i < l.length) : (l.map V.str)[i]? = some (V.str (l.getD i "")) := by
 rw [List.getElem?_map, List.getD_eq_getElem?_getD, List.getElem?_eq_getElem h]; rfl
theorem Ru (F : aE g) (LF : iL g) {n : Int} (h0 : 0 <= n) {X : kP} {Q : jZ} (h : Q (.str (bD n)) σ) : FW g 1 ρ X 1085 [.int n] σ Q := by
 refine FW.go LF.Jn ["kind"] rfl rfl (by decide) (by decide +kernel) fun C' B => ?_;have hn : aB C' "n" := B.loc rfl rfl;have hk : aB C' "kind" := B.loc rfl rfl;refine SW.cons (SW.Fj B.hh hk hn rfl (by show swappedStores _ _ (envX C'.cn C'.cs C'.L C'.a C'.Bu C'.cl) = _; rw [B.cs]; rfl) ?_);refine EW.tup rfl (EW.fmod (EW.var hn (.head _) (EW.int ⟨_, _, rfl, rfl, by decide, by decide, ?_⟩)));refine EW.fdiv (EW.var hn (.head _) (EW.int ⟨_, _, rfl, rfl, by decide, by decide, (by decide : (2 : Nat) <= sizeLine), _, _, rfl, _, _, .head, .cH 1 rfl rfl, ?_⟩));unfold bD at h;have b0 : 0 <= n / 3 := Int.ediv_nonneg h0 (by decide);refine SW.cons (SW.nN (BW.bC rfl (EW.var hk (aO 1 rfl) (EW.int ⟨fun hb => ?_, fun hb => SW.nil ?_⟩))))
 ·rw [if_pos (of_decide_eq_true hb)] at h;have c0 : 0 <= n / 3 % 17 := Int.emod_nonneg _ (by decide);have c1 : n / 3 % 17 < 17 := Int.emod_lt_of_pos _ (by decide);refine SW.cons (SW.ret (EW.item (fun U U U => rfl) (EW.lB (D' := 0) B.hh LF.Gf (by decide) rfl (EW.glob LF.Fi (B.glob rfl) rfl ⟨rfl, Ka LF ?_⟩))));refine EW.fmod (EW.var hn (.head _) (EW.int ⟨_, _, rfl, rfl, by decide, by decide, _, (n / 3 % 17).toNat, _, .inl rfl, by rw [Int.toNat_of_nonneg c0], qK (Gx _ 17 (by decide)), by lia, ?_⟩));exact h
 ·rw [if_neg (of_decide_eq_false hb)] at h;refine SW.cons (SW.ret (EW.uC (BW.bC rfl (EW.fmod (EW.fdiv (EW.var hn (.head _) (EW.int ⟨_, _, rfl, rfl, by decide, by decide, EW.int ⟨_, _, rfl, rfl, by decide, by decide, EW.int ⟨fun hb => ?_, fun hb => ?_⟩⟩⟩)))))))
  ·have e : n / 3 / 95 % 8 = 7 := by simpa using hb
   rw [if_pos e] at h;have c0 : 0 <= n / 3 % 4 := Int.emod_nonneg _ (by decide);have c1 : n / 3 % 4 < 4 := Int.emod_lt_of_pos _ (by decide);refine EW.item (fun U U U => rfl) (EW.lB (D' := 0) B.hh LF.Np (by decide) rfl (EW.glob LF.My (B.glob rfl) rfl ⟨rfl, Rj LF ?_⟩));refine EW.fmod (EW.var hn (.head _) (EW.int ⟨_, _, rfl, rfl, by decide, by decide, _, (n / 3 % 4).toNat, _, .inl rfl, by rw [Int.toNat_of_nonneg c0], qK (Gx _ 4 (by decide)), by lia, ?_⟩));exact h
  ·have e : ¬ n / 3 / 95 % 8 = 7 := by simpa using hb
   rw [if_neg e] at h;have c0 : 0 <= n / 3 % 95 := Int.emod_nonneg _ (by decide);have c1 : n / 3 % 95 < 95 := Int.emod_lt_of_pos _ (by decide);refine EW.chr rfl (EW.builtin (F.n 6 rfl) rfl (by decide) (B.glob rfl) rfl ⟨rfl, EW.add (EW.int (EW.fmod (EW.var hn (.head _) (EW.int ⟨_, _, rfl, rfl, by decide, by decide, _, _, rfl, rfl, (32 + n / 3 % 95).toNat, by rw [Int.toNat_of_nonneg (by lia)], by lia, ?_⟩))))⟩);exact h
end
section
variable {D : Nat}
theorem iY.inst {m : V} (h : iY m i) : ∃ us, m = .inst 53 ["name", "index", "line", "column", "buffer", "pointer"] us /\ (("index" : Str), V.int i) ∈ (["name", "index", "line", "column", "buffer", "pointer"] : List Str).zip us := by
 induction h
 exact (eO _ rfl (.tail _ (.head _)))
theorem EW.bU {C : Cx} {X : dW} {loc : aF} {x mn : Str} {p1 p2 : Pos} {ns : List Str} {us : List V} {mv : V} (F : aE g) (hx : aB C x) (h0 : (x, LV.val (.inst Cl ns us)) ∈ loc) (ha : eT g Cl mn) (hn : ns.Nodup) (hm : (mn, mv) ∈ ns.zip us) (hk : iY mv i) (h : Q (.int i) loc σ) :
  EW g D C ρ X (.Attribute (.Attribute (.Name x np) mn p1) "index" p2) loc σ Q := by
 refine aR hk.inst fun RP cN hi => ?_;subst cN;refine EW.kU rfl (EW.kU rfl (EW.var hx h0 ⟨Cl, ns, us, _, rfl, ha, hn, hm, rfl, 53, _, RP, .int i, rfl, F.Nn, by decide +kernel, hi, rfl, h⟩))
theorem lY (F : aE g) (LF : iL g) {ns : List Str} {us : List V} {sm em vv : V} {x : Str} (tf : Vv g Cl) (hn : ns.Nodup) (SJ : ("id" : Str) ∉ ns) (h1 : (("start_mark" : Str), sm) ∈ ns.zip us) (h2 : (("end_mark" : Str), em) ∈ ns.zip us) (k1 : iY sm i) (k2 : iY em j)
  (hv : (Cl == 441 || Cl == 460 || Cl == 499) = true -> (("value" : Str), V.str x) ∈ ns.zip us /\ eT g Cl "value" /\ vv = .str x) (uK : (Cl == 441 || Cl == 460 || Cl == 499) = false -> vv = .none) {X : kP} {Q : jZ}
  (h : Q (.tup [.str (uL Cl), vv, .int i, .int j]) σ) : FW g 0 ρ X 1099 [.inst Cl ns us] σ Q := by
 refine FW.go LF.Jz ["value"] rfl rfl (by decide) (by decide +kernel) fun C' B => ?_;have hT : aB C' "token" := B.loc rfl rfl;refine SW.cons (SW.assign rfl (B.loc (x := "value") rfl rfl).1 (EW.none ⟨_, .tail .head, ?_⟩));have fin : SW g 0 C' ρ (fun x U s => X x s) ((top 44).body.drop 2) [("token", .val (.inst Cl ns us)), ("value", .val vv)] σ (eC Q) := by
  refine SW.cons ?_;refine SW.ret ?_;refine EW.tup rfl ?_;refine aR tf.id.fi fun t e1 e2 => ?_;refine EW.Rq rfl (EW.var hT (.head _) (KO Cl ns us (uL Cl) t rfl tf.id.pg tf.id.hd e1 e2 rfl SJ ?_));refine EW.var (B.loc rfl rfl) (.tail _ (.head _)) ?_;refine EW.bU F hT (.head _) tf.sm hn h1 k1 ?_;refine EW.bU F hT (.head _) tf.em hn h2 k2 ?_;exact ⟨(by decide : (4 : Nat) <= sizeLine), h⟩
 have yes : (Cl == 441 || Cl == 460 || Cl == 499) = true -> SW g 0 C' ρ (fun x U s => X x s) (qZ (top 44).body 1 0) [("token", .val (.inst Cl ns us)), ("value", .val .none)] σ (lO g 0 C' ρ (fun x U s => X x s) ((top 44).body.drop 2) (eC Q)) := fun hb => by
  refine qA (hv hb) fun e1 e2 cN => ?_;subst cN;exact SW.cons (SW.assign rfl (B.loc (x := "value") rfl rfl).1 (EW.kU rfl (EW.var hT (.head _) ⟨Cl, ns, us, _, rfl, e2, hn, e1, rfl, _, .tail .head, SW.nil fin⟩)))
 refine SW.cons (SW.nN ?_);refine BW.yT (BW.val (fun U => rfl) (EW.KN rfl (EW.builtin (F.n 3 rfl) rfl (by decide) (B.glob rfl) rfl ⟨rfl, EW.var hT (.head _) (EW.glob (F.gl 14 rfl) (B.glob rfl) rfl ⟨Cl, 441, ns, us, _, rfl, tf.i1, ?_⟩)⟩)));cases e1 : (Cl == 441) with
 | true => exact ⟨fun U => ⟨fun U => yes (by rw [e1]; rfl), fun h => by cases h⟩, fun h => by cases h⟩
 | false =>
 refine ⟨fun h => (by cases h), fun U => ?_⟩;refine BW.yT (BW.val (fun U => rfl) (EW.KN rfl (EW.builtin (F.n 3 rfl) rfl (by decide) (B.glob rfl) rfl ⟨rfl, EW.var hT (.head _) (EW.glob (F.gl 15 rfl) (B.glob rfl) rfl ⟨Cl, 460, ns, us, _, rfl, tf.i2, ?_⟩)⟩)));cases e2 : (Cl == 460) with
 | true => exact ⟨fun U => ⟨fun U => yes (by rw [e1, e2]; rfl), fun h => by cases h⟩, fun h => by cases h⟩
 | false =>
 refine ⟨fun h => (by cases h), fun U => ?_⟩;refine BW.Ie (BW.val (fun U => rfl) (EW.KN rfl (EW.builtin (F.n 3 rfl) rfl (by decide) (B.glob rfl) rfl ⟨rfl, EW.var hT (.head _) (EW.glob (F.gl 16 rfl) (B.glob rfl) rfl ⟨Cl, 499, ns, us, _, rfl, tf.i3, ?_⟩)⟩)));cases e3 : (Cl == 499) with
 | true => exact ⟨fun U => yes (by rw [e1, e2, e3]; rfl), fun h => by cases h⟩
 | false =>
 refine ⟨fun h => (by cases h), fun U => SW.nil ?_⟩;have := uK (by rw [e1, e2, e3]; rfl);subst this;exact fin
theorem Qp (F : aE g) (LF : iL g) {t : V} (ht : eD t) {X : kP} {Q : jZ} (h : Q (dC t) σ) : FW g 0 ρ X 1099 [t] σ Q := by
 induction ht with
 | @tk C s e i j hC hs he =>
  have hk : (C == 441 || C == 460 || C == 499) = false := by
   simp only [Qk, List.mem_cons, List.not_mem_nil, or_false] at hC
   rcases hC with rfl | rfl | rfl | rfl | rfl | rfl | rfl | rfl | rfl | rfl | rfl <;> rfl
  refine lY (x := "") (vv := .none) F LF (LF.tok C (.tail _ (.tail _ (.tail _ (.tail _ hC))))) (by decide) (by decide) (.head _) (.tail _ (.head _)) hs he (fun h => by rw [hk] at h; cases h) (fun U => rfl) ?_;have e1 : dC (Internal.tk C s e) = .tup [.str (uL C), .none, bU s, bU e] := by
   simp only [Qk, List.mem_cons, List.not_mem_nil, or_false] at hC
   rcases hC with rfl | rfl | rfl | rfl | rfl | rfl | rfl | rfl | rfl | rfl | rfl <;> rfl
  rw [e1] at h;induction hs; induction he; exact h
 | @Ge C s e i j x hC hs he =>
  rcases hC with rfl | rfl
  ·refine lY (x := x) (vv := .str x) F LF (LF.tok 441 (.tail _ (.head _))) (by decide) (by decide) (.tail _ (.head _)) (.tail _ (.tail _ (.head _))) hs he (fun U => (fL (.head _) (LF.val _ (.head _)) rfl)) (fun h => by cases h) ?_;induction hs; induction he; exact h
  ·refine lY (x := x) (vv := .str x) F LF (LF.tok 460 (.tail _ (.tail _ (.head _)))) (by decide) (by decide) (.tail _ (.head _)) (.tail _ (.tail _ (.head _))) hs he (fun U => (fL (.head _) (LF.val _ (.tail _ (.head _))) rfl)) (fun h => by cases h) ?_;induction hs; induction he; exact h
 | @Bj s e st i j x pl hs he =>
  refine lY (x := x) (vv := .str x) F LF (LF.tok 499 (.tail _ (.tail _ (.tail _ (.head _))))) (by decide) (by decide) (.tail _ (.tail _ (.head _))) (.tail _ (.tail _ (.tail _ (.head _)))) hs he (fun U => (fL (.head _) (LF.val _ (.tail _ (.tail _ (.head _)))) rfl)) (fun h => by cases h) ?_;induction hs; induction he; exact h
 | @fH s e en i j hs he =>
  refine lY (x := "") (vv := .none) F LF (LF.tok 278 (.head _)) (by decide) (by decide) (.head _) (.tail _ (.head _)) hs he (fun h => by cases h) (fun U => rfl) ?_;induction hs; induction he; exact h
end
noncomputable abbrev yD (aA : Bool) (body : Str) (at_ : Int) (e sign behind bare name rows rest place : LV) : aF := [("flow", .val (.bool aA)), ("body", .val (.str body)), ("at", .val (.int at_)), ("end", e), ("sign", sign), ("behind", behind), ("bare", bare), ("name", name), ("rows", rows), ("rest", rest), ("place", place)]
theorem Hy {x : Str} {k c : Nat} (h : x.cps.toList[k]? = some c) : fitsSsize (k : Int) = true \/ 2 ^ 62 <= k := by
 by_cases hk : k < 2 ^ 62
 ·left
  unfold fitsSsize;have h1 : ¬ ((k : Int) < -2 ^ 63) := by omega
  have h2 : ¬ ((k : Int) ≥ 2 ^ 63) := by omega
  simp only [h1, h2, decide_false, Bool.or_self, Bool.not_false]
 ·exact .inr (by omega)
theorem rV {x : Str} {k c : Nat} (h : x.cps.toList[k]? = some c) : Txt.item x (k : Int) = ⟨#[c]⟩ := by
 have hk : k < x.length := (List.getElem?_eq_some_iff.mp h).1;rw [item_meets ⟨by omega, by omega⟩, Int.toNat_natCast, Array.getD_eq_getD_getElem?, ← Array.getElem?_toList, h]
 rfl
theorem Ui {n : Nat} (h : 0 <= i) : -(n : Int) <= i := by omega
noncomputable def yM (P : List V -> Prop) : Option (List V) -> Prop
 | some r => P r
 | none => False
theorem yM.pos {P : List V -> Prop} {c : Bool} {x y : Option (List V)} (e : c = true) (h : yM P (cond c x y)) : yM P x := by
 subst e; exact h
theorem yM.neg {P : List V -> Prop} {c : Bool} {x y : Option (List V)} (e : c = false) (h : yM P (cond c x y)) : yM P y := by
 subst e; exact h
inductive PS (aA : Bool) (body : Str) (at_ : Int) (n : Nat) (σ : bQ) (m : Nat) (l : aF) (s : bQ) : Prop
 | mk (k : Nat) (hk : k + m = n) (el : l = yD aA body at_ (.val (.int ((k : Int) + 1))) .un .un .un .un .un .un .un) (es : s = σ) (sp : span (fun c => fN.cps.toList.contains c) ((body.cps.toList.drop 1).drop k) = some m)
section
variable {g : Gl} {D : Nat} {ρ : bZ}
section
variable {C : Cx} {X : dW} {aA : Bool} {body : Str} {at_ : Int} {e sign behind bare name rows rest place : LV}
theorem EW.atEnd {k : Int} {p1 p2 : Pos} (B : Bd C (top 43)) (h : Q (.int (at_ + k)) (yD aA body at_ (.val (.int k)) sign behind bare name rows rest place) σ) :
  EW g D C ρ X (.BinOp (.Name "at" p1) .Add (.Name "end" p2) p3) (yD aA body at_ (.val (.int k)) sign behind bare name rows rest place) σ Q :=
 EW.add (EW.lv B 2 rfl rfl rfl (EW.lv B 3 rfl rfl rfl ⟨_, _, rfl, rfl, h⟩))
theorem EW.row {tag : Str} {val s : V} {kk : Nat} {pos : Pos} {e1 e2 e3 e4 : Expr} {loc : aF} (hs : aH pos [e1, e2, e3, e4] C.env) (h : AW g D C ρ X [e1, e2, e3, e4] loc σ (fun vs l s' => vs = [.str tag, val, s, .int j] /\ Q (bO tag val s j) l s')) : EW g D C ρ X (.Tuple [e1, e2, e3, e4] kk pos) loc σ Q := by
 refine EW.tup hs (AW.mono h fun vs l s' q => ?_);obtain ⟨rfl, q⟩ := q;exact ⟨(by decide : (4 : Nat) <= sizeLine), q⟩
end
section
variable {C : Cx} {X : kP} {Q : jZ} {aA bv : Bool} {body sg bh rs : Str} {at_ e : Int} {s : bQ} {rows : List V} {pl : LV} {nm : V}
theorem HR (B : Bd C (top 43)) (h : Q (.lst rows) s) : SW g 1 C ρ (fun x U s => X x s) ((top 43).body.drop 13) (yD aA body at_ (.val (.int e)) (.val (.str sg)) (.val (.str bh)) (.val (.bool bv)) (.val nm) (.ml rows) (.val (.str rs)) pl) s (eC Q) :=
 SW.cons (SW.ret (EW.freeze (B.loc (x := "rows") rfl rfl) (aO 8 rfl) (by exact .cH 8 rfl rfl) h))
theorem Ly (F : aE g) (B : Bd C (top 43)) (hz : body.length <= sizeLine) {X : dW} {loc : aF} {p1 p2 : Pos} {Q : nG} (hm : jW loc 1 = some (("body" : Str), LV.val (.str body))) (hq : Q (.int body.length) loc s) : EW g 1 C ρ X (.Call (.Name "len" p1) [.Name "body" p2] [] p3) loc s Q :=
 EW.len rfl (EW.builtin (F.n 0 rfl) rfl (by decide) (B.glob rfl) rfl ⟨rfl, EW.lv B 1 rfl rfl hm ⟨hz, hq⟩⟩)
theorem LX (F : aE g) (B : Bd C (top 43)) (hz : body.length <= sizeLine) (hl : rows.length <= 10) (h : Q (.lst (lD aA sg (at_ + body.length) rows)) s) : SW g 1 C ρ (fun x U s => X x s) ((top 43).body.drop 12) (yD aA body at_ (.val (.int e)) (.val (.str sg)) (.val (.str bh)) (.val (.bool bv)) (.val nm) (.ml rows) (.val (.str rs)) pl) s (eC Q) := by
 refine SW.cons (SW.nN (BW.jH (BW.val (fun U => rfl) (EW.lv B 0 rfl rfl rfl ?_))));induction aA with
 | false => exact .p1 (.p2 (SW.nil (HR B h)))
 | true =>
 refine .p2 (BW.oY (BW.bC rfl (EW.lv B 4 rfl rfl rfl (EW.str ?_))));show yJ g 1 C ρ _ _ _ _ (!Txt.contains "]}" sg) _ _;revert h;show Q (.lst (Nx true (Txt.contains "]}" sg) _ _)) _ -> _;cases Txt.contains "]}" sg with
 | true => exact fun h => .p2 (SW.nil (HR B h))
 | false =>
  intro h;refine .p1 ?_;refine SW.cons (SW.expr (B.int rfl) rfl (EW.dZ (B.loc (x := "rows") rfl rfl) (aO 8 rfl) ⟨_, rfl⟩ rfl (EW.row (tag := "]") (val := .none) (s := .int (at_ + body.length - 2)) (j := at_ + body.length - 1) rfl (EW.str (EW.none ?_)))));refine EW.sub (EW.add (EW.lv B 2 rfl rfl rfl (Ly F B hz rfl ⟨_, _, rfl, rfl, EW.int ⟨_, _, rfl, rfl, ?_⟩⟩)));refine EW.sub (EW.add (EW.lv B 2 rfl rfl rfl (Ly F B hz rfl ⟨_, _, rfl, rfl, EW.int ⟨_, _, rfl, rfl, rfl, _, _, aO 8 rfl, Nat.le_trans hl (by decide), (by exact .cH 8 rfl rfl), rfl, SW.nil ?_⟩⟩)));exact HR B h
theorem Lh (F : aE g) (B : Bd C (top 43)) (hz : body.length <= sizeLine) {pat : Str} {w : Int} {i : Nat} {r : List Nat} (ho : Builtin.Str.occurrences rs pat 0 rs.length 1 = i :: r) (hl : rows.length <= 6) (h : Q (.lst (lD aA sg (at_ + body.length) (rows ++ [bO "<scalar>" (.str "x") (.int (at_ + e + i)) (at_ + e + i + w)]))) s)
  {k1 k2 k3 : Nat} {q0 q1 q2 q3 q4 q5 q6 q7 q8 q9 MT MC OA NZ OO MX MH LN HP MK : Pos} {Qx : dD}
  (nx : ∀ pl, SW g 1 C ρ (fun x U s => X x s) ((top 43).body.drop 12) (yD aA body at_ (.val (.int e)) (.val (.str sg)) (.val (.str bh)) (.val (.bool bv)) (.val nm) (.ml (rows ++ [bO "<scalar>" (.str "x") (.int (at_ + e + i)) (at_ + e + i + w)])) (.val (.str rs)) pl) s (eC Q) -> Qx Fl.next (yD aA body at_ (.val (.int e)) (.val (.str sg)) (.val (.str bh)) (.val (.bool bv)) (.val nm) (.ml (rows ++ [bO "<scalar>" (.str "x") (.int (at_ + e + i)) (at_ + e + i + w)])) (.val (.str rs)) pl) s)
  (RW : bS (.Name "rest" q5) "index" q6 q8 [.Constant (.str pat) k1 q7] C.env) (Qh : bS (.Name "rows" MT) "append" MC HP [.Tuple [.Constant (.str "<scalar>") k2 OA, .Constant (.str "x") k3 NZ, .Name "place" OO, .BinOp (.Name "place" MX) .Add (.Constant (.int w) 0 MH) LN] 0 MK] C.env) :
  SW g 1 C ρ (fun x U s => X x s) [.Assign [.Name "place" q0] (.BinOp (.BinOp (.Name "at" q1) .Add (.Name "end" q2) q3) .Add (.Call (.Attribute (.Name "rest" q5) "index" q6) [.Constant (.str pat) k1 q7] [] q8) q9) q4, .Expr (.Call (.Attribute (.Name "rows" MT) "append" MC) [.Tuple [.Constant (.str "<scalar>") k2 OA, .Constant (.str "x") k3 NZ, .Name "place" OO, .BinOp (.Name "place" MX) .Add (.Constant (.int w) 0 MH) LN] 0 MK] [] HP) HP] (yD aA body at_ (.val (.int e)) (.val (.str sg)) (.val (.str bh)) (.val (.bool bv)) (.val nm) (.ml rows) (.val (.str rs)) .un) s Qx := by
 refine SW.cons (SW.assign rfl (B.loc (x := "place") rfl rfl).1 (EW.add (EW.atEnd B (EW.idx RW rfl (EW.lv B 9 rfl rfl rfl ⟨rs, rfl, EW.str ⟨pat, i, r, rfl, ho, _, _, rfl, rfl, _, .cH 10 rfl rfl, ?_⟩⟩)))));refine SW.cons (SW.expr (B.int rfl) rfl (EW.dZ (B.loc (x := "rows") rfl rfl) (aO 8 rfl) Qh rfl (EW.row rfl (EW.str (EW.str (EW.lv B 10 rfl rfl rfl (EW.add (EW.lv B 10 rfl rfl rfl (EW.int ⟨_, _, rfl, rfl, rfl, _, _, aO 8 rfl, Nat.le_trans hl (by decide), .cH 8 rfl rfl, rfl, SW.nil ?_⟩)))))))));exact nx _ (LX F B hz (by rw [List.length_append]; exact Nat.le_trans (Nat.succ_le_succ hl) (by decide)) h)
theorem FC (F : aE g) (B : Bd C (top 43)) (hz : body.length <= sizeLine) (hl : rows.length <= 6) (h : yM (fun r => Q (.lst (lD aA sg (at_ + body.length) r)) s) (kZ rows (Txt.slice body (some e) none) (at_ + e))) : SW g 1 C ρ (fun x U s => X x s) ((top 43).body.drop 10) (yD aA body at_ (.val (.int e)) (.val (.str sg)) (.val (.str bh)) (.val (.bool bv)) (.val nm) (.ml rows) .un .un) s (eC Q) := by
 refine SW.cons (SW.assign rfl (B.loc (x := "rest") rfl rfl).1 (EW.sliceFrom (fun U U U => rfl) (fun U U U => rfl) (EW.lv B 1 rfl rfl rfl (EW.lv B 3 rfl rfl rfl ⟨body, _, rfl, rfl, hz, _, .cH 9 rfl rfl, ?_⟩))));revert h;generalize Txt.slice body (some e) none = rs;show yM _ (Ue (Txt.contains rs "'x'") (Txt.contains rs "x") _ _ _ _) -> _;intro h;refine SW.cons (SW.nN (BW.bC rfl (EW.str (EW.lv B 9 rfl rfl rfl ?_))));show yJ g 1 C ρ _ _ _ _ (Txt.contains rs "'x'") _ _;revert h;cases Txt.contains rs "'x'" with
 | true =>
  cases ho : Builtin.Str.occurrences rs "'x'" 0 rs.length 1 with
  | nil => exact fun h => h.elim
  | cons i r => exact fun h => .p1 (Lh (w := 3) F B hz ho hl h (fun U hx => hx) ⟨_, rfl⟩ ⟨_, rfl⟩)
 | false =>
 intro h;refine .p2 (SW.cons (SW.nN (BW.bC rfl (EW.str (EW.lv B 9 rfl rfl rfl ?_)))));show yJ g 1 C ρ _ _ _ _ (Txt.contains rs "x") _ _;revert h;cases Txt.contains rs "x" with
 | true =>
  cases ho : Builtin.Str.occurrences rs "x" 0 rs.length 1 with
  | nil => exact fun h => h.elim
  | cons i r => exact fun h => .p1 (Lh (w := 1) F B hz ho hl h (fun U hx => SW.nil hx) ⟨_, rfl⟩ ⟨_, rfl⟩)
 | false => exact fun h => .p2 (SW.nil (SW.nil (LX F B hz (Nat.le_trans hl (by decide)) h)))
theorem QZ (F : aE g) (B : Bd C (top 43)) (hz : body.length <= sizeLine) (h : yM (fun r => Q (.lst (lD aA sg (at_ + body.length) r)) s) (kZ (kH aA sg nm at_ (at_ + e)) (Txt.slice body (some e) none) (at_ + e))) : SW g 1 C ρ (fun x U s => X x s) ((top 43).body.drop 8) (yD aA body at_ (.val (.int e)) (.val (.str sg)) (.val (.str bh)) (.val (.bool bv)) (.val nm) .un .un .un) s (eC Q) := by
 refine SW.cons (SW.dU (B.loc (x := "rows") rfl rfl) rfl (EW.lv B 7 rfl rfl rfl ⟨(by decide : (1 : Nat) <= sizeLine), _, .cH 8 rfl rfl, ?_⟩));refine SW.cons (SW.nN (BW.bC rfl (EW.lv B 4 rfl rfl rfl (EW.str ?_))));show yJ g 1 C ρ _ _ _ _ (sg == ":") _ _;revert h;show yM _ (kZ (Ug (sg == ":") (Txt.contains "?,]}" sg) _ _ _ _ _) _ _) -> _;cases sg == (":" : Str) with
 | true =>
  intro h;refine .p1 (SW.cons (SW.dU (B.loc (x := "rows") rfl rfl) rfl ?_));refine EW.row (tag := "?") (val := .none) (s := .int at_) (j := at_) rfl (EW.str (EW.none (EW.lv B 2 rfl rfl rfl (EW.lv B 2 rfl rfl rfl ⟨rfl, ?_⟩))));refine EW.lv B 7 rfl rfl rfl (EW.row (tag := ":") (val := .none) (s := .int (at_ + e)) (j := at_ + e + 1) rfl (EW.str (EW.none (EW.atEnd B (EW.add (EW.atEnd B (EW.int ⟨_, _, rfl, rfl, rfl, (by decide : (3 : Nat) <= sizeLine), _, .cH 8 rfl rfl, ?_⟩)))))));refine SW.cons (SW.nN (BW.not (BW.val (fun U => rfl) (EW.lv B 0 rfl rfl rfl ?_))));induction aA with
  | true => exact .p2 (SW.nil (SW.nil (FC F B hz (Nat.le_of_ble_eq_true rfl) h)))
  | false =>
   refine .p1 (SW.cons (SW.nC (B.loc (x := "rows") rfl rfl) rfl (EL.Zy (EW.qL rfl (EW.row (tag := "<block mapping start>") (val := .none) (s := .int at_) (j := at_) rfl (EW.str (EW.none (EW.lv B 2 rfl rfl rfl (EW.lv B 2 rfl rfl rfl ⟨rfl, (by decide : (1 : Nat) <= sizeLine), _, rfl, ?_⟩)))))))));exact EL.own (B.loc (x := "rows") rfl rfl) (aO 8 rfl) ⟨rfl, (by decide : (1 + 3 : Nat) <= sizeLine), _, .cH 8 rfl rfl, SW.nil (SW.nil (FC F B hz (Nat.le_of_ble_eq_true rfl) h))⟩
 | false =>
 intro h;refine .p2 (SW.cons (SW.nN (BW.bC rfl (EW.lv B 4 rfl rfl rfl (EW.str ?_)))));show yJ g 1 C ρ _ _ _ _ (Txt.contains "?,]}" sg) _ _;revert h;cases Txt.contains "?,]}" sg with
 | true =>
  intro h;refine .p1 (SW.cons (SW.expr (B.int rfl) rfl (EW.dZ (B.loc (x := "rows") rfl rfl) (aO 8 rfl) ⟨_, rfl⟩ rfl (EW.row (tag := sg) (val := .none) (s := .int (at_ + e)) (j := at_ + e + 1) rfl (EW.lv B 4 rfl rfl rfl (EW.none (EW.atEnd B (EW.add (EW.atEnd B (EW.int ⟨_, _, rfl, rfl, rfl, _, _, aO 8 rfl, (by decide : (1 : Nat) <= sizeLine), .cH 8 rfl rfl, rfl, SW.nil (SW.nil ?_)⟩))))))))));exact FC F B hz (Nat.le_of_ble_eq_true rfl) h
 | false => exact fun h => .p2 (SW.nil (SW.nil (FC F B hz (Nat.le_of_ble_eq_true rfl) h)))
theorem QH (F : aE g) (B : Bd C (top 43)) {tB : Tok} (gB : nsIn g.K mainGlobals "_law_BLANKS" = some (some (.str bW tB))) (hz : body.length <= sizeLine) (hs : sg.length = 1) (Qn : bv = (Txt.contains ":?" sg && !aA)) (h : yM (fun r => Q (.lst r) s) (Cp (Txt.contains ":?" sg) (Txt.contains bW bh) aA sg nm (Txt.slice body (some e) none) at_ (at_ + e) (at_ + body.length))) : SW g 1 C ρ (fun x U s => X x s) ((top 43).body.drop 7) (yD aA body at_ (.val (.int e)) (.val (.str sg)) (.val (.str bh)) (.val (.bool bv)) (.val nm) .un .un .un) s (eC Q) := by
 have go : yM (fun r => Q (.lst r) s) ((kZ (kH aA sg nm at_ (at_ + e)) (Txt.slice body (some e) none) (at_ + e)).map (lD aA sg (at_ + body.length))) -> SW g 1 C ρ (fun x U s => X x s) ((top 43).body.drop 8) (yD aA body at_ (.val (.int e)) (.val (.str sg)) (.val (.str bh)) (.val (.bool bv)) (.val nm) .un .un .un) s (eC Q) := fun h => by
  refine QZ F B hz ?_;revert h;cases kZ (kH aA sg nm at_ (at_ + e)) (Txt.slice body (some e) none) (at_ + e) with
  | none => exact fun h => h
  | some r => exact fun h => h
 refine SW.cons (SW.nN (BW.jH (BW.val (fun U => rfl) (EW.lv B 6 rfl rfl rfl ?_))));revert h;show yM _ (cond ((Txt.contains ":?" sg && !aA) && !Txt.contains bW bh) _ _) -> _;rw [← Qn];induction bv with
 | false => exact fun h => .p1 (.p2 (SW.nil (go (h.neg rfl))))
 | true =>
 intro h;refine .p2 (BW.oY (BW.bC rfl (EW.lv B 5 rfl rfl rfl (EW.rP gB (B.glob rfl) rfl ?_))));show yJ g 1 C ρ _ _ _ _ (!Txt.contains bW bh) _ _;revert h;cases Txt.contains bW bh with
 | true => exact fun h => .p2 (SW.nil (go (h.neg rfl)))
 | false =>
  intro h;refine .p1 (SW.cons (SW.ret (EW.qL rfl (EW.lv B 7 rfl rfl rfl (EW.row (tag := "<scalar>") (val := .str (sg ++ "x")) (s := .int (at_ + e)) (j := at_ + e + 2) rfl (EW.str (EW.tA (EW.lv B 4 rfl rfl rfl (EW.str ⟨_, _, rfl, rfl, by rw [hs]; decide, ?_⟩)))))))));exact EW.atEnd B (EW.add (EW.atEnd B (EW.int ⟨_, _, rfl, rfl, rfl, (by decide : (2 : Nat) <= sizeLine), h.pos rfl⟩)))
theorem SE (F : aE g) (B : Bd C (top 43)) {tB : Tok} (gB : nsIn g.K mainGlobals "_law_BLANKS" = some (some (.str bW tB))) (hz : body.length <= sizeLine) (h1 : 1 <= body.length) {k : Nat} (hk : e = (k : Int) + 1) (hs : sg.length = 1) (Qn : bv = (Txt.contains ":?" sg && !aA)) (h : yM (fun r => Q (.lst r) s) (Cp (Txt.contains ":?" sg) (Txt.contains bW bh) aA sg (oJ body at_ (at_ + e) k) (Txt.slice body (some e) none) at_ (at_ + e) (at_ + body.length))) : SW g 1 C ρ (fun x U s => X x s) ((top 43).body.drop 6) (yD aA body at_ (.val (.int e)) (.val (.str sg)) (.val (.str bh)) (.val (.bool bv)) .un .un .un .un) s (eC Q) := by
 refine SW.cons (SW.assign rfl (B.loc (x := "name") rfl rfl).1 (EW.row (tag := cond (Txt.item body 0 == "*") "<alias>" "<anchor>") (val := .str (Txt.slice body (some 1) (some e))) (s := .int at_) (j := at_ + e) rfl ?_));refine EW.uC (BW.bC rfl (EW.kE (fun U U U U => rfl) (fun U U U => rfl) (EW.lv B 1 rfl rfl rfl (EW.int (zS body 0 rfl rfl (by decide) (Ui (Int.le_refl 0)) (Int.ofNat_lt.mpr h1) (EW.str ?_))))));show Wt g 1 C ρ _ _ _ _ (Txt.item body 0 == "*") _ _;have fin : ∀ tg : Str, bO tg (.str (Txt.slice body (some 1) (some e))) (.int at_) (at_ + e) = oJ body at_ (at_ + e) k -> AW g 1 C ρ (fun x U s => X x s) ((Yq (Bc ((top 43).body.getD 6 (.Pass default)))).drop 1) (yD aA body at_ (.val (.int e)) (.val (.str sg)) (.val (.str bh)) (.val (.bool bv)) .un .un .un .un) s (fun vs l s' => .str tg :: vs = [.str tg, .str (Txt.slice body (some 1) (some e)), .int at_, .int (at_ + e)] /\ NU "name" (lO g 1 C ρ (fun x U s => X x s) ((top 43).body.drop 7) (eC Q)) (bO tg (.str (Txt.slice body (some 1) (some e))) (.int at_) (at_ + e)) l s') := by
  intro tg ht;refine EW.tH (fun U U U => rfl) (fun U U U => rfl) (EW.lv B 1 rfl rfl rfl (EW.int (EW.lv B 3 rfl rfl rfl (Vu body _ _ rfl rfl rfl hz (EW.lv B 2 rfl rfl rfl (EW.atEnd B ⟨rfl, _, .cH 7 rfl rfl, ?_⟩))))));rw [ht];exact QH F B gB hz hs Qn h
 have e2 : oJ body at_ (at_ + e) k = bO (cond (Txt.item body 0 == "*") "<alias>" "<anchor>") (.str (Txt.slice body (some 1) (some e))) (.int at_) (at_ + e) := by rw [hk]; rfl
 revert e2;cases Txt.item body 0 == ("*" : Str) with
 | true => exact fun e2 => .p1 (EW.str (fin _ e2.symm))
 | false => exact fun e2 => .p2 (EW.str (fin _ e2.symm))
theorem OY (F : aE g) (B : Bd C (top 43)) {tB : Tok} (gB : nsIn g.K mainGlobals "_law_BLANKS" = some (some (.str bW tB))) (hz : body.length <= sizeLine) (h1 : 1 <= body.length) {k : Nat} (hk : e = (k : Int) + 1) (hs : sg.length = 1) (Qn : bv = (Txt.contains ":?" sg && !aA)) (h : yM (fun r => Q (.lst r) s) (nQ aA sg bh (oJ body at_ (at_ + e) k) (Txt.slice body (some e) none) at_ (at_ + e) (at_ + body.length))) : SW g 1 C ρ (fun x U s => X x s) ((top 43).body.drop 5) (yD aA body at_ (.val (.int e)) (.val (.str sg)) (.val (.str bh)) (.val (.bool bv)) .un .un .un .un) s (eC Q) := by
 have no : Q (.lst [bO "refused" .none .none (at_ + e)]) s -> SW g 1 C ρ (fun x U s => X x s) (qZ (top 43).body 5 0) (yD aA body at_ (.val (.int e)) (.val (.str sg)) (.val (.str bh)) (.val (.bool bv)) .un .un .un .un) s (lO g 1 C ρ (fun x U s => X x s) ((top 43).body.drop 6) (eC Q)) := fun h =>
  SW.cons (SW.ret (EW.qL rfl (EW.row rfl (EW.str (EW.none (EW.none (EW.atEnd B ⟨rfl, (by decide : (1 : Nat) <= sizeLine), h⟩)))))))
 refine SW.cons (SW.nN (BW.yT (BW.bC rfl (EW.lv B 4 rfl rfl rfl (EW.str ?_)))));show zB g 1 C ρ _ _ _ (Txt.contains "%@`\t" sg) _ _;revert h;show yM _ (cond (Txt.contains "%@`\t" sg || ((Txt.contains ":?" sg && !aA) && ((sg == "?") && Txt.contains bW bh))) _ _) -> _;have go := @SE g ρ C X Q aA bv body sg bh at_ e s F B tB gB hz h1 k hk hs Qn;rw [← Qn];cases Txt.contains "%@`\t" sg with
 | true => exact fun h => .p1 (.p1 (no (h.pos rfl)))
 | false =>
 intro h;refine .p2 (BW.Ie (BW.jH (BW.val (fun U => rfl) (EW.lv B 6 rfl rfl rfl ?_))));clear Qn;induction bv with
 | false => exact .p1 (.p2 (SW.nil (go (h.neg rfl))))
 | true =>
 refine .p2 (BW.jH (BW.bC rfl (EW.lv B 4 rfl rfl rfl (EW.str ?_))));show zN g 1 C ρ _ _ _ (sg == "?") _ _;revert h;cases sg == ("?" : Str) with
 | false => exact fun h => .p1 (.p2 (SW.nil (go (h.neg rfl))))
 | true =>
 intro h;refine .p2 (BW.oY (BW.bC rfl (EW.lv B 5 rfl rfl rfl (EW.rP gB (B.glob rfl) rfl ?_))));show yJ g 1 C ρ _ _ _ _ (Txt.contains bW bh) _ _;revert h;generalize UI : Txt.contains bW bh = b at go ⊢;induction b with
 | true => exact fun h => .p1 (no (h.pos rfl))
 | false => exact fun h => .p2 (SW.nil (go (h.neg rfl)))
theorem TM (F : aE g) (B : Bd C (top 43)) {tB : Tok} (gB : nsIn g.K mainGlobals "_law_BLANKS" = some (some (.str bW tB))) (hz : body.length <= sizeLine) (h1 : 1 <= body.length) {k : Nat} (hk : e = (k : Int) + 1) (hs : sg.length = 1) (h : yM (fun r => Q (.lst r) s) (cond (k == 0 || (!Txt.contains bW sg && !Txt.contains "?:,]}%@`" sg)) (some [bO "refused" .none (.int at_) (at_ + e)]) (nQ aA sg bh (oJ body at_ (at_ + e) k) (Txt.slice body (some e) none) at_ (at_ + e) (at_ + body.length)))) : SW g 1 C ρ (fun x U s => X x s) ((top 43).body.drop 3) (yD aA body at_ (.val (.int e)) (.val (.str sg)) (.val (.str bh)) .un .un .un .un .un) s (eC Q) := by
 have no : Q (.lst [bO "refused" .none (.int at_) (at_ + e)]) s -> SW g 1 C ρ (fun x U s => X x s) (qZ (top 43).body 3 0) (yD aA body at_ (.val (.int e)) (.val (.str sg)) (.val (.str bh)) .un .un .un .un .un) s (lO g 1 C ρ (fun x U s => X x s) ((top 43).body.drop 4) (eC Q)) := fun h =>
  SW.cons (SW.ret (EW.qL rfl (EW.row rfl (EW.str (EW.none (EW.lv B 2 rfl rfl rfl (EW.atEnd B ⟨rfl, (by decide : (1 : Nat) <= sizeLine), h⟩)))))))
 have go : yM (fun r => Q (.lst r) s) (nQ aA sg bh (oJ body at_ (at_ + e) k) (Txt.slice body (some e) none) at_ (at_ + e) (at_ + body.length)) -> SW g 1 C ρ (fun x U s => X x s) ((top 43).body.drop 4) (yD aA body at_ (.val (.int e)) (.val (.str sg)) (.val (.str bh)) .un .un .un .un .un) s (eC Q) := fun h => by
  refine SW.cons (SW.assign rfl (B.loc (x := "bare") rfl rfl).1 (EW.mH (EW.bC rfl (EW.lv B 4 rfl rfl rfl (EW.str ?_)))));show pV g 1 C ρ _ _ _ _ (.bool (Txt.contains ":?" sg)) _ _ (Txt.contains ":?" sg);have on := fun bv Qn => @OY g ρ C X Q aA bv body sg bh at_ e s F B tB gB hz h1 k hk hs Qn h;revert on;cases Txt.contains ":?" sg with
  | false => exact fun on => ⟨fun U => ⟨_, .cH 6 rfl rfl, on false rfl⟩, fun h => Bool.noConfusion h⟩
  | true => exact fun on => ⟨fun h => Bool.noConfusion h, fun U => EW.qV (EW.not (EW.lv B 0 rfl rfl rfl ⟨_, .cH 6 rfl rfl, on (!aA) rfl⟩))⟩
 refine SW.cons (SW.nN (BW.yT (BW.bC rfl (EW.lv B 3 rfl rfl rfl (EW.int ?_)))));show zB g 1 C ρ _ _ _ (e == 1) _ _;have ek : (e == 1) = (k == 0) := by
  rw [hk];induction k with
  | zero => rfl
  | succ k => exact beq_eq_false_iff_ne.mpr (by omega)
 rw [ek];revert h;cases k == 0 with
 | true => exact fun h => .p1 (.p1 (no (h.pos rfl)))
 | false =>
 intro h;refine .p2 (BW.Ie (BW.jH (BW.bC rfl (EW.lv B 4 rfl rfl rfl (EW.rP gB (B.glob rfl) rfl ?_)))));show zN g 1 C ρ _ _ _ (!Txt.contains bW sg) _ _;revert h;cases Txt.contains bW sg with
 | true => exact fun h => .p1 (.p2 (SW.nil (go (h.neg rfl))))
 | false =>
 intro h;refine .p2 (BW.oY (BW.bC rfl (EW.lv B 4 rfl rfl rfl (EW.str ?_))));show yJ g 1 C ρ _ _ _ _ (!Txt.contains "?:,]}%@`" sg) _ _;revert h;cases Txt.contains "?:,]}%@`" sg with
 | true => exact fun h => .p2 (SW.nil (go (h.neg rfl)))
 | false => exact fun h => .p1 (no (h.pos rfl))
end
theorem Mb (F : aE g) (LF : iL g) {aA : Bool} {body : Str} {at_ : Int} {n : Nat} {res : List V} (hn : kD body = some n) (hb : body.length <= 1000) (he : gZ aA body at_ n = some res) {X : kP} {Q : jZ} (h : Q (.lst res) σ) :
  FW g 1 ρ X 1092 [.bool aA, .str body, .int at_] σ Q := by
 have h : yM (fun r => Q (.lst r) σ) (gZ aA body at_ n) := by rw [he]; exact h
 clear he;refine FW.go LF.Fv ["end", "sign", "behind", "bare", "name", "rows", "rest", "place"] rfl rfl (by decide) (by decide +kernel) fun C' B => ?_;obtain ⟨tW, gW⟩ := LF.Di;obtain ⟨tB, gB⟩ := LF.zM;refine SW.cons (SW.assign rfl (B.loc (x := "end") rfl rfl).1 (EW.int ⟨_, .cH 3 rfl rfl, ?_⟩));refine SW.cons (SW.nX (PS aA body at_ n σ) n ⟨0, Nat.zero_add n, rfl, rfl, hn⟩ ?_)
 rintro m l s ⟨k, hk, rfl, rfl, es⟩
 refine aR (hO es) fun c hc FV => ?_;have Jb : body.cps.toList[k + 1]? = some c := by rw [List.getElem?_drop, Nat.add_comm] at hc; exact hc
 have pK : k + 1 < body.length := (List.getElem?_eq_some_iff.mp Jb).1;have EC : (k : Int) + 1 < body.length := Int.ofNat_lt.mpr pK;have EP : fitsSsize ((k : Int) + 1) = true := (Hy Jb).elim id fun h => by clear FV; lia
 have Aw : Txt.item body ((k : Int) + 1) = ⟨#[c]⟩ := rV Jb;have h0 : -((body.length : Nat) : Int) <= (k : Int) + 1 := Ui (Int.natCast_nonneg (k + 1));refine BW.bC rfl (EW.kE (fun U U U U => rfl) (fun U U U => rfl) (EW.lv B 1 rfl rfl rfl (EW.lv B 3 rfl rfl rfl (zS body _ rfl rfl EP h0 EC (EW.rP gW (B.glob rfl) rfl ?_)))));show Pa g 1 C' ρ _ _ _ _ _ (Txt.contains fN (Txt.item body ((k : Int) + 1))) _ _;rw [Aw, eH]
 rcases FV with ⟨h1, m', rfl, h2⟩ | ⟨h1, rfl⟩
 ·rw [h1];refine .p1 (SW.cons (SW.assign rfl (B.loc (x := "end") rfl rfl).1 (EW.add (EW.lv B 3 rfl rfl rfl (EW.int ⟨_, _, rfl, rfl, _, .cH 3 rfl rfl, SW.nil ?_⟩)))));exact ⟨m', Nat.lt_succ_self _, k + 1, (Nat.succ_add k m').trans hk, rfl, rfl, h2⟩
 rw [h1];refine .p2 ?_;induction hk
 have hz : body.length <= sizeLine := Nat.le_trans hb (by decide);refine SW.cons (SW.Fj B.hh (B.loc (x := "sign") rfl rfl) (B.loc (x := "behind") rfl rfl) rfl (by show swappedStores _ _ (envX C'.cn C'.cs C'.L C'.a C'.Bu C'.cl) = _; rw [B.cs]; rfl) ?_);refine EW.tup rfl (EW.kE (fun U U U U => rfl) (fun U U U => rfl) (EW.lv B 1 rfl rfl rfl (EW.lv B 3 rfl rfl rfl (zS body _ rfl rfl EP h0 EC ?_))));refine EW.tH (fun U U U => rfl) (fun U U U => rfl) (EW.lv B 1 rfl rfl rfl (EW.add (EW.lv B 3 rfl rfl rfl (EW.int ⟨_, _, rfl, rfl, EW.add (EW.lv B 3 rfl rfl rfl (EW.int ⟨_, _, rfl, rfl, body, _, _, rfl, rfl, rfl, hz, (by decide : (2 : Nat) <= sizeLine), _, _, rfl, _, _, .cH 5 rfl rfl, .cH 4 rfl rfl, ?_⟩))⟩))));exact TM F B gB hz (Nat.le_of_lt (Nat.lt_of_le_of_lt (Nat.le_add_left 1 k) pK)) rfl (by rw [Aw]; rfl) h
end
theorem uQ (x y : Str) : (x ++ y).length = x.length + y.length := by
 show (x.cps ++ y.cps).size = x.cps.size + y.cps.size;exact Array.size_append
set_option tactic.hygienic true in
theorem V.qF : ∀ {vs : List V}, vs.all V.told = true -> V.frees vs = true
 | [], _ => rfl
 | v :: vs, h => by
  rw [List.all_cons, Bool.and_eq_true] at h;have h2 := V.qF h.2;have h1 : v.free = true := by
   cases v <;> first | rfl | exact absurd h.1 (by decide) | skip
   all_goals first | exact absurd h.1 (by intro e; cases e) | skip
   rename_i us
   have : ∀ {us : List V}, us.all V.atom = true -> V.frees us = true := by
    intro us;induction us with
    | nil => intro _; rfl
    | cons u us ih =>
     intro h;rw [List.all_cons, Bool.and_eq_true] at h;have hu : u.free = true := by
      cases u <;> first | rfl | exact absurd h.1 (by intro e; cases e)
     show (u.free && V.frees us) = true;rw [hu, ih h.2]; rfl
   exact this h.1
  show (v.free && V.frees vs) = true;rw [h1, h2]; rfl
structure aY (n : Nat) (vs : List V) : Prop where
 l : vs.length <= n
 t : vs.all V.told = true
theorem aY.app {n k : Nat} {vs ws : List V} (h : aY n vs) (h2 : aY k ws) : aY (n + k) (vs ++ ws) := ⟨by rw [List.length_append]; exact Nat.add_le_add h.l h2.l, by rw [List.all_append, h.t, h2.t]; rfl⟩
theorem aY.mono {n k : Nat} {vs : List V} (h : aY n vs) (hk : n <= k) : aY k vs := ⟨Nat.le_trans h.l hk, h.t⟩
theorem aY.row {tag : Str} {a b : V} {e : Int} (ha : a.atom = true) (hb : b.atom = true) : aY 1 [bO tag a b e] := ⟨Nat.le_refl _, by
 show ((true && (a.atom && (b.atom && (true && true)))) && true) = true;rw [ha, hb]; rfl⟩
noncomputable def nU (P : List V -> Prop) : Option (List V) -> Prop
 | some r => P r
 | none => True
theorem nU.cond {P : List V -> Prop} {c : Bool} {x y : Option (List V)} (h1 : nU P x) (h2 : nU P y) : nU P (cond c x y) := by
 induction c with
 | true => exact h1
 | false => exact h2
theorem nU.map {P P' : List V -> Prop} {f : List V -> List V} {o : Option (List V)} (h : nU P o) (k : ∀ r, P r -> P' (f r)) : nU P' (o.map f) := by
 induction o with
 | none => trivial
 | some r => exact k r h
theorem nU.get {P : List V -> Prop} {o : Option (List V)} {r : List V} (h : nU P o) (e : o = some r) : P r := by
 cases e; exact h
theorem aY.cond {n : Nat} {c : Bool} {x y : List V} (h1 : aY n x) (h2 : aY n y) : aY n (cond c x y) := by
 induction c with
 | true => exact h1
 | false => exact h2
theorem tV {rows : List V} {e w : Int} {l : List Nat} {n : Nat} (h : aY n rows) : nU (aY (n + 1)) (Ig rows e w l) := by
 induction l with
 | nil => trivial
 | cons i r => exact h.app (aY.row rfl rfl)
theorem yF {rows : List V} {rest : Str} {e : Int} {n : Nat} (h : aY n rows) : nU (aY (n + 1)) (kZ rows rest e) := .cond (tV h) (.cond (tV h) (h.mono (Nat.le_succ n)))
theorem xT {aA : Bool} {sign : Str} {name : V} {a e : Int} (h : aY 1 [name]) : aY 4 (kH aA sign name a e) := by
 have r3 : aY 3 [bO "?" .none (.int a) a, name, bO ":" .none (.int e) (e + 1)] := ((aY.row rfl rfl).app (h.app (aY.row rfl rfl)) : aY 3 ([_] ++ ([name] ++ [_])));exact .cond (.cond (r3.mono (by decide)) (@aY.app 1 3 _ _ (aY.row rfl rfl) r3)) (.cond ((h.app (aY.row rfl rfl) : aY 2 _).mono (by decide)) (h.mono (by decide)))
theorem uN {aA : Bool} {sign : Str} {en : Int} {rows : List V} {n : Nat} (h : aY n rows) : aY (n + 1) (lD aA sign en rows) := .cond (.cond (h.mono (Nat.le_succ n)) (h.app (aY.row rfl rfl))) (h.mono (Nat.le_succ n))
theorem lA {aA : Bool} {body : Str} {a : Int} {k : Nat} {rows : List V} (he : gZ aA body a k = some rows) : aY 6 rows := by
 have hn : aY 1 [oJ body a (a + (k + 1)) k] := aY.row rfl rfl;have h : nU (aY 6) (gZ aA body a k) := .cond ((aY.row rfl rfl).mono (by decide)) (.cond ((aY.row rfl rfl).mono (by decide)) (.cond ((hn.app (aY.row rfl rfl) : aY 2 ([_] ++ [_])).mono (by decide)) ((yF (xT hn)).map fun r hr => uN hr)));exact h.get he
theorem V.We {u : V} {tag : Str} (h : u.txt = some tag) : u = .str tag := by
 cases u with
 | str x => exact congrArg V.str (Option.some.inj h)
 | _ => exact nomatch h
set_option tactic.hygienic true in
theorem V.Rv {v u : V} (h : v.head = some u) : ∃ us, v = .tup (u :: us) := by
 cases v <;> first | cases h | skip
 rename_i l
 induction l with
 | nil => cases h
 | cons a us => cases h; exact ⟨us, rfl⟩
theorem Ij {rows : List V} {tag : Str} (h : jG rows = some tag) : ∃ us r, rows = .tup (.str tag :: us) :: r := by
 refine aR (Option.bind_eq_some_iff.mp h) fun u h1 h2 => ?_;refine aR (Option.bind_eq_some_iff.mp h1) fun v h3 h4 => ?_;obtain ⟨us, e⟩ := V.Rv h4;induction rows with
 | nil => cases h3
 | cons w r => exact ⟨us, r, by rw [Option.some.inj h3, e, V.We h2]⟩
theorem sC {x : Str} (h0 : 0 <= i) (h1 : i < x.length) : (Txt.item x i).length = 1 := by
 rw [item_meets ⟨h0, h1⟩]; rfl
theorem mB (n m : Int) : (bR n m).length <= 5 := by
 unfold bR;obtain ⟨N, hN⟩ : ∃ N, N = mV.getD (n / 4 % 6).toNat 0 := ⟨_, rfl⟩;have h5 : N <= 5 := by
  subst hN;have : ∀ i : Nat, mV.getD i 0 <= 5 := fun i => by
   by_cases h : i < 6
   ·have := (by decide : ∀ i < 6, i = 0 \/ i = 1 \/ i = 2 \/ i = 3 \/ i = 4 \/ i = 5) i (by assumption)
    rcases this with rfl | rfl | rfl | rfl | rfl | rfl <;> decide
   ·rw [List.getD_eq_getElem?_getD, List.getElem?_eq_none (by show 6 <= i; lia)]; decide
  exact this _
 rw [← hN];have e : ((List.range N).map fun (k : Nat) => Txt.item fN (m / 64 ^ k % 64)) = (((List.range N).map fun (k : Nat) => (Txt.item fN (m / 64 ^ k % 64)).cps.toList).map fun l => (⟨l.toArray⟩ : Str)) := by
  rw [List.map_map]; rfl
 rw [e];show (Txt.join (Str.ofString "") _).length <= 5;rw [pL];show (List.flatten _).length <= 5;rw [List.length_flatten, List.map_map];have : ((List.range N).map (List.length ∘ fun (k : Nat) => (Txt.item fN (m / 64 ^ k % 64)).cps.toList)) = (List.range N).map fun U => 1 := List.map_congr_left fun k U => by
  have b1 : 0 <= m / 64 ^ k % 64 := Int.emod_nonneg _ (by decide);have b2 : m / 64 ^ k % 64 < 64 := Int.emod_lt_of_pos _ (by decide);exact sC (x := fN) b1 b2
 rw [this, List.map_const', List.sum_replicate_nat, List.length_range]
 lia
theorem oO {l : List Str} {b : Nat} (h : ∀ x ∈ l, x.length <= b) (i : Nat) : (l.getD i "").length <= b := by
 rw [List.getD_eq_getElem?_getD]
 by_cases hi : i < l.length
 ·rw [List.getElem?_eq_getElem hi]; exact h _ (List.getElem_mem hi)
 ·rw [List.getElem?_eq_none (by lia)]; exact Nat.zero_le _
theorem oS (n : Int) : (bD n).length <= 2 := by
 unfold bD
 split
 ·exact oO (by decide) _
 ·split
  ·exact oO (by decide) _
  ·exact (by decide : 1 <= 2)
theorem vU {n m : Int} {sign : Str} (h : sign.length <= 2) : (wG n m sign).length <= 8 := by
 unfold wG;have h1 := mB n m;have h2 : (Txt.item ("&*" : Str) (n / 2 % 2)).length = 1 := sC (Int.emod_nonneg _ (by decide)) (Int.emod_lt_of_pos _ (by decide));rw [uQ, uQ, h2]; lia
theorem vV {n m : Int} {sign : Str} (h : sign.length <= 2) : (qP n m sign).length <= 10 := by
 unfold qP;have := vU (n := n) (m := m) h
 split
 ·rw [uQ]; exact (by lia : (wG n m sign).length + 2 <= 10)
 ·lia
theorem vZ {n m : Int} {sign : Str} (h : sign.length <= 2) : (vR n m sign).length <= 14 := by
 unfold vR;have := vV (n := n) (m := m) h;have := oO (l := kL) (b := 4) (by decide) (n / 24 % 3).toNat;rw [uQ]; lia
theorem vC {n m : Int} {sign : Str} (h : sign.length <= 2) : (wD n m sign).length <= 15 := by
 unfold wD;have := vZ (n := n) (m := m) h
 split
 ·rw [uQ]; exact (by lia : (vR n m sign).length + 1 <= 15)
 ·lia
theorem lH {n m : Int} {sign : Str} (h : sign.length <= 2) : (eS n m sign).length <= 16 := by
 unfold eS;have := vC (n := n) (m := m) h;rw [uQ]; exact (by lia : (wD n m sign).length + 1 <= 16)
theorem mJ (aA : Bool) : (bL aA).length <= 3 := by induction aA <;> decide
structure sG (k : Nat) (st : LS) : Prop where
 tl : st.aP.length <= 10
 tr : ∀ n ∈ st.aP, 0 <= n
 tx : st.text.length <= 20 * k
 du : aY (2 + 10 * k) st.dA
 en : st.ends = 1 \/ st.ends = 2
theorem mP {l : List Int} (h : ∀ n ∈ l, 0 <= n) : 0 <= aM l := by
 induction l with
 | nil => exact Int.le_refl _
 | cons a l => exact h a (.head _)
theorem dI {l : List Int} (h : ∀ n ∈ l, 0 <= n) : ∀ n ∈ l.tail, 0 <= n := fun n hn => h n (List.mem_of_mem_tail hn)
theorem Dc {k : Nat} {st : LS} {a : Int} (h : aY k st.dA) : aY (k + 2) (wV st a) := by
 unfold wV
 split
 ·exact (h.app (aY.row rfl rfl)).app (aY.row rfl rfl)
 ·exact (h.app (aY.row rfl rfl)).mono (by lia)
theorem Dz {k : Nat} {aA : Bool} {tag : Str} {d : List V} {a : Int} (h : aY k d) : aY (k + 1) (pF aA tag d a) := .cond (h.app (aY.row rfl rfl)) (h.mono (Nat.le_succ k))
theorem vW {k : Nat} {st yR : LS} (h : sG k st) (e : fU st = some yR) : sG (k + 1) yR := by
 unfold fU jF at e;have hs := oS (aM st.aP.tail.tail);have hb : (gA st).length <= 16 := lH (n := aM st.aP) (m := aM st.aP.tail) hs;have hg := mJ (gX st);have ht : (st.text ++ bL (gX st) ++ gA st).length <= 20 * (k + 1) := by
  have := h.tx;rw [uQ, uQ]; lia
 have hl : st.aP.tail.tail.tail.length <= 10 := by
  rw [List.length_tail, List.length_tail, List.length_tail];exact Nat.le_trans (Nat.sub_le _ _) (Nat.le_trans (Nat.sub_le _ _) (Nat.le_trans (Nat.sub_le _ _) h.tl))
 have hr := dI (dI (dI h.tr))
 by_cases hs : st.sound = true
 ·rw [if_pos hs] at e;refine aR (Option.bind_eq_some_iff.mp e) fun k' h1 e => ?_;refine aR (Option.bind_eq_some_iff.mp e) fun rows iR e => ?_;refine aR (Option.bind_eq_some_iff.mp e) fun tag h2 e => ?_;cases e;refine ⟨hl, hr, ht, ((Dz (Dc h.du)).app (lA iR)).mono (by lia), ?_⟩;show (if _ then (2 : Int) else 1) = 1 \/ (if _ then (2 : Int) else 1) = 2
  split
  ·exact .inr rfl
  ·exact .inl rfl
 ·rw [if_neg hs] at e; cases e;exact ⟨hl, hr, ht, h.du.mono (by lia), h.en⟩
section
set_option genInjectivity false
set_option genSizeOf false
noncomputable abbrev rB (aZ n aP first text dA ends sound entry m sign aA gJ body at_ begin_ rows iV told token refusal context : LV) : aF :=
 [("script", aZ), ("n", n), ("tape", aP), ("first", first), ("text", text), ("due", dA), ("ends", ends), ("sound", sound), ("entry", entry), ("m", m), ("sign", sign), ("flow", aA), ("letters", gJ), ("body", body), ("at", at_), ("begin", begin_), ("rows", rows), ("scanner", iV), ("told", told), ("token", token), ("refusal", refusal), ("context", context)]
noncomputable def kS : List Stmt := qZ (top 45).body 6 0
set_option genInjectivity false in
set_option genSizeOf false in
structure LO where
 aZ : LV
 first : LV
 dA : LV
 ends : LV
 sound : LV
 entry : LV
 rows : LV
 iV : LV
 told : LV
 token : LV
 refusal : LV
 context : LV
noncomputable def Io (o : LO) (c : Addr) (n m : Int) (sg : Str) (tp : List V) (tx : Str) (aA gJ body at_ begin_ : LV) : aF :=
 rB o.aZ (.val (.int n)) (.ml tp) o.first (.val (.str tx)) o.dA o.ends o.sound o.entry (.cell c (some (.int m))) (.val (.str sg)) aA gJ body at_ begin_ o.rows o.iV o.told o.token o.refusal o.context
section
variable {g : Gl} {ρ : bZ} {C : Cx} {σ : bQ} {c : Addr} {Q : dD} {o : LO} {n m : Int} {sg tx : Str} {tp : List V} {bd : Str} {cZ iQ at_ begin_ : LV}
def zD (g : Gl) (ρ : bZ) (C : Cx) (σ : bQ) (c : Addr) (Q : dD) (o : LO) (n m : Int) (sg tx : Str) (tp : List V) : Prop :=
 SW g 10 C ρ (fun U U U => False) (kS.drop 13) (Io o c n m sg tp (tx ++ bL (bV n sg) ++ eS n m sg) (.val (.bool (bV n sg))) (.val (.str (bR n m))) (.val (.str (eS n m sg))) (.val (.int tx.length)) (.val (.str (bL (bV n sg))))) σ Q
theorem LA (B : Bd C (top 45)) (hs : sg.length <= 2) (ht : tx.length <= 1000) (h : zD g ρ C σ c Q o n m sg tx tp) :
  SW g 10 C ρ (fun U U U => False) (kS.drop 12) (Io o c n m sg tp tx (.val (.bool (bV n sg))) (.val (.str (bR n m))) (.val (.str (eS n m sg))) (.val (.int tx.length)) (.val (.str (bL (bV n sg))))) σ Q := by
 have b1 : tx.length + (bL (bV n sg)).length <= 1003 := Nat.add_le_add ht (mJ _);have b2 : (tx ++ bL (bV n sg)).length + (eS n m sg).length <= 1019 := by rw [uQ]; exact Nat.add_le_add b1 (lH hs)
 exact SW.cut rfl (SW.assign rfl (B.loc (x := "text") rfl rfl).1 (EW.tA (EW.tA (EW.lv B 4 rfl rfl rfl (EW.lv B 15 rfl rfl rfl ⟨_, _, rfl, rfl, Nat.le_trans b1 (by decide), EW.lv B 13 rfl rfl rfl ⟨_, _, rfl, rfl, Nat.le_trans b2 (by decide), _, (.cH 4 rfl rfl), h⟩⟩)))))
theorem JB (F : aE g) (B : Bd C (top 45)) (hs : sg.length <= 2) (ht : tx.length <= 1000) (h : zD g ρ C σ c Q o n m sg tx tp) (hb : bd = wD n m sg) :
  SW g 10 C ρ (fun U U U => False) (kS.drop 9) (Io o c n m sg tp tx (.val (.bool (bV n sg))) (.val (.str (bR n m))) (.val (.str bd)) at_ begin_) σ Q := by
 subst hb;refine SW.cut rfl (SW.assign rfl (B.loc (x := "body") rfl rfl).1 (EW.tA (EW.lv B 13 rfl rfl rfl (EW.str ⟨_, _, rfl, rfl, Nat.le_trans (Nat.add_le_add_right (vC hs) 1) (by decide), _, (.cH 13 rfl rfl), ?_⟩))));refine SW.cut rfl (SW.assign rfl (B.loc (x := "at") rfl rfl).1 (EW.len rfl (EW.builtin (F.n 0 rfl) rfl (by decide) (B.glob rfl) rfl ⟨rfl, EW.lv B 4 rfl rfl rfl ⟨Nat.le_trans ht (by decide), _, (.cH 14 rfl rfl), ?_⟩⟩)));refine SW.cut rfl (SW.assign rfl (B.loc (x := "begin") rfl rfl).1 (EW.uC (BW.val (fun U => rfl) (EW.lv B 11 rfl rfl rfl ?_))));have EZ := LA B hs ht h;revert EZ;generalize bV n sg = fl;intro EZ;induction fl with
 | true => exact .p1 (EW.str ⟨_, (.cH 15 rfl rfl), EZ⟩)
 | false => exact .p2 (EW.str ⟨_, (.cH 15 rfl rfl), EZ⟩)
theorem xA {n d k : Int} (hk : 0 < k) : 0 <= n / d % k /\ n / d % k < k := ⟨Int.emod_nonneg _ (Int.ne_of_gt hk), Int.emod_lt_of_pos _ hk⟩
theorem TU (F : aE g) (B : Bd C (top 45)) (hs : sg.length <= 2) (ht : tx.length <= 1000) (h : zD g ρ C σ c Q o n m sg tx tp) (hb : bd = qP n m sg) :
  SW g 10 C ρ (fun U U U => False) (kS.drop 7) (Io o c n m sg tp tx (.val (.bool (bV n sg))) (.val (.str (bR n m))) (.val (.str bd)) at_ begin_) σ Q := by
 subst hb;obtain ⟨w0, w1⟩ := xA (n := n) (d := 24) (k := 3) (by decide);have wn : (n / 24 % 3).toNat < 3 := (Int.toNat_lt w0).mpr w1;have wl := oO (l := kL) (b := 4) (by decide) (n / 24 % 3).toNat;refine SW.cut rfl (SW.assign rfl (B.loc (x := "body") rfl rfl).1 (EW.tA (EW.lv B 13 rfl rfl rfl (EW.item (fun U U U => rfl) (EW.qL rfl (EW.str (EW.str (EW.str ⟨(by decide : (3 : Nat) <= sizeLine), ?_⟩))))))));refine EW.fmod (EW.fdiv (EW.lv B 1 rfl rfl rfl (EW.int ⟨_, _, rfl, rfl, by decide, by decide, EW.int ⟨_, _, rfl, rfl, by decide, by decide, kL.map V.str, (n / 24 % 3).toNat, _, .inl rfl, by rw [Int.toNat_of_nonneg w0], qK wn, Nat.lt_trans wn (by decide), ⟨_, _, rfl, rfl, Nat.le_trans (Nat.add_le_add (vV hs) wl) (by decide), _, (.cH 13 rfl rfl), ?_⟩⟩⟩)));refine SW.cut rfl (SW.hZ rfl (BW.jH (BW.val (fun U => rfl) (EW.lv B 11 rfl rfl rfl ?_))));refine ⟨fun hf => ⟨fun h => (by cases h), fun U => SW.nil (JB F B hs ht h (if_neg fun h => Bool.false_ne_true (hf.symm.trans h.1)).symm)⟩, fun hf => BW.oY (BW.JA rfl (EW.lv B 10 rfl rfl rfl (EW.qL rfl (EW.str (EW.str ⟨(by decide : (2 : Nat) <= sizeLine), _, kO, rfl, rfl, ?_⟩)))))⟩;refine ⟨fun hb => ?_, fun hb => SW.nil (JB F B hs ht h (if_neg fun h => ?_).symm)⟩
 ·have qG : kO.any (· == sg) = false := by rw [Bool.true_bne] at hb; rwa [Bool.not_eq_true'] at hb
  refine SW.cut rfl (SW.assign rfl (B.loc (x := "body") rfl rfl).1 (EW.tA (EW.lv B 13 rfl rfl rfl (EW.str ⟨_, _, rfl, rfl, Nat.le_trans (Nat.add_le_add_right (vZ hs) 1) (by decide), _, (.cH 13 rfl rfl), SW.nil (JB F B hs ht h ?_)⟩))));exact (if_pos ⟨hf, qG⟩).symm
 ·rw [Bool.true_bne, h.2] at hb; cases hb
theorem Cz (h0 : 0 <= i) (h1 : i < 100) : fitsSsize i = true := by
 unfold fitsSsize;have h1 : ¬ (i < -2 ^ 63) := by lia
 have h2 : ¬ (i ≥ 2 ^ 63) := by lia
 simp only [h1, h2, decide_false, Bool.or_self, Bool.not_false]
theorem Qu (i : Nat) (h : i < 6) : ([.int 1, .int 2, .int 3, .int 5, .int 4, .int 0] : List V)[i]? = some (.int (mV.getD i 0 : Nat)) /\ mV.getD i 0 <= 5 := by
 have k := (by decide : ∀ i < 6, i = 0 \/ i = 1 \/ i = 2 \/ i = 3 \/ i = 4 \/ i = 5) i h
 rcases k with rfl | rfl | rfl | rfl | rfl | rfl <;> exact ⟨rfl, by decide⟩
theorem RX (F : aE g) (LF : iL g) (B : Bd C (top 45)) (hc : mF C "m" c) (hs : sg.length <= 2) (ht : tx.length <= 1000) (hm : 0 <= m) (h : zD g ρ C σ c Q o n m sg tx tp) :
  SW g 10 C ρ (fun U U U => False) (kS.drop 4) (Io o c n m sg tp tx (.val (.bool (bV n sg))) cZ iQ at_ begin_) σ Q := by
 obtain ⟨n0, n1⟩ := xA (n := n) (d := 4) (k := 6) (by decide);obtain ⟨c0, c1⟩ := xA (n := n) (d := 2) (k := 2) (by decide);have nn : (n / 4 % 6).toNat < 6 := (Int.toNat_lt n0).mpr n1;have Aw : ∀ i : Nat, i < 6 -> ([.int 1, .int 2, .int 3, .int 5, .int 4, .int 0] : List V)[i]? = some (.int (mV.getD i 0 : Nat)) /\ mV.getD i 0 <= 5 := Qu;have l1 : (Txt.item ("&*" : Str) (n / 2 % 2)).length = 1 := sC c0 c1;have l2 : (Txt.item ("&*" : Str) (n / 2 % 2)).length + (bR n m).length <= 6 := by rw [l1]; exact Nat.add_le_add_left (mB n m) 1
 have l3 : (Txt.item ("&*" : Str) (n / 2 % 2) ++ bR n m).length + sg.length <= 8 := by rw [uQ]; exact Nat.add_le_add l2 hs
 have s6 := fun (bd : Str) => @TU g ρ C σ c Q o n m sg tx tp bd at_ begin_ F B hs ht h;refine SW.cut rfl (SW.assign rfl (B.loc (x := "letters") rfl rfl).1 (EW.gJ (N := mV.getD (n / 4 % 6).toNat 0) B.hh hc hm (Aw _ nn).2 LF.Di.choose_spec rfl rfl rfl rfl (fun U => rfl) ⟨_, rfl⟩ (EW.builtin (F.n 5 rfl) rfl (by decide) (B.glob rfl) rfl ⟨rfl, ?_⟩)));refine EW.item (fun U U U => rfl) (EW.qL rfl (EW.int (EW.int (EW.int (EW.int (EW.int (EW.int ⟨(by decide : (6 : Nat) <= sizeLine), ?_⟩)))))));refine EW.fmod (EW.fdiv (EW.lv B 1 rfl rfl rfl (EW.int ⟨_, _, rfl, rfl, by decide, by decide, EW.int ⟨_, _, rfl, rfl, by decide, by decide, _, (n / 4 % 6).toNat, _, .inl rfl, by rw [Int.toNat_of_nonneg n0], (Aw _ nn).1, Nat.lt_trans nn (by decide), rfl, aO 9 rfl, _, (.cH 12 rfl rfl), ?_⟩⟩)));refine SW.cut rfl (SW.assign rfl (B.loc (x := "body") rfl rfl).1 (EW.tA (EW.tA (EW.kE (fun U U U U => rfl) (fun U U U => rfl) (EW.str (EW.fmod (EW.fdiv (EW.lv B 1 rfl rfl rfl (EW.int ⟨_, _, rfl, rfl, by decide, by decide, EW.int ⟨_, _, rfl, rfl, by decide, by decide, _, _, rfl, rfl, Cz c0 (Int.lt_trans c1 (by decide)), Int.le_trans (by decide) c0, c1, EW.lv B 12 rfl rfl rfl ⟨_, _, rfl, rfl, Nat.le_trans l2 (by decide), EW.lv B 10 rfl rfl rfl ⟨_, _, rfl, rfl, Nat.le_trans l3 (by decide), _, (.cH 13 rfl rfl), ?_⟩⟩⟩⟩)))))))));refine SW.cut rfl (SW.hZ rfl (BW.JJ rfl (EW.lv B 10 rfl rfl rfl (EW.lB (D' := 0) B.hh LF.Ap (by decide) rfl (EW.glob LF.Bh (B.glob rfl) rfl ⟨rfl, Hi LF ⟨_, pH, rfl, rfl, ?_⟩⟩)))));refine ⟨fun hb => ?_, fun hb => SW.nil (s6 _ (if_neg ?_).symm)⟩
 ·rw [Bool.false_bne] at hb;exact SW.cut rfl (SW.assign rfl (B.loc (x := "body") rfl rfl).1 (EW.tA (EW.lv B 13 rfl rfl rfl (EW.str ⟨_, _, rfl, rfl, Nat.le_trans (Nat.add_le_add_right (vU hs) 2) (by decide), _, (.cH 13 rfl rfl), SW.nil (s6 _ (if_pos hb).symm)⟩))))
 ·rw [Bool.false_bne] at hb; rw [hb]; decide
theorem RG (F : aE g) (LF : iL g) (B : Bd C (top 45)) (hc : mF C "m" c) (hs : sg.length <= 2) (ht : tx.length <= 1000) (hm : 0 <= m) {kB : LV} (h : zD g ρ C σ c Q o n m sg tx tp) :
  SW g 10 C ρ (fun U U U => False) (kS.drop 3) (Io o c n m sg tp tx kB cZ iQ at_ begin_) σ Q := by
 have s4 := @RX g ρ C σ c Q o n m sg tx tp cZ iQ at_ begin_ F LF B hc hs ht hm h;refine SW.cut rfl (SW.assign rfl (B.loc (x := "flow") rfl rfl).1 (EW.mH (EW.bC rfl (EW.fmod (EW.lv B 1 rfl rfl rfl (EW.int ⟨_, _, rfl, rfl, by decide, by decide, EW.int ?_⟩))))));revert s4;rw [show bV n sg = ((n % 2 == 1) || kO.any (· == sg)) from rfl];generalize hb : (n % 2 == 1) = b;intro s4;refine ⟨fun h => ⟨_, (.cH 11 rfl rfl), ?_⟩, fun h => EW.qV (EW.JJ rfl (EW.lv B 10 rfl rfl rfl (EW.qL rfl (EW.str (EW.str ⟨(by decide : (2 : Nat) <= sizeLine), _, kO, rfl, rfl, _, (.cH 11 rfl rfl), ?_⟩)))))⟩
 ·cases hb.symm.trans h;rw [show ((n % 2 == 1) : Bool) = true from h]; exact s4
 ·cases hb.symm.trans h;rw [Bool.false_bne]; exact s4
end
section
variable {C : Cx} {c : Addr} {P : aF -> bQ -> Prop} {Q : dD}
theorem Ik (F : aE g) (LF : iL g) (B : Bd C (top 45)) (hc : mF C "m" c) {st : LS} {k : Nat} (ok : sG k st) (hk : k <= 20)
  {cC n_ dF gY lL kB cZ iQ at_ begin_ gF jO lN eI fA gL : LV} {w : Option V}
  (h : SW g 10 C ρ (fun U U U => False) (kS.drop 13) (rB cC (.val (.int (aM st.aP))) (.ml (st.aP.tail.tail.tail.map V.int)) dF (.val (.str (st.text ++ bL (bV (aM st.aP) (bD (aM st.aP.tail.tail))) ++ eS (aM st.aP) (aM st.aP.tail) (bD (aM st.aP.tail.tail))))) (.ml st.dA) (.val (.int st.ends)) (.val (.bool st.sound)) gY (.cell c (some (.int (aM st.aP.tail)))) (.val (.str (bD (aM st.aP.tail.tail)))) (.val (.bool (bV (aM st.aP) (bD (aM st.aP.tail.tail))))) (.val (.str (bR (aM st.aP) (aM st.aP.tail)))) (.val (.str (eS (aM st.aP) (aM st.aP.tail) (bD (aM st.aP.tail.tail))))) (.val (.int st.text.length)) (.val (.str (bL (bV (aM st.aP) (bD (aM st.aP.tail.tail)))))) gF jO lN eI fA gL) σ Q) :
  SW g 10 C ρ (fun U U U => False) kS (rB cC n_ (.ml (st.aP.map V.int)) dF (.val (.str st.text)) (.ml st.dA) (.val (.int st.ends)) (.val (.bool st.sound)) gY (.cell c w) lL kB cZ iQ at_ begin_ gF jO lN eI fA gL) σ Q := by
 have hl := ok.tl;have r1 := mP (dI ok.tr);have r2 := mP (dI (dI ok.tr));have l0 : st.aP.length <= 1000 := Nat.le_trans hl (by decide);have l1 : st.aP.tail.length <= 1000 := by rw [List.length_tail]; exact Nat.le_trans (Nat.sub_le _ _) l0
 have l2 : st.aP.tail.tail.length <= 1000 := by rw [List.length_tail]; exact Nat.le_trans (Nat.sub_le _ _) l1
 have tx : st.text.length <= 1000 := Nat.le_trans ok.tx (Nat.le_trans (Nat.mul_le_mul_left 20 hk) (by decide));refine SW.cut rfl (SW.assign rfl (B.loc (x := "n") rfl rfl).1 (EW.next LF B.hh (by decide) (B.glob rfl) (B.loc (x := "tape") rfl rfl) (aO 2 rfl) l0 (.cH 2 rfl rfl) ⟨_, (.cH 1 rfl rfl), ?_⟩));refine SW.cut rfl (SW.Cy rfl hc (EW.next LF B.hh (by decide) (B.glob rfl) (B.loc (x := "tape") rfl rfl) (aO 2 rfl) l1 (.cH 2 rfl rfl) ⟨_, (aO 9 rfl), _, (.cH 9 rfl rfl), ?_⟩));refine SW.cut rfl (SW.assign rfl (B.loc (x := "sign") rfl rfl).1 (EW.lB (D' := 1) B.hh LF.Lk (by decide) rfl (EW.glob LF.Nb (B.glob rfl) rfl ⟨rfl, EW.next LF B.hh (by decide) (B.glob rfl) (B.loc (x := "tape") rfl rfl) (aO 2 rfl) l2 (.cH 2 rfl rfl) (Ru F LF r2 ⟨_, (.cH 10 rfl rfl), ?_⟩)⟩)));exact RG (o := ⟨cC, dF, .ml st.dA, .val (.int st.ends), .val (.bool st.sound), gY, gF, jO, lN, eI, fA, gL⟩) F LF B hc (oS _) tx r1 h
end
end
section
set_option genInjectivity false
set_option genSizeOf false
set_option genInjectivity false in
set_option genSizeOf false in
structure TO where
 aZ : LV
 first : LV
 entry : LV
 iV : LV
 told : LV
 token : LV
 refusal : LV
 context : LV
 c : Addr
 n : Int
 m : Int
 sg : Str
 lt : Str
 bd : Str
 bg : Str
 tx : Str
 fl : Bool
 tp : List V
 at_ : Int
noncomputable def uJ (T : TO) (dA : List V) (ends : Int) (sound : Bool) (rows : LV) : aF :=
 rB T.aZ (.val (.int T.n)) (.ml T.tp) T.first (.val (.str T.tx)) (.ml dA) (.val (.int ends)) (.val (.bool sound)) T.entry (.cell T.c (some (.int T.m))) (.val (.str T.sg)) (.val (.bool T.fl)) (.val (.str T.lt)) (.val (.str T.bd)) (.val (.int T.at_)) (.val (.str T.bg)) rows T.iV T.told T.token T.refusal T.context
inductive Km (st : LS) (fl : Bool) (bd : Str) (rest : List Int) : LS -> Prop
 | off (h : st.sound = false) : Km st fl bd rest ⟨rest, st.text ++ bL fl ++ bd, st.dA, st.ends, st.sound⟩
 | on (h : st.sound = true) (k : Nat) (rows : List V) (tag : Str) (us r : List V) (hw : kD bd = some k) (vH : gZ fl bd (st.text.length + (bL fl).length) k = some rows) (hr : rows = .tup (.str tag :: us) :: r) :
   Km st fl bd rest ⟨rest, st.text ++ bL fl ++ bd, pF fl tag (wV st st.text.length) st.text.length ++ rows, (if (tag == "<block mapping start>") = true then 2 else 1), tag != "refused"⟩
theorem Dd {st yR : LS} {fl : Bool} {bd : Str} {rest : List Int} (e : jF st fl bd rest = some yR) : Km st fl bd rest yR := by
 unfold jF at e
 by_cases h : st.sound = true
 ·rw [if_pos h] at e;refine aR (Option.bind_eq_some_iff.mp e) fun k hw e => ?_;refine aR (Option.bind_eq_some_iff.mp e) fun rows vH e => ?_;refine aR (Option.bind_eq_some_iff.mp e) fun tag ht e => ?_;refine Cr (Ij ht) fun us r hr => ?_;cases e;exact .on h k rows tag us r hw vH hr
 ·rw [if_neg h] at e;cases e;exact .off (Bool.eq_false_iff.mpr h)
section
variable {C : Cx} {P : aF -> bQ -> Prop} {Q : dD} {T : TO} {ends : Int} {rows us r ds : List V} {tag : Str} {gF : LV} {sd : Bool}
theorem Xk (B : Bd C (top 45)) (iR : rows = .tup (.str tag :: us) :: r) (hl : ds.length <= 1000) (hr : rows.length <= 6) (h : P (uJ T (ds ++ rows) (if (tag == "<block mapping start>") = true then 2 else 1) sd (.val (.lst rows))) σ) :
  SW g 10 C ρ (fun U U U => False) (kS.drop 19) (uJ T ds ends sd (.val (.lst rows))) σ (Dn P Q) := by
 have Mw : rows[0]? = some (.tup (.str tag :: us)) := by rw [iR]; rfl
 refine SW.cut rfl (SW.nC (B.loc (x := "due") rfl rfl) rfl (EL.own (B.loc (x := "due") rfl rfl) (aO 5 rfl) (EL.Zy (EW.lv B 16 rfl rfl rfl ⟨rows, rfl, rfl, Nat.le_trans (Nat.add_le_add hl hr) (by decide), _, .cH 5 rfl rfl, ?_⟩))));refine SW.cut rfl (SW.assign rfl (B.loc (x := "ends") rfl rfl).1 (EW.uC (BW.bC rfl (EW.item (fun U U U => rfl) (EW.item (fun U U U => rfl) (EW.lv B 16 rfl rfl rfl (EW.int ⟨rows, 0, _, .inl rfl, rfl, Mw, by decide, EW.int ⟨_, 0, _, .inr rfl, rfl, rfl, by decide, EW.str ?_⟩⟩)))))));show Wt g 10 C ρ _ _ _ _ (tag == "<block mapping start>") _ _;revert h;cases tag == ("<block mapping start>" : Str) with
 | true => exact fun h => .p1 (EW.int ⟨_, .cH 6 rfl rfl, SW.nil h⟩)
 | false => exact fun h => .p2 (EW.int ⟨_, .cH 6 rfl rfl, SW.nil h⟩)
theorem IM (B : Bd C (top 45)) (iR : rows = .tup (.str tag :: us) :: r) (hl : ds.length <= 900) (hr : rows.length <= 6) (h : P (uJ T (pF T.fl tag ds T.at_ ++ rows) (if (tag == "<block mapping start>") = true then 2 else 1) (tag != "refused") (.val (.lst rows))) σ) :
  SW g 10 C ρ (fun U U U => False) (kS.drop 18) (uJ T ds ends (tag != "refused") (.val (.lst rows))) σ (Dn P Q) := by
 have Cb : ds.length <= 1000 := Nat.le_trans hl (by decide);refine SW.cut rfl (SW.hZ rfl (BW.jH (BW.val (fun U => rfl) (EW.lv B 7 rfl rfl rfl ?_))));show zN g 10 C ρ _ _ _ (tag != "refused") _ _;revert h;show P (uJ T (cond ((tag != "refused") && T.fl) _ ds ++ rows) _ (tag != "refused") _) σ -> _;cases tag != ("refused" : Str) with
 | false => exact fun h => .p1 (.p2 (SW.nil (Xk B iR Cb hr h)))
 | true =>
 intro h;refine .p2 (BW.oY (BW.val (fun U => rfl) (EW.lv B 11 rfl rfl rfl ?_)));show yJ g 10 C ρ _ _ _ _ T.fl _ _;revert h;show P (uJ T (cond T.fl _ ds ++ rows) _ _ _) σ -> _;generalize T.fl = fl;induction fl with
 | false => exact fun h => .p2 (SW.nil (Xk B iR Cb hr h))
 | true =>
  intro h;have CF : (ds ++ [bO "[" .none (.int (T.at_ + 2)) (T.at_ + 3)]).length <= 1000 := by rw [List.length_append]; exact Nat.le_trans (Nat.add_le_add_right hl 1) (by decide)
  exact .p1 (SW.cut rfl (SW.expr (B.int rfl) rfl (EW.dZ (B.loc (x := "due") rfl rfl) (aO 5 rfl) ⟨_, rfl⟩ rfl (EW.row (tag := "[") (val := .none) (s := .int (T.at_ + 2)) (j := T.at_ + 3) rfl (EW.str (EW.none (EW.add (EW.lv B 14 rfl rfl rfl (EW.int ⟨_, _, rfl, rfl, EW.add (EW.lv B 14 rfl rfl rfl (EW.int ⟨_, _, rfl, rfl, rfl, _, _, aO 5 rfl, Nat.le_trans hl (by decide), .cH 5 rfl rfl, rfl, SW.nil (Xk B iR CF hr h)⟩))⟩)))))))))
theorem CV (F : aE g) (LF : iL g) (B : Bd C (top 45)) {k : Nat} (hb : T.bd.length <= 1000) (hg : T.bg.length <= 1000) (hw : kD T.bd = some k) (vH : gZ T.fl T.bd (T.at_ + T.bg.length) k = some rows) (iR : rows = .tup (.str tag :: us) :: r) (hl : ds.length <= 800)
  (h : P (uJ T (pF T.fl tag (ds ++ [bO "-" .none (.int T.at_) (T.at_ + 1)]) T.at_ ++ rows) (if (tag == "<block mapping start>") = true then 2 else 1) (tag != "refused") (.val (.lst rows))) σ) :
  SW g 10 C ρ (fun U U U => False) (kS.drop 15) (uJ T ds ends true gF) σ (Dn P Q) := by
 have Mw : rows[0]? = some (.tup (.str tag :: us)) := by rw [iR]; rfl
 have CF : (ds ++ [bO "-" .none (.int T.at_) (T.at_ + 1)]).length <= 900 := by rw [List.length_append]; exact Nat.le_trans (Nat.add_le_add_right hl 1) (by decide)
 refine SW.cut rfl (SW.expr (B.int rfl) rfl (EW.dZ (B.loc (x := "due") rfl rfl) (aO 5 rfl) ⟨_, rfl⟩ rfl (EW.row (tag := "-") (val := .none) (s := .int T.at_) (j := T.at_ + 1) rfl (EW.str (EW.none (EW.lv B 14 rfl rfl rfl (EW.add (EW.lv B 14 rfl rfl rfl (EW.int ⟨_, _, rfl, rfl, rfl, _, _, aO 5 rfl, Nat.le_trans hl (by decide), .cH 5 rfl rfl, rfl, ?_⟩)))))))));refine SW.cut rfl (SW.assign rfl (B.loc (x := "rows") rfl rfl).1 (EW.lB (D' := 1) B.hh LF.Fu (by decide) rfl (EW.glob LF.Ff (B.glob rfl) rfl ⟨rfl, EW.lv B 11 rfl rfl rfl (EW.lv B 13 rfl rfl rfl (EW.add (EW.lv B 14 rfl rfl rfl (EW.len rfl (EW.builtin (F.n 0 rfl) rfl (by decide) (B.glob rfl) rfl ⟨rfl, EW.lv B 15 rfl rfl rfl ⟨Nat.le_trans hg (by decide), _, _, rfl, rfl, Mb F LF hw hb vH ⟨_, .cH 16 rfl rfl, ?_⟩⟩⟩)))))⟩)));refine SW.cut rfl (SW.assign rfl (B.loc (x := "sound") rfl rfl).1 (EW.bC rfl (EW.item (fun U U U => rfl) (EW.item (fun U U U => rfl) (EW.lv B 16 rfl rfl rfl (EW.int ⟨rows, 0, _, .inl rfl, rfl, Mw, by decide, EW.int ⟨_, 0, _, .inr rfl, rfl, rfl, by decide, EW.str ⟨_, .cH 7 rfl rfl, ?_⟩⟩⟩))))));exact IM B iR CF (lA vH).l h
theorem HT (F : aE g) (LF : iL g) (B : Bd C (top 45)) {k : Nat} (hb : T.bd.length <= 1000) (hg : T.bg.length <= 1000) (hw : kD T.bd = some k) (vH : gZ T.fl T.bd (T.at_ + T.bg.length) k = some rows) (iR : rows = .tup (.str tag :: us) :: r) (hl : ds.length <= 700)
  (h : P (uJ T (pF T.fl tag ((if ends = 2 then ds ++ [bO "<block end>" .none (.int T.at_) T.at_] else ds) ++ [bO "-" .none (.int T.at_) (T.at_ + 1)]) T.at_ ++ rows) (if (tag == "<block mapping start>") = true then 2 else 1) (tag != "refused") (.val (.lst rows))) σ) :
  SW g 10 C ρ (fun U U U => False) (kS.drop 14) (uJ T ds ends true gF) σ (Dn P Q) := by
 refine SW.cut rfl (SW.hZ rfl (BW.bC rfl (EW.lv B 6 rfl rfl rfl (EW.int ?_))));refine ⟨fun qG => ?_, fun qG => SW.nil (CV F LF B hb hg hw vH iR (Nat.le_trans hl (by decide)) ?_)⟩
 ·have CF : (ds ++ [bO "<block end>" .none (.int T.at_) T.at_]).length <= 800 := by rw [List.length_append]; exact Nat.le_trans (Nat.add_le_add_right hl 1) (by decide)
  rw [if_pos (of_decide_eq_true qG)] at h;exact SW.cut rfl (SW.expr (B.int rfl) rfl (EW.dZ (B.loc (x := "due") rfl rfl) (aO 5 rfl) ⟨_, rfl⟩ rfl (EW.row (tag := "<block end>") (val := .none) (s := .int T.at_) (j := T.at_) rfl (EW.str (EW.none (EW.lv B 14 rfl rfl rfl (EW.lv B 14 rfl rfl rfl ⟨rfl, _, _, aO 5 rfl, Nat.le_trans hl (by decide), .cH 5 rfl rfl, rfl, SW.nil (CV F LF B hb hg hw vH iR CF h)⟩)))))))
 ·rw [if_neg (of_decide_eq_false qG)] at h;exact h
end
section
variable {C : Cx} {c : Addr} {P : aF -> bQ -> Prop} {Q : dD}
theorem Ln (F : aE g) (LF : iL g) (B : Bd C (top 45)) (hc : mF C "m" c) {st yR : LS} {k : Nat} (ok : sG k st) (hk : k <= 20) (e : fU st = some yR)
  {cC n_ dF gY lL kB cZ iQ at_ begin_ gF jO lN eI fA gL : LV} {w : Option V} (hr : gF.free = true)
  (h : ∀ n_ m_ lL kB cZ iQ at_ begin_ gF : LV, n_.free = true -> lL.free = true -> kB.free = true -> cZ.free = true -> iQ.free = true -> at_.free = true -> begin_.free = true -> gF.free = true -> (∃ i, m_ = .cell c (some (.int i))) ->
   P (rB cC n_ (.ml (yR.aP.map V.int)) dF (.val (.str yR.text)) (.ml yR.dA) (.val (.int yR.ends)) (.val (.bool yR.sound)) gY m_ lL kB cZ iQ at_ begin_ gF jO lN eI fA gL) σ) :
  SW g 10 C ρ (fun U U U => False) kS (rB cC n_ (.ml (st.aP.map V.int)) dF (.val (.str st.text)) (.ml st.dA) (.val (.int st.ends)) (.val (.bool st.sound)) gY (.cell c w) lL kB cZ iQ at_ begin_ gF jO lN eI fA gL) σ (Dn P Q) := by
 refine Ik F LF B hc ok hk ?_;have sl := oS (aM st.aP.tail.tail);have b5 := Nat.le_trans (lH (n := aM st.aP) (m := aM st.aP.tail) sl) (by decide : 16 <= 1000);have bl := Nat.le_trans (mJ (bV (aM st.aP) (bD (aM st.aP.tail.tail)))) (by decide : 3 <= 1000);have dl : st.dA.length <= 700 := Nat.le_trans ok.du.l (Nat.le_trans (Nat.add_le_add_left (Nat.mul_le_mul_left 10 hk) 2) (by decide));refine SW.cut rfl (SW.hZ rfl (BW.not (BW.val (fun U => rfl) (EW.lv B 7 rfl rfl rfl ?_))));show yJ g 10 C ρ _ _ _ _ (!st.sound) _ _;cases Dd e with
 | off hs =>
  have h := h (.val (.int (aM st.aP))) (.cell c (some (.int (aM st.aP.tail)))) (.val (.str (bD (aM st.aP.tail.tail)))) (.val (.bool (bV (aM st.aP) (bD (aM st.aP.tail.tail))))) (.val (.str (bR (aM st.aP) (aM st.aP.tail)))) (.val (.str (eS (aM st.aP) (aM st.aP.tail) (bD (aM st.aP.tail.tail))))) (.val (.int st.text.length)) (.val (.str (bL (bV (aM st.aP) (bD (aM st.aP.tail.tail)))))) gF rfl rfl rfl rfl rfl rfl rfl hr ⟨_, rfl⟩;rw [hs] at h ⊢;exact .p1 (SW.cut rfl (SW.cont h))
 | on hs k2 rows tag us r hw vH iR =>
  have h := h (.val (.int (aM st.aP))) (.cell c (some (.int (aM st.aP.tail)))) (.val (.str (bD (aM st.aP.tail.tail)))) (.val (.bool (bV (aM st.aP) (bD (aM st.aP.tail.tail))))) (.val (.str (bR (aM st.aP) (aM st.aP.tail)))) (.val (.str (eS (aM st.aP) (aM st.aP.tail) (bD (aM st.aP.tail.tail))))) (.val (.int st.text.length)) (.val (.str (bL (bV (aM st.aP) (bD (aM st.aP.tail.tail)))))) (.val (.lst rows)) rfl rfl rfl rfl rfl rfl rfl (V.qF (lA vH).t) ⟨_, rfl⟩;rw [hs];exact .p2 (SW.nil (HT (T := ⟨cC, dF, gY, jO, lN, eI, fA, gL, c, aM st.aP, aM st.aP.tail, bD (aM st.aP.tail.tail), bR (aM st.aP) (aM st.aP.tail), eS (aM st.aP) (aM st.aP.tail) (bD (aM st.aP.tail.tail)), bL (bV (aM st.aP) (bD (aM st.aP.tail.tail))), st.text ++ bL (bV (aM st.aP) (bD (aM st.aP.tail.tail))) ++ eS (aM st.aP) (aM st.aP.tail) (bD (aM st.aP.tail.tail)), bV (aM st.aP) (bD (aM st.aP.tail.tail)), st.aP.tail.tail.tail.map V.int, st.text.length⟩) F LF B b5 bl hw vH iR dl h))
end
end
theorem Dr (x : Str) {p : Nat} (hp : p <= x.length) : Txt.slice x (some (p : Int)) none = ⟨(x.cps.toList.drop p).toArray⟩ := by
 rw [nM x (p := p) (m := x.length - p) hp (Nat.le_refl _) ?_]
 ·rw [List.take_of_length_le (by rw [List.length_drop]; exact Nat.le_refl _)]
 ·show sliceRange (max 0 (min (if ((p : Nat) : Int) < 0 then (p : Int) + (x.length : Nat) else p) (x.length : Nat))) ((x.length : Nat) : Int) 1 = _;rw [Kj, jT, Nat.min_eq_left hp]
theorem AG (l : Nat) : max (0 : Int) (min (-1 + (l : Int)) l) = ((l - 1 : Nat) : Int) := by
 cases l with
 | zero => rfl
 | succ k =>
  have e : -1 + ((k + 1 : Nat) : Int) = k := by lia
  rw [e, Int.min_eq_left (Int.ofNat_le.mpr (Nat.le_succ k)), Int.max_eq_right (Int.natCast_nonneg _)]; rfl
theorem tC (x : Str) : Txt.slice x none (some (-1)) = ⟨(x.cps.toList.take (x.length - 1)).toArray⟩ := by
 rw [nM x (p := 0) (m := x.length - 1) (Nat.zero_le _) (Nat.sub_le _ _) ?_]
 ·rw [List.drop_zero]
 ·show sliceRange ((0 : Nat) : Int) (max 0 (min (-1 + (x.length : Nat)) (x.length : Nat))) 1 = _;rw [AG, jT]; rfl
section
set_option genInjectivity false
set_option genSizeOf false
theorem sV : ∀ l : List Int, V.frees (l.map V.int) = true
 | [] => rfl
 | _ :: l => sV l
section
variable {C : Cx} {c : Addr}
structure WO where
 n : LV
 entry : LV
 m : LV
 sign : LV
 aA : LV
 gJ : LV
 body : LV
 at_ : LV
 begin_ : LV
 rows : LV
noncomputable def WO.ok (W : WO) : Bool := W.n.free && (W.entry.free && (W.m.free && (W.sign.free && (W.aA.free && (W.gJ.free && (W.body.free && (W.at_.free && (W.begin_.free && W.rows.free))))))))
noncomputable def Ad (W : WO) (aZ first : LV) (tp : List V) (tx : Str) (dA : List V) (ends : Int) (sound : Bool) (iV : LV) : aF :=
 rB aZ W.n (.ml tp) first (.val (.str tx)) (.ml dA) (.val (.int ends)) (.val (.bool sound)) W.entry W.m W.sign W.aA W.gJ W.body W.at_ W.begin_ W.rows iV .un .un .un .un
theorem Gv {W : WO} {aZ first : LV} {tp dA : List V} {tx : Str} {ends : Int} {sound : Bool} (h : W.ok = true) (h1 : aZ.free = true) (h2 : first.free = true) (h3 : V.frees tp = true) (h4 : V.frees dA = true) : ((Ad W aZ first tp tx dA ends sound .un).all fun p => p.2.free) = true := by
 obtain ⟨n, entry, m, sign, aA, gJ, body, at_, begin_, rows⟩ := W;have h : (n.free && (entry.free && (m.free && (sign.free && (aA.free && (gJ.free && (body.free && (at_.free && (begin_.free && rows.free)))))))) ) = true := h;show (aZ.free && (n.free && (V.frees tp && (first.free && (true && (V.frees dA && (true && (true && (entry.free && (m.free && (sign.free && (aA.free && (gJ.free && (body.free && (at_.free && (begin_.free && (rows.free && true))))))))))))))))) = true;rw [h1, h2, h3, h4];simp only [Bool.and_eq_true] at h ⊢;refine AJ h fun a b c d e f g i j k => ?_;exact ⟨trivial, a, trivial, trivial, trivial, trivial, trivial, trivial, b, c, d, e, f, g, i, j, k, trivial⟩
inductive QY (c : Addr) (cC dF : LV) (N : Nat) (yR : LS) (i : Nat) (l : aF) (s : bQ) : Prop
 | mk (st : LS) (e : qY (N - i) st = some yR) (ok : sG i st) (W : WO) (hw : W.ok = true) (w : Option V) (hm : W.m = .cell c w)
  (el : l = Ad W cC dF (st.aP.map V.int) st.text st.dA st.ends st.sound .un) (es : s = none)
theorem Ah {aP : List Int} (h1 : aP.length <= 10) (h2 : ∀ n ∈ aP, 0 <= n) : sG 0 (mO aP) := ⟨h1, h2, Nat.le_refl _, ⟨Nat.le_refl _, rfl⟩, .inl rfl⟩
theorem sP (l : List Int) : (kG l).length <= 10 := by
 unfold kG;rw [List.length_map, List.length_take]; lia
theorem wJ (l : List Int) : ∀ n ∈ kG l, 0 <= n := fun n hn => by
 refine aR (List.mem_map.mp hn) fun m U cN => ?_;subst cN;exact Int.emod_nonneg _ (by decide)
theorem sG.AR {k : Nat} {st : LS} (h : sG k st) (hk : k <= 3) : sG 3 st := ⟨h.tl, h.tr, Nat.le_trans h.tx (Nat.mul_le_mul_left 20 hk), h.du.mono (Nat.add_le_add_left (Nat.mul_le_mul_left 10 hk) 2), h.en⟩
def Lw (g : Gl) (C : Cx) (text : Str) (dA : List V) : Prop := ∀ ρ' ka ko (W : WO) (cC dF : LV) (tp : List V) (ends : Int) (sound : Bool), aY 40 dA -> lQ g 10 C ρ' (execs ((top 45).body.drop 10) C.env) (Ad W cC dF tp text dA ends sound (.val .self)) (some ((Z.init text.cps.toList).sc ka ko))
section
variable {W : WO} {cC dF : LV} {tp dA : List V} {ends : Int} {sound : Bool} {text : Str}
theorem NF (F : aE g) (SF : rF g) (B : Bd C (top 45)) (hf : W.ok = true) (h1 : cC.free = true) (h2 : dF.free = true) (h3 : V.frees tp = true) (hs : aY 40 dA) (tl : text.length <= 60) (hp : ∀ c ∈ text.cps.toList, rI c = true) (h : Lw g C text dA) :
  lQ g 10 C ρ (execs ((top 45).body.drop 9) C.env) (Ad W cC dF tp text dA ends sound .un) none :=
 lQ.iV F SF (by decide) B.hh (B.glob rfl) (B.loc (x := "text") rfl rfl) (B.loc (x := "scanner") rfl rfl) (aO 4 rfl) hp (Nat.le_trans tl (by decide)) (Gv hf h1 h2 h3 (V.qF hs.t)) (.cH 17 rfl rfl) rfl fun ρ' ka ko => h ρ' ka ko W _ _ _ _ _ hs
theorem yO (F : aE g) (B : Bd C (top 45)) {loc : aF} {p1 p2 : Pos} (tl : text.length <= 60) (hm : jW loc 4 = some (("text" : Str), LV.val (.str text))) (hq : Q (.int text.length) loc none) : EW g 10 C ρ (fun U U U => False) (.Call (.Name "len" p1) [.Name "text" p2] [] p3) loc none Q :=
 EW.len rfl (EW.builtin (F.n 0 rfl) rfl (by decide) (B.glob rfl) rfl ⟨rfl, EW.lv B 4 rfl rfl hm ⟨Nat.le_trans tl (by decide), hq⟩⟩)
theorem RZ (F : aE g) (SF : rF g) (B : Bd C (top 45)) (hf : W.ok = true) (h1 : cC.free = true) (h2 : dF.free = true) (h3 : V.frees tp = true) {ds : List V} (du : aY 32 ds) (en : ends = 1 \/ ends = 2) (tl : text.length <= 60) (hp : ∀ c ∈ text.cps.toList, rI c = true)
  (hd : dA = if sound = true then ds ++ (List.replicate ends.toNat [bO "<block end>" .none (.int text.length) text.length]).flatten ++ [bO "<stream end>" .none (.int text.length) text.length] else ds) (h : Lw g C text dA) :
  lQ g 10 C ρ (execs ((top 45).body.drop 8) C.env) (Ad W cC dF tp text ds ends sound .un) none := by
 refine lQ.cons (SW.nN (BW.val (fun U => rfl) (EW.lv B 7 rfl rfl rfl ?_)));induction sound with
 | false =>
  have hd : dA = ds := hd;subst hd;exact .p2 (SW.nil ⟨rfl, NF F SF B hf h1 h2 h3 (du.mono (by decide)) tl hp h⟩)
 | true =>
 have hd : ds ++ (List.replicate ends.toNat [bO "<block end>" .none (.int text.length) text.length]).flatten ++ [bO "<stream end>" .none (.int text.length) text.length] = dA := hd.symm;obtain ⟨k, hk, k2⟩ : ∃ k : Nat, ends = k /\ k <= 2 := by
  rcases en with h | h
  ·exact ⟨1, h, by decide⟩
  ·exact ⟨2, h, by decide⟩
 subst hk;have rp : aY 2 (List.replicate k [bO "<block end>" .none (.int text.length) text.length]).flatten := by
  clear hd h du en tl
  rcases k with U | U | U | k
  ·exact ⟨Nat.zero_le _, rfl⟩
  ·exact ⟨Nat.le_of_ble_eq_true rfl, rfl⟩
  ·exact ⟨Nat.le_of_ble_eq_true rfl, rfl⟩
  ·exact absurd k2 (by lia)
 have key : aY 40 dA := by
  rw [← hd];exact ((du.app rp).app (aY.row rfl rfl)).mono (by decide)
 have l1 : ds.length + (List.replicate k [bO "<block end>" .none (.int text.length) text.length]).flatten.length <= 34 := Nat.add_le_add du.l rp.l;have l2 : (ds ++ (List.replicate k [bO "<block end>" .none (.int text.length) text.length]).flatten).length + 1 <= 35 := by rw [List.length_append]; exact Nat.add_le_add_right l1 1
 refine .p1 (SW.cons (SW.nC (B.loc (x := "due") rfl rfl) rfl (EL.Zy (EW.JD (EL.own (B.loc (x := "due") rfl rfl) (aO 5 rfl) (EL.Zy (EW.mulL (EW.qL rfl (EW.row (tag := "<block end>") (val := .none) (s := .int text.length) (j := text.length) rfl (EW.str (EW.none (yO F B tl rfl (yO F B tl rfl ⟨rfl, (by decide : (1 : Nat) <= sizeLine), ?_⟩)))))))))))));refine EW.lv B 6 rfl rfl rfl ⟨_, k, rfl, rfl, Nat.le_trans (Nat.mul_le_mul_left 1 k2) (by decide), Nat.lt_of_le_of_lt k2 (by decide), _, rfl, rfl, Nat.le_trans l1 (by decide), _, rfl, ?_⟩;refine EL.Zy (EW.qL rfl (EW.row (tag := "<stream end>") (val := .none) (s := .int text.length) (j := text.length) rfl (EW.str (EW.none (yO F B tl rfl (yO F B tl rfl ⟨rfl, (by decide : (1 : Nat) <= sizeLine), _, rfl, rfl, Nat.le_trans l2 (by decide), _, .cH 5 rfl rfl, SW.nil ⟨rfl, ?_⟩⟩))))));show lQ g 10 C ρ _ (Ad W cC dF tp text (ds ++ (List.replicate k [bO "<block end>" .none (.int text.length) text.length]).flatten ++ [bO "<stream end>" .none (.int text.length) text.length]) _ _ .un) none;rw [show ds ++ (List.replicate k [bO "<block end>" .none (.int text.length) text.length]).flatten ++ [bO "<stream end>" .none (.int text.length) text.length] = dA from hd];exact NF F SF B hf h1 h2 h3 key tl hp h
theorem zI {first : Int} {st : LS} {n : Nat} (h : st.text.length <= n) : (dP first st).length <= n := by
 unfold dP
 split
 ·rw [tC];show (List.length _) <= _;rw [List.length_take];exact Nat.le_trans (Nat.min_le_right _ _) h
 ·exact h
theorem QJ (F : aE g) (SF : rF g) (B : Bd C (top 45)) (hf : W.ok = true) (h1 : cC.free = true) (h3 : V.frees tp = true) {first : Int} {st : LS} (f0 : 0 <= first) (ok : sG 3 st) (et : dP first st = text) (ed : mD st (dP first st).length = dA) (hp : ∀ c ∈ text.cps.toList, rI c = true) (h : Lw g C text dA) :
  lQ g 10 C ρ (execs ((top 45).body.drop 7) C.env) (Ad W cC (.val (.int first)) tp st.text st.dA st.ends st.sound .un) none := by
 have tl : text.length <= 60 := et ▸ zI ok.tx;have go : lQ g 10 C ρ (execs ((top 45).body.drop 8) C.env) (Ad W cC (.val (.int first)) tp (dP first st) st.dA st.ends st.sound .un) none := by
  rw [et] at ed ⊢;exact RZ F SF B hf h1 rfl h3 ok.du ok.en tl hp ed.symm h
 revert go;unfold dP;intro go;refine lQ.cons (SW.nN (BW.bC rfl (EW.fmod (EW.fdiv (EW.lv B 3 rfl rfl rfl (EW.int ⟨_, _, rfl, rfl, by decide, by decide, EW.int ⟨_, _, rfl, rfl, by decide, by decide, EW.int ?_⟩⟩))))));refine ⟨fun hb => ?_, fun hb => SW.nil ⟨rfl, ?_⟩⟩
 ·rw [if_pos (of_decide_eq_true hb)] at go;exact SW.cons (SW.assign rfl (B.loc (x := "text") rfl rfl).1 (EW.sliceTo (fun U U U => rfl) (fun U U U => rfl) (EW.lv B 4 rfl rfl rfl (EW.neg (EW.int ⟨_, rfl, _, _, rfl, rfl, Nat.le_trans ok.tx (by decide), _, .cH 4 rfl rfl, SW.nil ⟨rfl, go⟩⟩)))))
 ·rw [if_neg (of_decide_eq_false hb)] at go;exact go
end
theorem Iw (F : aE g) (SF : rF g) (LF : iL g) (B : Bd C (top 45)) (hc : mF C "m" c) {a : Addr} {vals : List Value} {aZ : List Int} (hl : C.h₀.IsList a vals.toArray) (hi : IntsAre vals aZ) (hn : aZ.length <= 1000) {text : Str} {dA : List V} (e : Ak aZ = some (text, dA)) (hp : ∀ c ∈ text.cps.toList, rI c = true)
  (h : ∀ ρ' ka ko cC n_ Gm dF Gi xF gY m_ lL kB cZ iQ at_ begin_ gF, aY 40 dA -> lQ g 10 C ρ' (execs ((top 45).body.drop 10) C.env) (rB cC n_ Gm dF (.val (.str text)) (.ml dA) Gi xF gY m_ lL kB cZ iQ at_ begin_ gF (.val .self) .un .un .un .un) (some ((Z.init text.cps.toList).sc ka ko))) :
  lQ g 10 C ρ (execs (top 45).body C.env) (rB (.val (.glob (.ref a))) .un .un .un .un .un .un .un .un (.cell c none) .un .un .un .un .un .un .un .un .un .un .un .un) none := by
 have t0 := sP aZ;have t1 := wJ aZ;unfold Ak at e;obtain ⟨tp, Yx⟩ : ∃ tp, tp = kG aZ := ⟨_, rfl⟩;rw [← Yx] at e t0 t1;have l0 : tp.length <= 1000 := Nat.le_trans t0 (by decide);refine lQ.cons (SW.aP B.hh rfl rfl (B.loc (x := "tape") rfl rfl) (B.loc (x := "script") rfl rfl) (.head _) hl hi hn (fun U => rfl) (by show swapsWith _ _ _ (envX C.cn C.cs C.L C.a C.Bu C.cl) = _; rw [B.cs]; rfl) ⟨_, (.cH 2 rfl rfl), rfl, ?_⟩);rw [show ((aZ.take 10).map fun n => V.int (n % 1073741824)) = tp.map V.int by rw [Yx]; unfold kG; rw [List.map_map]; rfl];clear Yx;refine lQ.cons (SW.assign rfl (B.loc (x := "first") rfl rfl).1 (EW.next LF B.hh (by decide) (B.glob rfl) (B.loc (x := "tape") rfl rfl) (aO 2 rfl) l0 (.cH 2 rfl rfl) ⟨_, (.cH 3 rfl rfl), rfl, ?_⟩));have f0 := mP t1;refine lQ.cons (SW.assign rfl (B.loc (x := "text") rfl rfl).1 (EW.str ⟨_, (.cH 4 rfl rfl), rfl, ?_⟩));refine lQ.cons (SW.dU (B.loc (x := "due") rfl rfl) rfl ?_);refine EW.row (tag := "<stream start>") (val := .none) (s := .int 0) (j := 0) rfl (EW.str (EW.none (EW.int (EW.int ⟨rfl, ?_⟩))));refine EW.row (tag := "<block sequence start>") (val := .none) (s := .int 0) (j := 0) rfl (EW.str (EW.none (EW.int (EW.int ⟨rfl, (by decide : (2 : Nat) <= sizeLine), _, (.cH 5 rfl rfl), rfl, ?_⟩))));refine lQ.cons (SW.assign rfl (B.loc (x := "ends") rfl rfl).1 (EW.int ⟨_, (.cH 6 rfl rfl), rfl, ?_⟩));refine lQ.cons (SW.assign rfl (B.loc (x := "sound") rfl rfl).1 (EW.bool ⟨_, (.cH 7 rfl rfl), rfl, ?_⟩));refine aR (Option.map_eq_some_iff.mp e) fun fin Cu e => ?_;have e1 := (Prod.mk.inj e).1;have e2 := (Prod.mk.inj e).2;have m0 : 0 <= aM tp % 3 := Int.emod_nonneg _ (by decide);have m1 : aM tp % 3 < 3 := Int.emod_lt_of_pos _ (by decide);obtain ⟨N, hN⟩ : ∃ N : Nat, 1 + aM tp % 3 = N := ⟨_, (Int.toNat_of_nonneg (Int.add_nonneg (by decide) m0)).symm⟩;have N3 : N <= 3 := by
  clear e Cu e1 e2 f0 t1
  lia
 rw [hN, Int.toNat_natCast] at Cu;refine lQ.cons (SW.Lm B.hh (B.loc (x := "entry") rfl rfl) rfl N (Nat.le_trans N3 (by decide)) (QY c (.val (.glob (.ref a))) (.val (.int (aM tp))) N fin) (EW.builtin (F.n 5 rfl) rfl (by decide) (B.glob rfl) rfl ⟨rfl, EW.add (EW.int (EW.fmod (EW.lv B 3 rfl rfl rfl (EW.int ⟨_, _, rfl, rfl, by decide, by decide, _, _, rfl, rfl, by rw [hN], ?_⟩))))⟩) ?_ ?_ fun U => rfl)
 ·exact ⟨mO tp.tail, Cu, Ah (by rw [List.length_tail]; exact Nat.le_trans (Nat.sub_le _ _) t0) (dI t1), ⟨.un, .un, .cell c none, .un, .un, .un, .un, .un, .un, .un⟩, rfl, none, rfl, rfl, rfl⟩
 ·rintro i l s pK ⟨st, he, ok, W, hw, w, hm, rfl, rfl⟩
  rw [show N - i = (N - (i + 1)) + 1 from (Nat.sub_add_cancel (Nat.sub_pos_of_lt pK) ▸ rfl : N - i = N - i - 1 + 1)] at he;refine aR (Option.bind_eq_some_iff.mp he) fun NL h2 h3 => ?_;obtain ⟨n_, gY, m_, lL, kB, cZ, iQ, at_, begin_, gF⟩ := W;cases hm;have hr : gF.free = true := by
   have := hw;unfold WO.ok at this;simp only [Bool.and_eq_true] at this;exact this.2.2.2.2.2.2.2.2.2
  refine ⟨_, (.cH 8 rfl rfl), ?_⟩;refine Ln F LF B hc ok (Nat.le_trans (Nat.le_of_lt pK) (Nat.le_trans N3 (by decide))) h2 hr fun n2 m2 Uc Tc yX qP at2 Kg Tf g1 g2 g3 g4 g5 g6 g7 g8 hm => ?_;obtain ⟨i2, rfl⟩ := hm;refine ⟨NL, h3, vW ok h2, ⟨n2, .val (.int i), _, Uc, Tc, yX, qP, at2, Kg, Tf⟩, ?_, _, rfl, rfl, rfl⟩;show (n2.free && (true && (true && (Uc.free && (Tc.free && (yX.free && (qP.free && (at2.free && (Kg.free && Tf.free))))))))) = true;rw [g1, g2, g3, g4, g5, g6, g7, g8]; rfl
 ·rintro l s ⟨st, he, ok, W, hw, w, hm, rfl, rfl⟩
  rw [Nat.sub_self] at he;cases he;exact ⟨rfl, QJ F SF B hw rfl (sV _) f0 (ok.AR N3) e1 e2 hp fun ρ' ka ko W cC dF tp ends sound hs => h ρ' ka ko _ _ _ _ _ _ _ _ _ _ _ _ _ _ _ hs⟩
end
end
inductive lM : Option (V × V) -> Prop
 | none : lM none
 | err {c p : V} {j : Int} (hc : c = .none \/ ∃ i, iY c i) (hp : iY p j) : lM (some (c, p))
theorem pX {f : Nat} : ∀ {n : Nat} {z : Z} {got : List V} {r : List V × Option (V × V)}, kT f n z got = some r -> ∃ ys, r.1 = got ++ ys
 | 0, _, _, _, h => nomatch h
 | n + 1, z, got, r, h => by
  rw [Ga] at h;cases hg : eN f f z with
  | ok o z2 =>
   rw [hg] at h;cases o with
   | none => cases h; exact ⟨[], (List.append_nil _).symm⟩
   | some t =>
    obtain ⟨ys, e⟩ := pX h;exact ⟨_ :: ys, by rw [e, List.append_assoc]; rfl⟩
  | err c p => rw [hg] at h; cases h; exact ⟨[], (List.append_nil _).symm⟩
  | wall => rw [hg] at h; exact nomatch h
theorem eD.inst {t : V} (h : eD t) : ∃ C ns vs, t = .inst C ns vs := by
 induction h <;> exact (KV _ _ _ rfl)
section
variable {C : Cx}
inductive GL (r : List V × Option (V × V)) (dA : List V) (L : LV -> LV -> aF) (k : Nat) (l : aF) (s : bQ) : Prop
 | go (t : V) (z : Z) (ka : Addr) (ko : Obj) (got : List V) (hd : kT 1000 k z (got ++ [t]) = some r) (ok : Ok z) (el : l = L (.ml (got.map dC)) (.val t)) (es : s = some (z.sc ka ko))
 | fin (el : l = L (.ml dA) (.val .none))
noncomputable def FI (told token refusal context : LV) : aF := [("told", told), ("token", token), ("refusal", refusal), ("context", context)]
noncomputable def Rw (pre : aF) (told token refusal context : LV) : aF := pre ++ FI told token refusal context
theorem iP {pre : aF} {a b c d : LV} {p : Str × LV} (i : Nat) (h : jW (FI a b c d) i = some p) : p ∈ Rw pre a b c d := List.mem_append_right pre (aO i h)
theorem cK.KQ {x : Str} {lv : LV} (pre : aF) {l : aF} (h : cK x lv l l') : cK x lv (pre ++ l) (pre ++ l') := by
 induction pre with
 | nil => exact h
 | cons p r ih => exact .tail ih
theorem cK.rd {pre : aF} {a b c d : LV} {x : Str} {lv : LV} (i : Nat) (hl : Nat.blt i 4 = true) (h : Dp (FI a b c d) i = x) : cK x lv (Rw pre a b c d) (pre ++ Mg (x, lv) i (FI a b c d)) := .KQ pre (.cH i hl h)
noncomputable def KS : Fl -> aF -> bQ -> Prop := fun f U U => f = .ret (.bool true)
noncomputable def AM (g : Gl) (C : Cx) (ρ : bZ) : uG -> aF -> bQ -> Prop := AA g 10 C ρ "refusal" 511 (qZ (top 45).body 11 1) (lO g 10 C ρ (fun U U U => False) ((top 45).body.drop 12) KS)
section
variable {dA : List V} {r : List V × Option (V × V)} {pre : aF} {s : bQ} {X : dW} {lN eI fA gL : LV}
theorem Kk (B : Bd C (top 45)) (hs : aY 40 dA) (nH : (("due" : Str), LV.ml dA) ∈ pre) : SW g 10 C ρ (fun U U U => False) ((top 45).body.drop 12) (Rw pre (.ml dA) eI fA gL) s KS :=
 SW.cons (SW.ret (EW.PG rfl (by decide) (EL.own (B.loc (x := "told") rfl rfl) (iP 0 rfl) (EL.own (B.loc (x := "due") rfl rfl) (List.mem_append_left _ nH) ⟨rfl, rfl, hs.t, rfl⟩))))
theorem Qy (F : aE g) (B : Bd C (top 45)) {hv : Option Value} {c : V} (hc : c = .none \/ ∃ i, iY c i) (h : Q (bU c) (Rw pre lN eI fA (.val c)) s) :
  EW g 10 (C.mark hv) ρ X ((Yq ((Yq (Bc ((qZ (top 45).body 11 1).getD 1 (.Pass default)))).getD 0 (.Constant .none 0 default))).getD 2 (.Constant .none 0 default)) (Rw pre lN eI fA (.val c)) s Q := by
 refine EW.uC (BW.bC rfl (EW.var (B.loc (x := "context") rfl rfl) (iP 3 rfl) (EW.none ?_)))
 rcases hc with rfl | ⟨i, hi⟩
 ·exact ⟨fun U => EW.none h, fun h => nomatch h⟩
 ·induction hi
  exact ⟨fun h => (nomatch h), fun U => EW.kU rfl (EW.var (B.loc (x := "context") rfl rfl) (iP 3 rfl) (BV 53 _ _ _ rfl F.Nn (by decide +kernel) (.tail _ (.head _)) rfl h))⟩
theorem Nz (F : aE g) (LF : iL g) (B : Bd C (top 45)) (hs : aY 40 dA) (nH : (("due" : Str), LV.ml dA) ∈ pre) {told : List V} {c p : V} (hc : c = .none \/ ∃ i, iY c i) (hp : iY p j) (hl : told.length <= 40) (e : told ++ [bO "refused" .none (bU c) j] = dA) {x : uG} (hx : Au x c p) :
  AM g C ρ x (Rw pre (.ml told) eI .un .un) s := by
 obtain ⟨TZ, UG, UR⟩ := x;obtain ⟨rfl, rfl, c', p', rfl⟩ := hx;refine ⟨rfl, _, (.rd 2 rfl rfl), fun hv => ?_⟩;refine aR hp.inst fun us NS IY => ?_;have nd : oP.Nodup := by decide
 refine SW.cons (SW.assign rfl (B.loc (x := "context") rfl rfl).1 (EW.kU rfl (EW.var (B.loc (x := "refusal") rfl rfl) (iP 2 rfl) ⟨511, oP, _, c, rfl, LF.err _ (.head _), nd, .tail _ (.head _), ?_, _, (.rd 3 rfl rfl), ?_⟩)))
 ·rcases hc with rfl | ⟨i, hi⟩
  ·rfl
  ·induction hi; rfl
 refine SW.cons (SW.expr (B.int rfl) rfl (EW.dZ (B.loc (x := "told") rfl rfl) (iP 0 rfl) ⟨_, rfl⟩ rfl (EW.row (tag := "refused") (val := .none) (s := bU c) (j := j) rfl (EW.str (EW.none (Qy F B hc ?_))))));refine EW.bU F (B.loc (x := "refusal") rfl rfl) (iP 2 rfl) (LF.err _ (.tail _ (.head _))) nd (.tail _ (.tail _ (.tail _ (.head _)))) hp ?_;refine ⟨rfl, _, _, (iP 0 rfl), Nat.le_trans hl (by decide : 40 <= sizeLine), (.rd 0 rfl rfl), rfl, SW.nil ⟨rfl, _, (.rd 2 rfl rfl), ?_⟩⟩;rw [e];exact Kk B hs nH
noncomputable def Ax (pre : aF) (lN eI : LV) : aF := Rw pre lN eI .un .un
inductive TK (r : List V × Option (V × V)) (dA : List V) (pre : aF) (k : Nat) (got : List V) (eI : LV) (v : V) (l : aF) (s : bQ) : Prop
 | mk (hj : GL r dA (Ax pre) k (Ax pre (.ml (got.map dC)) (.val v)) s) (el : l = Ax pre (.ml (got.map dC)) eI)
theorem Jh (hs : aY 40 dA) (hd : gR r = dA) : r.1.length <= 40 := by
 refine Nat.le_trans ?_ hs.l;rw [← hd];obtain ⟨ts, o⟩ := r;induction o with
 | none => show ts.length <= (ts.map dC).length; rw [List.length_map]; exact Nat.le_refl _
 | some cp => show ts.length <= (ts.map dC ++ _).length; rw [List.length_append, List.length_map]; exact Nat.le_add_right _ _
theorem Uu (F : aE g) (LF : iL g) (B : Bd C (top 45)) (hs : aY 40 dA) (nH : (("due" : Str), LV.ml dA) ∈ pre) (hd : gR r = dA) (he : lM r.2) {c p : V} (hr : (got, some (c, p)) = r) {x : uG} (hx : Au x c p) : AM g C ρ x (Ax pre (.ml (got.map dC)) eI) s := by
 have hl := Jh hs hd;subst hr;have he : lM (some (c, p)) := he;obtain ⟨j, hc, hp⟩ : ∃ j, (c = .none \/ ∃ i, iY c i) /\ iY p j := by
  cases he with | err hc hp => exact (eO _ hc hp)
 refine Nz F LF B hs nH hc hp (by rw [List.length_map]; exact hl) ?_ hx;rw [← hd];induction hp; rfl
theorem Gj (F : aE g) (LF : iL g) (B : Bd C (top 45)) (hs : aY 40 dA) (nH : (("due" : Str), LV.ml dA) ∈ pre) (Gk : (("scanner" : Str), LV.val .self) ∈ pre) (hd : gR r = dA) (he : lM r.2) {k : Nat} {p1 p2 : Pos} (hm : bS (.Name "scanner" p1) "get_token" p2 p3 [] C.env) (Bp : kT 1000 (k + 1) z got = some r) (ok : Ok z) :
  EW g 10 C ρ (AM g C ρ) (.Call (.Attribute (.Name "scanner" p1) "get_token" p2) [] [] p3) (Ax pre (.ml (got.map dC)) eI) (some (z.sc ka ko)) (TK r dA pre k got eI) := by
 refine EW.Ab (D' := 9) B.hh (F.m 6 rfl) (by decide +kernel) (by decide) hm rfl (EW.var (B.loc (x := "scanner") rfl rfl) (List.mem_append_left _ Gk) (fL rfl rfl ?_));refine Bk F 1000 1000 z ka ko _ _ ok ?_;rw [Ga] at Bp;revert Bp;generalize eN 1000 1000 z = a;intro Bp;cases a with
 | wall => exact nomatch Bp
 | err c p => exact fun x s hx => Uu F LF B hs nH hd he (Option.some.inj Bp) hx
 | ok o z2 =>
  induction o with
  | none =>
   have e := Option.some.inj Bp;have e2 : got.map dC = dA := by rw [← hd, ← e]; rfl
   exact fun ka ko uD => ⟨by rw [e2]; exact .fin rfl, rfl⟩
  | some t => exact fun ka ko uD => ⟨.go t z2 ka ko got Bp uD rfl rfl, rfl⟩
theorem Pr (F : aE g) (LF : iL g) (B : Bd C (top 45)) (hs : aY 40 dA) (nH : (("due" : Str), LV.ml dA) ∈ pre) (Gk : (("scanner" : Str), LV.val .self) ∈ pre) (hd : gR r = dA) (ht : ∀ t ∈ r.1, eD t) (he : lM r.2) {t : V} {k : Nat} (Bp : kT 1000 k z (got ++ [t]) = some r) (ok : Ok z) {Q : dD} :
  SW g 10 C ρ (AM g C ρ) (qZ (qZ (top 45).body 11 0) 1 0) (Ax pre (.ml (got.map dC)) (.val t)) (some (z.sc ka ko)) (Xu (GL r dA (Ax pre)) k Q) := by
 have rl := Jh hs hd;obtain ⟨ys, EY⟩ := pX Bp;have tt : eD t := ht t (by rw [EY]; simp);have gl : got.length <= 40 := by
  rw [EY, List.length_append, List.length_append] at rl; lia
 refine SW.cons (SW.expr (B.int rfl) rfl (EW.dZ (B.loc (x := "told") rfl rfl) (iP 0 rfl) ⟨_, rfl⟩ rfl (EW.lB (D' := 0) B.hh LF.Mx (by decide) rfl (EW.glob LF.Mq (B.glob rfl) rfl ⟨rfl, EW.var (B.loc (x := "token") rfl rfl) (iP 1 rfl) (Qp F LF tt ⟨_, _, (iP 0 rfl), by rw [List.length_map]; exact Nat.le_trans gl (by decide : 40 <= sizeLine), (.rd 0 rfl rfl), rfl, ?_⟩)⟩))));induction k with
 | zero => exact nomatch Bp
 | succ k =>
 have e : got.map dC ++ [dC t] = (got ++ [t]).map dC := by rw [List.map_append]; rfl
 rw [e];refine SW.cons (SW.assign rfl (B.loc (x := "token") rfl rfl).1 ((Gj F LF B hs nH Gk hd he ⟨_, rfl⟩ Bp ok).mono ?_))
 rintro v l s ⟨hj, rfl⟩
 exact ⟨_, (.rd 1 rfl rfl), SW.nil ⟨k, Nat.lt_succ_self k, hj⟩⟩
theorem Pn (F : aE g) (LF : iL g) (B : Bd C (top 45)) (hs : aY 40 dA) (nH : (("due" : Str), LV.ml dA) ∈ pre) (Gk : (("scanner" : Str), LV.val .self) ∈ pre) {text : List Nat} (BS : Ok (Z.init text)) (hr : kT 1000 1000 (Z.init text) [] = some r) (ht : ∀ t ∈ r.1, eD t) (he : lM r.2) (hd : gR r = dA) :
  SW g 10 C ρ (AM g C ρ) (qZ (top 45).body 11 0) (Rw pre (.ml []) (.un) (.un) (.un)) (some ((Z.init text).sc ka ko)) (lO g 10 C ρ (fun U U U => False) ((top 45).body.drop 12) KS) := by
 refine SW.cons (SW.assign rfl (B.loc (x := "token") rfl rfl).1 ((Gj F LF B hs nH Gk hd he (k := 999) (got := []) ⟨_, rfl⟩ hr BS).mono ?_))
 rintro v l s ⟨hj, rfl⟩
 refine ⟨_, (.rd 1 rfl rfl), ?_⟩;refine SW.cons (SW.nX (GL r dA (Ax pre)) 999 hj ?_);intro k l s hj;induction hj with
 | fin el =>
  subst el;exact BW.bC rfl (EW.var (B.loc (x := "token") rfl rfl) (iP 1 rfl) (EW.none ⟨fun h => (nomatch h), fun U => SW.nil (Kk B hs nH)⟩))
 | go t z ka ko got Bp ok el es =>
  subst el; subst es;refine BW.bC rfl (EW.var (B.loc (x := "token") rfl rfl) (iP 1 rfl) (EW.none ?_));have tt : eD t := ht t (by obtain ⟨ys, EY⟩ := pX Bp; rw [EY]; simp);refine CO tt.inst fun Ct ns vs cN => ?_;subst cN;exact ⟨fun U => Pr F LF B hs nH Gk hd ht he Bp ok, fun h => nomatch h⟩
end
theorem Ih (F : aE g) (LF : iL g) (B : Bd C (top 45)) (jQ : C.base = C.h₀) {dA : List V} (hs : aY 40 dA) {text : List Nat} (BS : Ok (Z.init text)) {r : List V × Option (V × V)} (hr : kT 1000 1000 (Z.init text) [] = some r) (ht : ∀ t ∈ r.1, eD t) (he : lM r.2) (hd : gR r = dA)
  {pre : aF} (nH : (("due" : Str), LV.ml dA) ∈ pre) (Gk : (("scanner" : Str), LV.val .self) ∈ pre) :
  lQ g 10 C ρ (execs ((top 45).body.drop 10) C.env) (Rw pre (.un) (.un) (.un) (.un)) (some ((Z.init text).sc ka ko)) := by
 refine lQ.cons (SW.dU (B.loc (x := "told") rfl rfl) rfl ⟨Nat.zero_le _, _, (.rd 0 rfl rfl), rfl, ?_⟩);refine lQ.TA ?_;obtain ⟨fI, qual, params, Tn, scope, dV, eW, sf, cR, co, _⟩ := F.Me;exact SW.cons (SW.JM jQ co (F.gl 1 rfl) (B.glob rfl) rfl (B.loc (x := "refusal") rfl rfl) (Pn F LF B hs nH Gk BS hr ht he hd))
theorem Kb (F : aE g) (LF : iL g) (B : Bd C (top 45)) (jQ : C.base = C.h₀) {dA : List V} (hs : aY 40 dA) {text : List Nat} (BS : Ok (Z.init text)) {r : List V × Option (V × V)} (hr : kT 1000 1000 (Z.init text) [] = some r) (ht : ∀ t ∈ r.1, eD t) (he : lM r.2) (hd : gR r = dA)
  {cC n_ Gm dF Sw Gi xF gY m_ lL kB cZ iQ at_ begin_ gF : LV} :
  lQ g 10 C ρ (execs ((top 45).body.drop 10) C.env) (rB cC n_ Gm dF Sw (.ml dA) Gi xF gY m_ lL kB cZ iQ at_ begin_ gF (.val .self) (.un) (.un) (.un) (.un)) (some ((Z.init text).sc ka ko)) :=
 Ih F LF B jQ hs BS hr ht he hd (pre := [("script", cC), ("n", n_), ("tape", Gm), ("first", dF), ("text", Sw), ("due", .ml dA), ("ends", Gi), ("sound", xF), ("entry", gY), ("m", m_), ("sign", lL), ("flow", kB), ("letters", cZ), ("body", iQ), ("at", at_), ("begin", begin_), ("rows", gF), ("scanner", .val .self)]) (aO 5 rfl) (aO 17 rfl)
end
section
set_option genInjectivity false
set_option genSizeOf false
structure Dx where
 dp : Int
 a0 : Int
 dl : Int
 dt : Int
 rest : List Nat
 P : V -> V -> Prop
 h0 : 0 <= dp
 h1 : 1 <= a0
noncomputable def Dx.pos (D : Dx) (i : Int) : Int := if i < 0 then D.a0 + (i + 1) else i + D.dp
inductive mS (D : Dx) : V -> V -> Prop
 | mk (b b' : Str) (i l l' c c' : Int) : mS D (iD b (D.pos i) l c) (iD b' i l' c')
inductive mC (D : Dx) : V -> V -> Prop
 | tk (C : Addr) {s s' e e' : V} (hs : mS D s s') (he : mS D e e') : mC D (tk C s e) (tk C s' e')
 | Ge (C : Addr) (v : V) {s s' e e' : V} (hs : mS D s s') (he : mS D e e') : mC D (Ge C v s e) (Ge C v s' e')
 | Bj (v : V) (pl : Bool) (st : V) {s s' e e' : V} (hs : mS D s s') (he : mS D e e') : mC D (Bj v pl s e st) (Bj v pl s' e' st)
 | old {t t' : V} (h : D.P t t') : mC D t t'
structure Gw (D : Dx) (k k' : lE) : Prop where
 no : k.no = k'.no + D.dt
 req : k.req = k'.req
 idx : k.idx = D.pos k'.idx
 i0 : -2 <= k'.idx
 line : k.line = k'.line + D.dl
 col : k.col = k'.col
class inductive cG {α β : Type} (r : α -> β -> Prop) : List α -> List β -> Prop
 | nil : cG r [] []
 | cons {a b l m : _} (h : r a b) (t : cG r l m) : cG r (a :: l) (b :: m)
structure tY (D : Dx) (p p' : Int × lE) : Prop where
 e : p.1 = p'.1
 k : Gw D p.2 p'.2
structure aV (D : Dx) (z z' : Z) : Prop where
 ptr : z.ptr = z'.ptr + D.dp
 p0 : 0 < z'.ptr
 rem : z.rem = z'.rem ++ D.rest
 GA : D.rest = [] \/ z'.rem = [] \/ z'.rem.getLast? = some 32
 sz : z.ptr + z.rem.length <= 900
 line : z.line = z'.line + D.dl
 col : z.col = z'.col
 done : z.done = z'.done
 aA : z.aA = z'.aA
 tokens : cG (mC D) z.tokens z'.tokens
 taken : z.taken = z'.taken + D.dt
 indent : z.indent = z'.indent
 aG : z.aG = z'.aG
 allow : z.allow = z'.allow
 keys : cG (tY D) z.keys z'.keys
inductive Hv (D : Dx) : V -> V -> Prop
 | none : Hv D .none .none
 | mk {c c' : V} (h : mS D c c') : Hv D c c'
inductive RR (D : Dx) {α β : Type} (Q : α -> Z -> β -> Z -> Prop) : R α -> R β -> Prop
 | ok {a z a' z' : _} (h : Q a z a' z') : RR D Q (.ok a z) (.ok a' z')
 | err {c c' p p' : _} (hc : Hv D c c') (hp : mS D p p') : RR D Q (.err c p) (.err c' p')
 | wall {r : _} : RR D Q r .wall
inductive Zz {α β : Type} (Q : α -> Z -> β -> Z -> Prop) (a' : β) (z' : Z) : R α -> Prop
 | ok {a z : _} (h : Q a z a' z') : Zz Q a' z' (.ok a z)
inductive Tv (D : Dx) {α : Type} (c' p' : V) : R α -> Prop
 | err {c p : _} (hc : Hv D c c') (hp : mS D p p') : Tv D c' p' (.err c p)
def RA (D : Dx) {α β : Type} (Q : α -> Z -> β -> Z -> Prop) (r : R α) (r' : R β) : Prop :=
 match r' with
 | .ok a' z' => Zz Q a' z' r
 | .err c' p' => Tv D c' p' r
 | .wall => True
theorem RR.out {D : Dx} {α β : Type} {Q : α -> Z -> β -> Z -> Prop} {r : R α} {r' : R β} (h : RR D Q r r') : RA D Q r r' := by
 induction h with
 | ok h => exact .ok h
 | err a b => exact .err a b
 | wall => trivial
inductive NB {α : Type} : List α -> Prop
 | nil : NB []
inductive NH {α β : Type} (r : α -> β -> Prop) (b : β) (m : List β) : List α -> Prop
 | cons {a l : _} (h : r a b) (t : cG r l m) : NH r b m (a :: l)
def QO {α β : Type} (r : α -> β -> Prop) (l : List α) (m : List β) : Prop :=
 match m with
 | [] => NB l
 | b :: m => NH r b m l
theorem cG.out {α β : Type} {r : α -> β -> Prop} {l : List α} {m : List β} (h : cG r l m) : QO r l m := by
 induction h with
 | nil => exact .nil
 | cons h t => exact .cons h t
structure QE (D : Dx) {α : Type} (a : α) (z : Z) (a' : α) (z' : Z) : Prop where
 e : a = a'
 h : aV D z z'
structure QT (D : Dx) (t : V) (z : Z) (t' : V) (z' : Z) : Prop where
 e : mC D t t'
 h : aV D z z'
theorem RR.bind {D : Dx} {α β HU AB : Type} {Q : α -> Z -> HU -> Z -> Prop} {Q2 : β -> Z -> AB -> Z -> Prop} {r : R α} {r' : R HU} {f : α -> Z -> R β} {f' : HU -> Z -> R AB} (h : RR D Q r r') (k : ∀ a z a' z', Q a z a' z' -> RR D Q2 (f a z) (f' a' z')) : RR D Q2 (r.bind f) (r'.bind f') := by
 induction h with
 | ok h => exact k _ _ _ _ h
 | err hc hp => exact .err hc hp
 | wall => exact .wall
theorem RR.aJ {D : Dx} {α β AB : Type} {Q2 : β -> Z -> AB -> Z -> Prop} {r r' : R α} {f : α -> Z -> R β} {f' : α -> Z -> R AB} (h : RR D (QE D) r r') (k : ∀ a z z', aV D z z' -> RR D Q2 (f a z) (f' a z')) : RR D Q2 (r.bind f) (r'.bind f') :=
 h.bind fun a z a' z' q => by
  obtain ⟨rfl, q⟩ := q;exact k a z z' q
theorem RR.ite {D : Dx} {α β : Type} {Q : α -> Z -> β -> Z -> Prop} {p p' : Prop} [Decidable p] [Decidable p'] (e : p ↔ p') {a b : R α} {a' b' : R β} (h1 : p -> p' -> RR D Q a a') (h2 : ¬ p -> ¬ p' -> RR D Q b b') : RR D Q (if p then a else b) (if p' then a' else b') := by
 by_cases h : p
 ·rw [if_pos h, if_pos (e.mp h)]; exact h1 h (e.mp h)
 ·rw [if_neg h, if_neg (fun x => h (e.mpr x))]; exact h2 h (fun x => h (e.mpr x))
section lists
variable {α β : Type} {r : α -> β -> Prop}
theorem cG.length {l : List α} {m : List β} (h : cG r l m) : l.length = m.length := by
 induction h with
 | nil => rfl
 | cons _ _ ih => rw [List.length_cons, List.length_cons, ih]
theorem cG.append {l l2 : List α} {m m2 : List β} (h : cG r l m) (h2 : cG r l2 m2) : cG r (l ++ l2) (m ++ m2) := by
 induction h with
 | nil => exact h2
 | cons a _ ih => exact .cons a ih
theorem cG.take {l : List α} {m : List β} (h : cG r l m) : ∀ n : Nat, cG r (l.take n) (m.take n) := by
 induction h with
 | nil => intro n; rw [List.take_nil, List.take_nil]; exact .nil
 | cons a _ ih =>
  intro n;induction n with
  | zero => exact .nil
  | succ n => exact .cons a (ih n)
theorem cG.drop {l : List α} {m : List β} (h : cG r l m) : ∀ n : Nat, cG r (l.drop n) (m.drop n) := by
 induction h with
 | nil => intro n; rw [List.drop_nil, List.drop_nil]; exact .nil
 | cons a t ih =>
  intro n;induction n with
  | zero => exact .cons a t
  | succ n => exact ih n
theorem cG.map {γ δ : Type} {s : γ -> δ -> Prop} {f : α -> γ} {f' : β -> δ} (k : ∀ a b, r a b -> s (f a) (f' b)) {l : List α} {m : List β} (h : cG r l m) : cG s (l.map f) (m.map f') := by
 induction h with
 | nil => exact .nil
 | cons a _ ih => exact .cons (k _ _ a) ih
theorem cG.filter {p : α -> Bool} {p' : β -> Bool} (k : ∀ a b, r a b -> p a = p' b) {l : List α} {m : List β} (h : cG r l m) : cG r (l.filter p) (m.filter p') := by
 induction h with
 | nil => exact .nil
 | cons a _ ih =>
  rw [List.filter_cons, List.filter_cons, k _ _ a]
  split
  ·exact .cons a ih
  ·exact ih
theorem cG.any {p : α -> Bool} {p' : β -> Bool} (k : ∀ a b, r a b -> p a = p' b) {l : List α} {m : List β} (h : cG r l m) : l.any p = m.any p' := by
 induction h with
 | nil => rfl
 | cons a _ ih => rw [List.any_cons, List.any_cons, k _ _ a, ih]
end lists
section keys
variable {D : Dx} {ks Bs : List (Int × lE)}
inductive Na (D : Dx) : Option lE -> Option lE -> Prop
 | none : Na D none none
 | some {k k' : _} (h : Gw D k k') : Na D (some k) (some k')
theorem oE (h : cG (tY D) ks Bs) (i : Int) : Na D (cW ks i) (cW Bs i) := by
 induction h with
 | nil => exact .none
 | @cons a b _ _ p _ ih =>
  unfold cW at ih ⊢;rw [List.find?_cons, List.find?_cons, p.e];cases decide (b.1 = i) with
  | true => exact .some p.k
  | false => exact ih
theorem tS (h : cG (tY D) ks Bs) (i : Int) : cG (tY D) (fQ ks i) (fQ Bs i) := h.filter fun a b p => by rw [p.e]
theorem Mm (h : cG (tY D) ks Bs) (i : Int) {k k' : lE} (hk : Gw D k k') : cG (tY D) (mE ks i k) (mE Bs i k') := by
 unfold mE;rw [h.any (p' := fun kv => decide (kv.1 = i)) fun a b p => by rw [p.e]]
 split
 ·refine h.map fun a b p => ?_;rw [p.e]
  split
  ·exact ⟨rfl, hk⟩
  ·exact p
 ·exact h.append (.cons ⟨rfl, hk⟩ .nil)
theorem Lp (h : cG (tY D) ks Bs) : ks.map (·.1) = Bs.map (·.1) := by
 induction h with
 | nil => rfl
 | cons p _ ih => rw [List.map_cons, List.map_cons, p.e, ih]
end keys
section small
variable {D : Dx} {z' : Z}
theorem aV.pos (h : aV D z z') : D.pos z'.ptr = z.ptr := by
 unfold Dx.pos;have := h.p0;rw [if_neg (by lia), h.ptr]
theorem aV.mark (h : aV D z z') : mS D z.mark z'.mark := by
 unfold Z.mark;rw [← h.pos];exact .mk _ _ _ _ _ _ _
theorem Gw.mark {k k' : lE} (h : Gw D k k') (b b' : Str) : mS D (k.mark b) (k'.mark b') := by
 unfold lE.mark;rw [h.idx];exact .mk _ _ _ _ _ _ _
theorem aV.peek (h : aV D z z') (k : Nat) : RR D (QE D) (peek k z) (peek k z') := by
 unfold Internal.peek;cases e : z'.rem[k]? with
 | none => exact .wall
 | some c =>
  rw [h.rem, List.getElem?_append_left (List.getElem?_eq_some_iff.mp e).1, e];exact .ok ⟨rfl, h⟩
theorem Jl {rest r : List Nat} {c : Nat} (h : rest = [] \/ c :: r = [] \/ (c :: r).getLast? = some 32) : rest = [] \/ r = [] \/ r.getLast? = some 32 := by
 rcases h with h | h | h
 ·exact .inl h
 ·cases h
 ·induction r with
  | nil => exact .inr (.inl rfl)
  | cons d r => exact .inr (.inr (by rwa [List.getLast?_cons_cons] at h))
theorem aV.aX (h : aV D z z') : RR D (QE D) (aX z) (aX z') := by
 unfold Internal.aX;have hr := h.rem;have hs := h.GA;have hz := h.sz;have hp := h.ptr;have MS := h.p0;cases e : z'.rem with
 | nil => exact .wall
 | cons c r =>
  rw [e] at hr hs;rw [hr];have Ha := Jl hs;have l1 : z.rem.length = (r ++ D.rest).length + 1 := by rw [hr]; rfl
  have mk : ∀ (l l' c c' : Int), l = l' + D.dl -> c = c' -> aV D { z with ptr := z.ptr + 1, rem := r ++ D.rest, line := l, col := c } { z' with ptr := z'.ptr + 1, rem := r, line := l', col := c' } := fun l l' c c' hl hc =>
   ⟨by show z.ptr + 1 = z'.ptr + 1 + D.dp; lia, by show 0 < z'.ptr + 1; lia, rfl, Ha, by show z.ptr + 1 + ((r ++ D.rest).length : Int) <= 900; lia, hl, hc, h.done, h.aA, h.tokens, h.taken, h.indent, h.aG, h.allow, h.keys⟩
  show RR D _ (if isIn [10, 133, 8232, 8233] c then _ else if c = 13 then _ else _) (if isIn [10, 133, 8232, 8233] c then _ else if c = 13 then _ else _);have MM : z.line + 1 = z'.line + 1 + D.dl := by rw [h.line]; lia
  have Jb : z.col + 1 = z'.col + 1 := by rw [h.col]
  refine RR.ite Iff.rfl (fun U U => .ok ⟨rfl, mk _ _ _ _ MM rfl⟩) fun U U => ?_;refine RR.ite Iff.rfl (fun U U => ?_) fun U U => ?_
  ·induction r with
   | nil => exact .wall
   | cons d r =>
    show RR D _ (if d = 10 then _ else _) (if d = 10 then _ else _);exact RR.ite Iff.rfl (fun U U => .ok ⟨rfl, mk _ _ _ _ h.line Jb⟩) fun U U => .ok ⟨rfl, mk _ _ _ _ MM rfl⟩
  ·exact RR.ite Iff.rfl (fun U U => .ok ⟨rfl, mk _ _ _ _ h.line h.col⟩) fun U U => .ok ⟨rfl, mk _ _ _ _ h.line Jb⟩
theorem aV.fwd : ∀ (n : Nat) {z z' : Z}, aV D z z' -> RR D (QE D) (fwd n z) (fwd n z')
 | 0, _, _, h => .ok ⟨rfl, h⟩
 | n + 1, _, _, h => h.aX.aJ fun U U U h => aV.fwd n h
theorem lW {p : Nat -> Bool} {rest : List Nat} : ∀ {l : List Nat} {n : Nat}, span p l = some n -> span p (l ++ rest) = some n /\ n < l.length
 | [], _, h => nomatch h
 | c :: r, n, h => by
  rw [mG] at h;rw [List.cons_append, mG]
  split at h
  ·rename_i hc
   rw [if_pos hc];refine aR (Option.map_eq_some_iff.mp h) fun m hm cN => ?_;subst cN;obtain ⟨h1, h2⟩ := lW (rest := rest) hm;rw [h1];exact ⟨rfl, by rw [List.length_cons]; lia⟩
  ·rename_i hc
   rw [if_neg hc];cases h;exact ⟨rfl, by rw [List.length_cons]; lia⟩
theorem aV.lK (h : aV D z z') (p : Nat -> Bool) : RR D (QE D) (lK p z) (lK p z') := by
 unfold Internal.lK;cases e : span p z'.rem with
 | none => exact .wall
 | some n =>
  rw [h.rem, (lW e).1];exact h.fwd n
theorem aV.push (h : aV D z z') {t t' : V} (ht : mC D t t') : RR D (QE D) (push t z) (push t' z') := by
 unfold Internal.push;refine RR.ite (by rw [h.tokens.length]) (fun U U => .ok ⟨rfl, ?_⟩) fun U U => .wall;exact { h with tokens := h.tokens.append (.cons ht .nil) }
theorem aV.fR (h : aV D z z') {i i' : Int} (hi : i = i') {t t' : V} (ht : mC D t t') : RR D (QE D) (fR i t z) (fR i' t' z') := by
 subst hi;unfold Internal.fR;refine RR.ite (by rw [h.tokens.length]) (fun U U => .ok ⟨rfl, ?_⟩) fun U U => .wall;exact { h with tokens := (h.tokens.take _).append (.cons ht (h.tokens.drop _)) }
theorem aV.bT (h : aV D z z') : RR D (QE D) (bT z) (bT z') := by
 unfold Internal.bT;have k : Na D (cW z.keys z.aA) (cW z'.keys z'.aA) := by rw [h.aA]; exact oE h.keys _
 have kd : cG (tY D) (fQ z.keys z.aA) (fQ z'.keys z'.aA) := by rw [h.aA]; exact tS h.keys _
 generalize cW z.keys z.aA = o at k;generalize cW z'.keys z'.aA = o' at k;induction k with
 | none => exact .ok ⟨rfl, h⟩
 | some hk =>
  refine RR.ite (by rw [hk.req]) (fun U U => .wall) fun U U => ?_;refine RR.ite (by rw [h.keys.length]) (fun U U => .ok ⟨rfl, ?_⟩) fun U U => .wall;exact { h with keys := kd }
theorem aV.dY (h : aV D z z') : RR D (QE D) (dY z) (dY z') := by
 unfold Internal.dY;refine RR.ite (by rw [h.allow]) (fun U U => ?_) fun U U => .ok ⟨rfl, h⟩;refine h.bT.aJ fun U z1 uF h1 => ?_;refine RR.ite (by rw [h1.keys.length, h1.tokens.length]) (fun U U => .ok ⟨rfl, ?_⟩) fun U U => .wall;have := h1.p0;refine { h1 with keys := ?_ }
 show cG (tY D) (mE z1.keys z1.aA _) (mE uF.keys uF.aA _);rw [h1.aA];refine Mm h1.keys _ ⟨?_, ?_, h1.pos.symm, by show -2 <= uF.ptr; lia, h1.line, h1.col⟩
 ·show z1.taken + _ = uF.taken + _ + D.dt;rw [h1.taken, h1.tokens.length]; lia
 ·show (decide (z.aA = 0) && decide (z.indent = z.col)) = _;rw [h.aA, h.indent, h.col]
end small
end
section
variable {D : Dx} {z' : Z}
theorem aV.unwind : ∀ (n : Nat) (c : Int) {z z' : Z}, aV D z z' -> RR D (QE D) (unwind n c z) (unwind n c z')
 | 0, c, z, z', h => by
  exact RR.ite (by rw [h.indent]) (fun U U => .wall) fun U U => .ok ⟨rfl, h⟩
 | n + 1, c, z, z', h => by
  rw [nZ, nZ];refine RR.ite (by rw [h.indent]) (fun U U => ?_) fun U U => .ok ⟨rfl, h⟩;rw [h.aG];cases z'.aG.getLast? with
  | none => exact .wall
  | some i =>
   refine RR.ite Iff.rfl (fun U U => ?_) fun U U => .wall;refine RR.aJ (aV.push (z := { z with indent := i, aG := z'.aG.dropLast }) (z' := { z' with indent := i, aG := z'.aG.dropLast }) { h with indent := rfl, aG := rfl } (.tk 326 h.mark h.mark)) fun U U U h => aV.unwind n c h
theorem aV.dK (h : aV D z z') {c c' : Int} (hc : c = c') : RR D (QE D) (dK c z) (dK c' z') := by
 subst hc;unfold Internal.dK;exact RR.ite (by rw [h.aA]) (fun U U => h.unwind 4 c) fun U U => .ok ⟨rfl, h⟩
theorem aV.eR (h : aV D z z') {c c' : Int} (hc : c = c') : RR D (QE D) (eR c z) (eR c' z') := by
 subst hc;unfold Internal.eR;refine RR.ite (by rw [h.indent]) (fun U U => ?_) fun U U => .ok ⟨rfl, h⟩;refine RR.ite (by rw [h.aG]) (fun U U => .ok ⟨rfl, ?_⟩) fun U U => .wall;exact { h with aG := (by show z.aG ++ [z.indent] = z'.aG ++ [z'.indent]; rw [h.aG, h.indent]), indent := rfl }
theorem HF {z' : Z} (h : aV D z z') {k k' : lE} (hk : Gw D k k') : (k.line ≠ z.line \/ 1024 < z.ptr - k.idx) ↔ (k'.line ≠ z'.line \/ 1024 < z'.ptr - k'.idx) := by
 have h1 := hk.line;have h2 := h.line;have h3 := h.sz;have h4 := h.ptr;have h5 := D.h0;have h6 := D.h1;have h7 := hk.i0;have h8 : -1 <= k.idx := by
  rw [hk.idx]; unfold Dx.pos
  split <;> lia
 have n1 : ¬ 1024 < z.ptr - k.idx := by lia
 have n2 : ¬ 1024 < z'.ptr - k'.idx := by lia
 constructor
 ·rintro (h | h)
  ·exact .inl (by lia)
  ·exact absurd h n1
 ·rintro (h | h)
  ·exact .inl (by lia)
  ·exact absurd h n2
theorem aV.dX : ∀ (l : List Int) {z z' : Z}, aV D z z' -> RR D (QE D) (dX l z) (dX l z')
 | [], _, _, h => .ok ⟨rfl, h⟩
 | l :: r, z, z', h => by
  rw [mK, mK];have k := oE h.keys l;have kd := tS h.keys l;generalize cW z.keys l = o at k;generalize cW z'.keys l = o' at k;induction k with
  | none => exact .wall
  | some hk =>
   refine RR.ite (HF h hk) (fun U U => ?_) fun U U => aV.dX r h;refine RR.ite (by rw [hk.req]) (fun U U => .wall) fun U U => ?_;exact RR.ite (by rw [h.keys.length]) (fun U U => aV.dX r { h with keys := kd }) fun U U => .wall
theorem aV.stale (h : aV D z z') : RR D (QE D) (stale z) (stale z') := by
 unfold Internal.stale;rw [Lp h.keys];exact RR.ite (by rw [h.keys.length]) (fun U U => h.dX _) fun U U => .wall
inductive Qq (D : Dx) : Option Int -> Option Int -> Prop
 | none : Qq D none none
 | some {i i' : Int} (h : i = i' + D.dt) : Qq D (some i) (some i')
inductive Jf (D : Dx) : Option (Option Int) -> Option (Option Int) -> Prop
 | none : Jf D none none
 | some {o o' : _} (h : Qq D o o') : Jf D (some o) (some o')
theorem nD {ks Bs : List (Int × lE)} (h : cG (tY D) ks Bs) : ∀ (l : List Int) {m m' : Option Int}, Qq D m m' -> Jf D (gM ks m l) (gM Bs m' l)
 | [], _, _, hm => .some hm
 | i :: r, m, m', hm => by
  rw [sX, sX];have k := oE h i;generalize cW ks i = o at k;generalize cW Bs i = o' at k;induction k with
  | none => exact .none
  | some hk =>
   have hn := hk.no;induction hm with
   | none => exact nD h r (.some hn)
   | some hm =>
    refine nD h r (.some ?_);dsimp only
    split <;> split <;> omega
theorem aV.cM (h : aV D z z') : RR D (QE D) (cM z) (cM z') := by
 unfold Internal.cM;refine RR.ite (by rw [h.done]) (fun U U => .ok ⟨rfl, h⟩) fun U U => ?_;refine RR.ite (by rw [h.tokens.length]) (fun U U => ?_) fun U U => .wall;refine RR.ite ?_ (fun U U => .ok ⟨rfl, h⟩) fun U U => ?_
 ·have := h.tokens.length;rw [← List.length_eq_zero_iff, ← List.length_eq_zero_iff, this]
 refine h.stale.aJ fun U z z' h => ?_;have k := nD h.keys (z'.keys.map (·.1)) .none;rw [Lp h.keys];generalize gM z.keys none (z'.keys.map (·.1)) = o at k;generalize gM z'.keys none (z'.keys.map (·.1)) = o' at k;induction k with
 | none => exact .wall
 | some k =>
  refine .ok ⟨?_, h⟩;have ht := h.taken;induction k with
  | none => rfl
  | some k =>
   rename_i i i'
   show (i == z.taken) = (i' == z'.taken)
   by_cases e : i' = z'.taken
   ·rw [beq_iff_eq.mpr e, beq_iff_eq]; lia
   ·rw [beq_eq_false_iff_ne.mpr e, beq_eq_false_iff_ne]; lia
theorem aV.cB (h : aV D z z') (C : Addr) : RR D (QE D) (cB C z) (cB C z') := by
 unfold Internal.cB;exact h.aX.aJ fun U z1 uF h1 => h1.push (.tk C h.mark h1.mark)
theorem aV.gG (h : aV D z z') : RR D (QE D) (gG z) (gG z') := by
 unfold Internal.gG;refine (h.dK rfl).aJ fun U z z' h => h.bT.aJ fun U z z' h => ?_;exact RR.aJ (aV.push (z := { z with allow := false, keys := [] }) (z' := { z' with allow := false, keys := [] }) { h with allow := rfl, keys := .nil } (.tk 290 h.mark h.mark)) fun U z z' h => .ok ⟨rfl, { h with done := rfl }⟩
theorem aV.eQ (h : aV D z z') (C : Addr) : RR D (QE D) (eQ C z) (eQ C z') := by
 unfold Internal.eQ;exact h.dY.aJ fun U z z' h => aV.cB (z := { z with aA := z.aA + 1, allow := true }) (z' := { z' with aA := z'.aA + 1, allow := true }) { h with allow := rfl, aA := (by show z.aA + 1 = z'.aA + 1; rw [h.aA]) } C
theorem aV.gK (h : aV D z z') (C : Addr) : RR D (QE D) (gK C z) (gK C z') := by
 unfold Internal.gK;exact h.bT.aJ fun U z z' h => aV.cB (z := { z with aA := z.aA - 1, allow := false }) (z' := { z' with aA := z'.aA - 1, allow := false }) { h with allow := rfl, aA := (by show z.aA - 1 = z'.aA - 1; rw [h.aA]) } C
theorem aV.iE (h : aV D z z') (b : Bool) : aV D { z with allow := b } { z' with allow := b } := { h with allow := rfl }
theorem aV.hR (h : aV D z z') : RR D (QE D) (hR z) (hR z') := by
 unfold Internal.hR;exact (h.iE true).bT.aJ fun U z z' h => h.cB 422
theorem aV.eY (h : aV D z z') : RR D (QE D) (eY z) (eY z') := by
 unfold Internal.eY;refine RR.ite (by rw [h.aA]) (fun U U => ?_) fun U U => .wall;refine RR.ite (by rw [h.allow]) (fun U U => ?_) fun U U => .wall;refine RR.aJ ((h.eR h.col).aJ fun b z z' h => RR.ite Iff.rfl (fun U U => h.push (.tk 302 h.mark h.mark)) fun U U => .ok ⟨rfl, h⟩) fun U z z' h => ?_;exact (h.iE true).bT.aJ fun U z z' h => h.cB 410
theorem aV.iK (h : aV D z z') : RR D (QE D) (iK z) (iK z') := by
 unfold Internal.iK;refine RR.ite (by rw [h.aA]) (fun U U => ?_) fun U U => ?_
 ·exact RR.ite (by rw [h.allow]) (fun U U => .wall) fun U U => .err .none h.mark
 ·exact (h.iE false).bT.aJ fun U z z' h => h.cB 386
theorem aV.eZ (h : aV D z z') : RR D (QE D) (eZ z) (eZ z') := by
 unfold Internal.eZ;have k : Na D (cW z.keys z.aA) (cW z'.keys z'.aA) := by rw [h.aA]; exact oE h.keys _
 have kd : cG (tY D) (fQ z.keys z.aA) (fQ z'.keys z'.aA) := by rw [h.aA]; exact tS h.keys _
 generalize cW z.keys z.aA = o at k;generalize cW z'.keys z'.aA = o' at k;induction k with
 | none => exact .wall
 | @some k k' hk =>
  refine RR.ite (by rw [h.keys.length]) (fun U U => ?_) fun U U => .wall;have m := hk.mark z.buf z'.buf;have e : ∀ {z z' : Z}, aV D z z' -> k.no - z.taken = k'.no - z'.taken := fun h => by
   have := hk.no;have := h.taken
   lia
  refine RR.aJ (aV.fR (z := { z with keys := fQ z.keys z.aA }) (z' := { z' with keys := fQ z'.keys z'.aA }) { h with keys := kd } (e h) (.tk 386 m m)) fun U z z' h => ?_
  refine RR.aJ (RR.ite (by rw [h.aA]) (fun U U => ?_) fun U U => .ok ⟨rfl, h⟩) fun U z z' h => (h.iE false).cB 398;exact (h.eR hk.col).aJ fun b z z' h => RR.ite Iff.rfl (fun U U => h.fR (e h) (.tk 314 m m)) fun U U => .ok ⟨rfl, h⟩
theorem Nt {l rest : List Nat} {k : Nat} {pat : List Nat} (hp : pat.length = k) (ER : 32 ∉ pat) (hs : rest = [] \/ l = [] \/ l.getLast? = some 32) (hl : l ≠ []) : (l ++ rest).take k = pat ↔ l.take k = pat := by
 rcases hs with h | h | h
 ·rw [h, List.append_nil]
 ·exact absurd h hl
 ·by_cases hk : k <= l.length
  ·rw [List.take_append_of_le_length hk]
  ·have hm : 32 ∈ l := List.mem_of_getLast? h
   constructor
   ·intro e;exact absurd (e ▸ (by rw [List.take_append]; exact List.mem_append_left _ (by rw [List.take_of_length_le (by lia)]; exact hm))) ER
   ·intro e;exact absurd (e ▸ (by rw [List.take_of_length_le (by lia)]; exact hm)) ER
theorem aV.take (h : aV D z z') {pat : List Nat} {k : Nat} (hp : pat.length = k) (ER : 32 ∉ pat) (hl : z'.rem ≠ []) : z.rem.take k = pat ↔ z'.rem.take k = pat := by
 rw [h.rem];exact Nt hp ER h.GA hl
theorem aV.lineBreak (h : aV D z z') : RR D (QE D) (lineBreak z) (lineBreak z') := by
 unfold Internal.lineBreak;have ht : z'.rem ≠ [] -> (z.rem.take 2 = [13, 10] ↔ z'.rem.take 2 = [13, 10]) := h.take rfl (by decide);have hr := h.rem;cases e : z'.rem with
 | nil => exact .wall
 | cons c r =>
  rw [e] at hr ht;rw [hr] at ht ⊢;have ht := ht (by intro h; cases h);show RR D _ (if isIn [13, 10, 133] c then _ else _) (if isIn [13, 10, 133] c then _ else _);refine RR.ite Iff.rfl (fun U U => ?_) fun U U => ?_
  ·refine RR.ite ht (fun U U => ?_) fun U U => ?_
   ·exact (h.fwd 2).aJ fun U z z' h => .ok ⟨rfl, h⟩
   ·exact (h.fwd 1).aJ fun U z z' h => .ok ⟨rfl, h⟩
  ·refine RR.ite Iff.rfl (fun U U => (h.fwd 1).aJ fun U z z' h => .ok ⟨rfl, h⟩) fun U U => .ok ⟨rfl, h⟩
theorem aV.dH : ∀ (n : Nat) {z z' : Z}, aV D z z' -> RR D (QE D) (dH n z) (dH n z')
 | 0, _, _, _ => .wall
 | n + 1, z, z', h => by
  rw [iA, iA];refine (h.lK _).aJ fun U z z' h => (h.peek 0).aJ fun c z z' h => ?_;refine RR.ite Iff.rfl (fun U U => .wall) fun U U => ?_;refine h.lineBreak.aJ fun lb z z' h => ?_;refine RR.ite Iff.rfl (fun U U => .ok ⟨rfl, h⟩) fun U U => ?_;refine aV.dH n ?_
  by_cases hf : z'.aA = 0
  ·rw [if_pos hf, if_pos (h.aA.trans hf)]; exact h.iE true
  ·rw [if_neg hf, if_neg (fun x => hf (h.aA.symm.trans x))]; exact h
theorem aV.fT (h : aV D z z') (n : Nat) : RR D (QE D) (fT n z) (fT n z') := by
 unfold Internal.fT;have := h.ptr;have := h.p0;have := D.h0;rw [if_neg (by lia), if_neg (by lia)];exact h.dH n
theorem xU {l rest : List Nat} {k : Nat} (h : k <= l.length) : (l ++ rest).take k = l.take k := List.take_append_of_le_length h
theorem aV.cX (h : aV D z z') (C : Addr) : RR D (QT D) (cX C z) (cX C z') := by
 unfold Internal.cX;refine (h.peek 0).aJ fun c z z' h => h.aX.aJ fun U z1 uF h1 => ?_;cases e : span bA uF.rem with
 | none => exact .wall
 | some n =>
  obtain ⟨e1, hn⟩ := lW (rest := D.rest) e;rw [show span bA z1.rem = some n by rw [h1.rem]; exact e1];have et : z1.rem.take n = uF.rem.take n := by rw [h1.rem]; exact xU (by lia)
  induction n with
  | zero => exact .err (.mk h.mark) h1.mark
  | succ n =>
   refine (h1.fwd (n + 1)).aJ fun U z2 Yt h2 => (h2.peek 0).aJ fun c z2 Yt h2 => ?_;rw [et];exact RR.ite Iff.rfl (fun U U => .ok ⟨.Ge C _ h.mark h2.mark, h2⟩) fun U U => .err (.mk h.mark) h2.mark
theorem RR.Lu {r r' : R V} (h : RR D (QT D) r r') : RR D (QE D) (r.bind fun t z => push t z) (r'.bind fun t z => push t z) := h.bind fun t z t' z' q => q.h.push q.e
theorem aV.cJ (h : aV D z z') (C : Addr) : RR D (QE D) (cJ C z) (cJ C z') := by
 unfold Internal.cJ;exact h.dY.aJ fun U z z' h => ((h.iE false).cX C).Lu
theorem aV.pC (h : aV D z z') (hl : z'.rem ≠ []) {α β : Type} {Q : α -> Z -> β -> Z -> Prop} {k : R α} {k' : R β} (hk : RR D Q k k') : RR D Q (pC z k) (pC z' k') := by
 unfold Internal.pC;exact RR.ite (h.take (pat := [45, 45, 45]) (k := 3) rfl (by decide) hl) (fun U U => .wall) fun U U => RR.ite (h.take (pat := [46, 46, 46]) (k := 3) rfl (by decide) hl) (fun U U => .wall) fun U U => hk
theorem aV.fZ (h : aV D z z') : RR D (QE D) (fZ z) (fZ z') := by
 unfold Internal.fZ;cases e : span (fun c => !isIn [39, 34, 92, 0, 32, 9, 13, 10, 133, 8232, 8233] c) z'.rem with
 | none => exact .wall
 | some n =>
  obtain ⟨e1, hn⟩ := lW (rest := D.rest) e;rw [show span _ z.rem = some n by rw [h.rem]; exact e1];have et : z.rem.take n = z'.rem.take n := by rw [h.rem]; exact xU (by lia)
  induction n with
  | zero => exact .wall
  | succ n =>
   refine (h.fwd (n + 1)).aJ fun U z1 uF h1 => (h1.peek 0).aJ fun c z1 uF h1 => ?_;rw [et];refine RR.ite Iff.rfl (fun U U => ?_) fun U U => .wall;exact (h1.peek 1).aJ fun d z2 Yt h2 => RR.ite Iff.rfl (fun U U => .wall) fun U U => .ok ⟨rfl, h2⟩
theorem aV.cU (h : aV D z z') : RR D (QT D) (cU z) (cU z') := by
 unfold Internal.cU;refine (h.peek 0).aJ fun q z z' h => RR.ite Iff.rfl (fun U U => ?_) fun U U => .wall;refine h.aX.aJ fun U z1 uF h1 => h1.fZ.aJ fun cs z2 Yt h2 => ?_;refine RR.ite Iff.rfl (fun U U => ?_) fun U U => .wall;refine (h2.peek 0).aJ fun c z3 LY h3 => RR.ite Iff.rfl (fun U U => ?_) fun U U => .wall;exact h3.aX.aJ fun U z4 UK h4 => .ok ⟨.Bj _ _ _ h.mark h4.mark, h4⟩
theorem aV.cO (h : aV D z z') : RR D (QE D) (cO z) (cO z') := by
 unfold Internal.cO;exact h.dY.aJ fun U z z' h => (h.iE false).cU.Lu
theorem sR {fl : Bool} {rest : List Nat} : ∀ {l : List Nat} {n : Nat}, dG fl l = some n -> dG fl (l ++ rest) = some n /\ n < l.length
 | [], _, h => nomatch h
 | c :: r, n, h => by
  have rc : ∀ {n}, (dG fl r).map (· + 1) = some n -> (dG fl (r ++ rest)).map (· + 1) = some n /\ n < (c :: r).length := fun h => by
   refine aR (Option.map_eq_some_iff.mp h) fun m hm cN => ?_;subst cN;obtain ⟨h1, h2⟩ := sR (rest := rest) hm;rw [h1];exact ⟨rfl, by rw [List.length_cons]; lia⟩
  have z0 : 0 < (c :: r).length := Nat.succ_pos _;rw [tZ] at h;rw [List.cons_append, tZ]
  split at h
  ·rename_i hc
   rw [if_pos hc];cases h; exact ⟨rfl, z0⟩
  ·rename_i hc
   rw [if_neg hc]
   split at h
   ·rename_i hc
    rw [if_pos hc];induction r with
    | nil => cases h
    | cons d r =>
     dsimp only at h;rw [List.cons_append];dsimp only
     by_cases hd : isIn (pJ ++ (if fl then [44, 91, 93, 123, 125] else [])) d = true
     ·rw [if_pos hd] at h ⊢;cases h; exact ⟨rfl, z0⟩
     ·rw [if_neg hd] at h ⊢;exact rc h
   ·rename_i hc
    rw [if_neg hc]
    split at h
    ·rename_i hd
     rw [if_pos hd];cases h; exact ⟨rfl, z0⟩
    ·rename_i hd
     rw [if_neg hd];exact rc h
theorem aV.dM (h : aV D z z') : RR D (QE D) (dM z) (dM z') := by
 unfold Internal.dM;cases e : span (· == 32) z'.rem with
 | none => exact .wall
 | some n =>
  rw [show span (· == 32) z.rem = some n by rw [h.rem]; exact (lW e).1];induction n with
  | succ n => exact .wall
  | zero =>
   refine (h.peek 0).aJ fun c z1 uF h1 => RR.ite Iff.rfl (fun U U => ?_) fun U U => .ok ⟨rfl, h1⟩;refine h1.lineBreak.aJ fun lb z z' h2 => ?_
   by_cases hl : z'.rem = []
   ·have e1 : (if lb = [10] then (Internal.peek 0 { z' with allow := true }).bind fun d z => if isIn [32, 13, 10, 133, 8232, 8233] d then R.wall else .ok true z else .wall) = (R.wall : R Bool) := by
     split
     ·unfold Internal.peek; dsimp only; rw [hl]; rfl
     ·rfl
    rw [e1];unfold Internal.pC;rw [ite_self, ite_self];exact .wall
   refine h2.pC hl (RR.ite Iff.rfl (fun U U => ?_) fun U U => .wall);exact ((h2.iE true).peek 0).aJ fun d z z' h3 => RR.ite Iff.rfl (fun U U => .wall) fun U U => .ok ⟨rfl, h3⟩
theorem aV.fY (h : aV D z z') : RR D (QT D) (fY z) (fY z') := by
 unfold Internal.fY;refine (h.peek 0).aJ fun c z z' h => RR.ite Iff.rfl (fun U U => .wall) fun U U => ?_;rw [show (z.aA != 0) = (z'.aA != 0) by rw [h.aA]];cases e : dG (z'.aA != 0) z'.rem with
 | none => exact .wall
 | some n =>
  obtain ⟨e1, hn⟩ := sR (rest := D.rest) e;rw [show dG (z'.aA != 0) z.rem = some n by rw [h.rem]; exact e1];have et : z.rem.take n = z'.rem.take n := by rw [h.rem]; exact xU (by lia)
  induction n with
  | zero => exact .wall
  | succ n =>
   refine RR.aJ (((h.iE false).fwd (n + 1))) fun U z1 uF h1 => ?_;rw [et];refine h1.dM.aJ fun b z2 Yt h2 => RR.ite Iff.rfl (fun U U => ?_) fun U U => .ok ⟨.Bj _ _ _ h.mark h1.mark, h2⟩;refine (h2.peek 0).aJ fun c z2 Yt h2 => RR.ite Iff.rfl (fun U U => .wall) fun U U => ?_;exact RR.ite (by rw [h2.aA, h2.col, h.indent]) (fun U U => .ok ⟨.Bj _ _ _ h.mark h1.mark, h2⟩) fun U U => .wall
theorem aV.fS (h : aV D z z') : RR D (QE D) (fS z) (fS z') := by
 unfold Internal.fS;exact h.dY.aJ fun U z z' h => (h.iE false).fY.Lu
theorem aV.fC (h : aV D z z') (c : Nat) : RR D (QE D) (fC c z) (fC c z') := by
 unfold Internal.fC;refine RR.ite Iff.rfl (fun U U => ?_) fun U U => .ok ⟨rfl, h⟩;exact (h.peek 1).aJ fun d z1 uF h1 => .ok ⟨by rw [h1.aA], h1⟩
theorem aV.gN (h : aV D z z') : RR D (QE D) (gN z) (gN z') := by
 unfold Internal.gN;exact RR.ite (by rw [h.aA]) (fun U U => (h.peek 1).aJ fun d z1 uF h1 => .ok ⟨rfl, h1⟩) fun U U => .ok ⟨rfl, h⟩
theorem aV.fG (h : aV D z z') (hl : z'.rem ≠ []) (c : Nat) : RR D (QE D) (fG c z) (fG c z') := by
 unfold Internal.fG;refine RR.ite Iff.rfl (fun U U => h.gG) fun U U => ?_;refine RR.ite (by rw [h.col]) (fun U U => .wall) fun U U => ?_;refine RR.ite (by rw [h.col, h.take (pat := [45, 45, 45]) (k := 3) rfl (by decide) hl]) (fun U U => .wall) fun U U => ?_;refine RR.ite (by rw [h.col, h.take (pat := [46, 46, 46]) (k := 3) rfl (by decide) hl]) (fun U U => .wall) fun U U => ?_;refine RR.ite Iff.rfl (fun U U => h.eQ 338) fun U U => ?_;refine RR.ite Iff.rfl (fun U U => .wall) fun U U => ?_;refine RR.ite Iff.rfl (fun U U => h.gK 362) fun U U => ?_;refine RR.ite Iff.rfl (fun U U => h.gK 374) fun U U => ?_;refine RR.ite Iff.rfl (fun U U => h.hR) fun U U => ?_;refine RR.aJ (RR.ite Iff.rfl (fun U U => (h.peek 1).aJ fun d z1 uF h1 => .ok ⟨rfl, h1⟩) fun U U => .ok ⟨rfl, h⟩) fun b z z' h => ?_;refine RR.ite Iff.rfl (fun U U => h.eY) fun U U => ?_;refine RR.aJ (RR.ite Iff.rfl (fun U U => h.gN) fun U U => .ok ⟨rfl, h⟩) fun b z z' h => ?_;refine RR.ite Iff.rfl (fun U U => h.iK) fun U U => ?_;refine RR.aJ (RR.ite Iff.rfl (fun U U => h.gN) fun U U => .ok ⟨rfl, h⟩) fun b z z' h => ?_;refine RR.ite Iff.rfl (fun U U => h.eZ) fun U U => ?_;refine RR.ite Iff.rfl (fun U U => h.cJ 441) fun U U => ?_;refine RR.ite Iff.rfl (fun U U => h.cJ 460) fun U U => ?_;refine RR.ite Iff.rfl (fun U U => .wall) fun U U => ?_;refine RR.ite (by rw [h.aA]) (fun U U => .wall) fun U U => ?_;refine RR.ite (by rw [h.aA]) (fun U U => .wall) fun U U => ?_;refine RR.ite Iff.rfl (fun U U => h.cO) fun U U => ?_;refine RR.ite Iff.rfl (fun U U => .wall) fun U U => ?_;exact (h.fC c).aJ fun b z z' h => RR.ite Iff.rfl (fun U U => h.fS) fun U U => .err .none h.mark
theorem aV.bI (h : aV D z z') (f : Nat) : RR D (QE D) (bI f z) (bI f z') := by
 unfold Internal.bI;refine (h.fT f).aJ fun U z z' h => h.stale.aJ fun U z z' h => (h.dK h.col).aJ fun U z z' h => ?_;unfold Internal.peek;cases e : z'.rem[0]? with
 | none => exact .wall
 | some c =>
  rw [show z.rem[0]? = some c by rw [h.rem, List.getElem?_append_left (List.getElem?_eq_some_iff.mp e).1, e]];exact h.fG (by intro h0; rw [h0] at e; cases e) c
end
section
set_option genInjectivity false
set_option genSizeOf false
class inductive dT : Nat -> Z -> List V -> List V × Option (V × V) -> Prop
 | more {k z z1 z2 got r : _} (h1 : cM z = .ok true z1) (h2 : bI 1000 z1 = .ok () z2) (h : dT k z2 got r) : dT (k + 1) z got r
 | err {k z z1 got c p : _} (h1 : cM z = .ok true z1) (h2 : bI 1000 z1 = .err c p) : dT (k + 1) z got (got, some (c, p))
 | pop {k z z1 got t ts r : _} (h1 : cM z = .ok false z1) (h2 : z1.tokens = t :: ts) (hl : z1.tokens.length <= 1000) (h : dT k { z1 with taken := z1.taken + 1, tokens := ts } (got ++ [t]) r) : dT (k + 1) z got r
 | stop {k z z1 got : _} (h1 : cM z = .ok false z1) (h2 : z1.tokens = []) : dT (k + 1) z got (got, none)
theorem dT.mono {k : Nat} {r : List V × Option (V × V)} (h : dT k z got r) : ∀ {k'}, k <= k' -> dT k' z got r := by
 induction h with
 | more h1 h2 _ ih =>
  intro k' hk;cases k' with
  | zero => lia
  | succ k' => exact .more h1 h2 (ih (by lia))
 | err h1 h2 =>
  intro k' hk;cases k' with
  | zero => lia
  | succ k' => exact .err h1 h2
 | pop h1 h2 hl _ ih =>
  intro k' hk;cases k' with
  | zero => lia
  | succ k' => exact .pop h1 h2 hl (ih (by lia))
 | stop h1 h2 =>
  intro k' hk;cases k' with
  | zero => lia
  | succ k' => exact .stop h1 h2
noncomputable def Va (n m : Nat) (z : Z) (got : List V) : Option (List V × Option (V × V)) :=
 match eN 1000 n z with
 | .ok none _ => some (got, none)
 | .ok (some t) z => kT 1000 m z (got ++ [t])
 | .err c p => some (got, some (c, p))
 | .wall => none
theorem dT.Va {k : Nat} {z : Z} {got : List V} {r : List V × Option (V × V)} (h : dT k z got r) : k <= 1000 -> ∀ n m, k <= n -> k <= m -> Internal.Va n m z got = some r := by
 induction h with
 | more h1 h2 _ ih =>
  intro hk n m hn hm;cases n with
  | zero => lia
  | succ n =>
   have := ih (by lia) n m (by lia) (by lia);unfold Internal.Va; rw [jL];rw [h1];show (match (bI 1000 _).bind fun U z => eN 1000 n z with | .ok none _ => _ | .ok (some t) z => _ | .err c p => _ | .wall => _) = _
   rw [h2];exact this
 | err h1 h2 =>
  intro hk n m hn hm;cases n with
  | zero => lia
  | succ n =>
   unfold Internal.Va; rw [jL];rw [h1];show (match (bI 1000 _).bind fun U z => eN 1000 n z with | .ok none _ => _ | .ok (some t) z => _ | .err c p => _ | .wall => _) = _
   rw [h2]
   rfl
 | @pop k z z1 got t ts r h1 h2 hl _ ih =>
  intro hk n m hn hm;cases n with
  | zero => lia
  | succ n =>
  cases m with
  | zero => lia
  | succ m =>
   have := ih (by lia) 1000 m (by lia) (by lia);unfold Internal.Va; rw [jL];rw [h1];show (match (match z1.tokens with | [] => R.ok none z1 | t :: r => if z1.tokens.length <= 1000 then .ok (some t) { z1 with taken := z1.taken + 1, tokens := r } else .wall) with | .ok none _ => _ | .ok (some t) z => _ | .err c p => _ | .wall => _) = _
   rw [h2] at hl ⊢;dsimp only;rw [if_pos hl];exact this
 | @stop k z z1 got h1 h2 =>
  intro hk n m hn hm;cases n with
  | zero => lia
  | succ n =>
   unfold Internal.Va; rw [jL];rw [h1];show (match (match z1.tokens with | [] => R.ok none z1 | t :: r => if z1.tokens.length <= 1000 then .ok (some t) { z1 with taken := z1.taken + 1, tokens := r } else .wall) with | .ok none _ => _ | .ok (some t) z => _ | .err c p => _ | .wall => _) = _
   rw [h2]
inductive LE where
 | next (z : Z)
 | fin
 | err (c p : V)
noncomputable def Z.halt (z : Z) : Bool := z.tokens.isEmpty && z.rem == [32]
noncomputable def Td : Nat -> Z -> List V -> Option (List V × LE)
 | 0, _, _ => none
 | n + 1, z, got => if z.halt = true then some (got, .next z) else
  match cM z with
  | .ok true z1 => match bI 1000 z1 with
   | .ok _ z2 => Td n z2 got
   | .err c p => some (got, .err c p)
   | .wall => none
  | .ok false z1 => match z1.tokens with
   | [] => some (got, .fin)
   | t :: r => if z1.tokens.length <= 1000 then Td n { z1 with taken := z1.taken + 1, tokens := r } (got ++ [t]) else none
  | _ => none
inductive wQ (D : Dx) (n : Nat) (z : Z) (got : List V) (g' : List V) : LE -> Prop
 | next {zE To gE : _} (h : aV D zE To) (hg : cG (mC D) gE g') (hr : ∀ j r, dT j zE gE r -> dT (j + n) z got r) : wQ D n z got g' (.next To)
 | fin {gE : _} (hg : cG (mC D) gE g') (hr : dT n z got (gE, none)) : wQ D n z got g' .fin
 | err {gE c p c' p' : _} (hg : cG (mC D) gE g') (hc : Hv D c c') (hp : mS D p p') (hr : dT n z got (gE, some (c, p))) : wQ D n z got g' (.err c' p')
inductive EF (D : Dx) (n : Nat) (z : Z) (got : List V) (g' : List V) (To : Z) : Prop
 | next {zE gE : _} (h : aV D zE To) (hg : cG (mC D) gE g') (hr : ∀ j r, dT j zE gE r -> dT (j + n) z got r) : EF D n z got g' To
inductive Zj (D : Dx) (n : Nat) (z : Z) (got : List V) (g' : List V) : Prop
 | fin {gE : _} (hg : cG (mC D) gE g') (hr : dT n z got (gE, none)) : Zj D n z got g'
inductive DJ (D : Dx) (n : Nat) (z : Z) (got : List V) (g' : List V) (c' p' : V) : Prop
 | err {gE c p : _} (hg : cG (mC D) gE g') (hc : Hv D c c') (hp : mS D p p') (hr : dT n z got (gE, some (c, p))) : DJ D n z got g' c' p'
def JV (D : Dx) (n : Nat) (z : Z) (got : List V) (g' : List V) (e : LE) : Prop :=
 match e with
 | .next To => EF D n z got g' To
 | .fin => Zj D n z got g'
 | .err c' p' => DJ D n z got g' c' p'
theorem wQ.out {D : Dx} {n : Nat} {g' : List V} {e : LE} (h : wQ D n z got g' e) : JV D n z got g' e := by
 induction h with
 | next a b c => exact .next a b c
 | fin a b => exact .fin a b
 | err a b c d => exact .err a b c d
theorem wQ.step {D : Dx} {n m : Nat} {z2 : Z} {BO g' : List V} {e : LE} (h : wQ D n z2 BO g' e) (hr : ∀ j r, dT j z2 BO r -> dT (j + m) z got r) : wQ D (n + m) z got g' e := by
 induction h with
 | next a b c => exact .next a b fun j r hj => (Nat.add_assoc j n m) ▸ hr _ _ (c j r hj)
 | fin a b => exact .fin a (hr _ _ b)
 | err a b c d => exact .err a b c (hr _ _ d)
theorem xD {D : Dx} (n : Nat) {z' : Z} {Us g' : List V} {e' : LE} (h : aV D z z') (hg : cG (mC D) got Us) (e : Td n z' Us = some (g', e')) : wQ D n z got g' e' := by
 induction n generalizing z z' got Us with
 | zero => exact nomatch e
 | succ n ih =>
  change (if _ then _ else _) = _ at e
  by_cases hh : z'.halt = true
  ·rw [if_pos hh] at e;cases e;exact .next h hg fun j r hr => hr.mono (by lia)
  ·rw [if_neg hh] at e;have nm := h.cM;cases hz : cM z' with
   | wall => rw [hz] at e; cases e
   | err c p => rw [hz] at e; cases e
   | ok b uF =>
    rw [hz] at e nm;generalize ES : cM z = q at nm;induction nm.out with
    | @ok b0 z1 q1 =>
    obtain ⟨rfl, h1⟩ := q1;cases b0 with
    | true =>
     dsimp only at e;have fm := h1.bI 1000;cases hf : bI 1000 uF with
     | wall => rw [hf] at e; cases e
     | err c p =>
      rw [hf] at e fm;cases e;generalize KZ : bI 1000 z1 = q at fm;induction fm.out with
      | err hc hp => exact .err hg hc hp (.err ES KZ)
     | ok u Yt =>
      rw [hf] at e fm;generalize KZ : bI 1000 z1 = q at fm;induction fm.out with
      | @ok u z2 q2 => exact (ih q2.2 hg e).step fun j r hj => .more ES KZ hj
    | false =>
     dsimp only at e;have ht := h1.tokens;generalize JT : z1.tokens = ts at ht;generalize OP : uF.tokens = Sr at ht e;cases Sr with
     | nil =>
      induction ht.out
      cases e;exact .fin hg (.stop ES JT)
     | cons t' Sr =>
      induction ht.out with
      | @cons t ts a b =>
      dsimp only at e
      by_cases hl : (t' :: Sr).length <= 1000
      ·rw [if_pos hl] at e;have Cb : z1.tokens.length <= 1000 := by rw [JT, List.length_cons, b.length]; exact hl
       have hn : aV D { z1 with taken := z1.taken + 1, tokens := ts } { uF with taken := uF.taken + 1, tokens := Sr } := { h1 with taken := (by show z1.taken + 1 = uF.taken + 1 + D.dt; rw [h1.taken]; lia), tokens := b }
       exact (ih hn (hg.append (.cons a .nil)) e).step fun j r hj => .pop ES JT Cb hj
      ·rw [if_neg hl] at e; cases e
end
noncomputable def Pm : Bool -> List (Int × lE)
 | false => [(0, ⟨0, false, -1, 0, 2⟩)]
 | true => [(0, ⟨0, false, -2, 0, 2⟩), (1, ⟨1, false, -1, 0, 3⟩)]
noncomputable def Um (aA : Bool) (n : Nat) (rem : List Nat) : Z :=
 { buf := "", ptr := 1, rem := rem, line := 0, col := if aA then (n : Int) + 4 else (n : Int) + 3, done := false, aA := if aA then 1 else 0, tokens := if aA then [.int 2, .int 1] else [.int 1], taken := 0, indent := 0, aG := [-1], allow := false, keys := Pm aA }
noncomputable def hY (t : List Nat) : Str := ⟨t.toArray⟩
noncomputable def iN (aA : Bool) (nm : V) (t : List Nat) (at_ e : Int) : Option (List V) := nQ aA (hY (t.take 1)) (hY ((t.drop 1).take 1)) nm (hY t) at_ e (e + t.length)
noncomputable def Ma (v : V) : Option (Nat × Int × Str) := v.sel none (some (0, 0, "")) (i := fun i => some (1, i, "")) (s := fun x => some (2, 0, x))
noncomputable def Rb (c : Nat × Int × Str) : V := match c.1 with
 | 0 => .none
 | 1 => .int c.2.1
 | _ => .str c.2.2
noncomputable def Nw (x y : V) : Bool := (Ma x).any fun c => (Ma y).any fun d => c.1 == d.1 && (c.2.1 == d.2.1 && c.2.2 == d.2.2)
noncomputable def tE (f : V -> V -> Bool) : List V -> List V -> Bool
 | [], m => m.isEmpty
 | a :: l, m => match m with
  | [] => false
  | b :: m => f a b && tE f l m
noncomputable def Nd (v : V) : Option (List V) := v.sel none (t := fun l => some l) (i := fun i => some [.int i])
noncomputable def Mt (v : V) : Bool := v.sel false (t := fun U => true)
noncomputable def Tz (x y : V) : Bool := Mt x == Mt y && (Nd x).any fun l => (Nd y).any fun m => tE Nw l m
noncomputable def pY (x y : List V) : Bool := tE Tz x y
noncomputable def tN (v : V) : V := v.sel (dC v) (i := fun U => v)
noncomputable def JX (v : V) : Bool := v.sel false true
theorem Jr {v : V} (h : JX v = true) : v = .none := by
 cases v with
 | none => rfl
 | _ => exact nomatch h
noncomputable def Ej (v : V) : Bool := v.sel false (i := fun U => true) (o := fun C U l => bif l.length == 2 then Qk.contains C else (bif l.length == 5 then (l.getD 0 .none).sel false (s := fun U => (l.getD 1 .none).sel false (b := fun U => C == 499)) else false))
noncomputable def Dm (z : Z) : Bool := z.tokens.isEmpty && (z.rem == [32] && (z.keys.isEmpty && (z.aA == 0 && (z.indent == 0 && (z.aG == [-1] && (z.allow && (z.col == 1 && !z.done)))))))
noncomputable def Sz (aA : Bool) (t : List Nat) (rows g : List V) (e : LE) : Bool :=
 LE.casesOn e (fun z => !(jG rows == some ("refused" : Str)) && (g.all Ej && (pY (g.map tN) ((if aA then [.int 2] else []) ++ rows ++ (if jG rows == some ("<block mapping start>" : Str) then [bO "<block end>" .none (.int (1 + t.length)) (1 + t.length)] else []) ++ [bO "-" .none (.int (1 + t.length)) (1 + t.length + 1)]) && (Dm z && z.ptr == 2 + t.length)))) false fun c p => JX c && (g.isEmpty && pY [.tup [.str "refused", .none, .none, bU p]] rows)
noncomputable def Tj (aA : Bool) (r : List Nat) (rows g : List V) (e : LE) : Bool :=
 LE.casesOn e (fun z => false) (!(jG rows == some ("refused" : Str)) && (g.all Ej && (pY (g.map tN) ((if aA then [.int 2] else []) ++ rows ++ (List.replicate (if jG rows == some ("<block mapping start>" : Str) then 2 else 1) (bO "<block end>" .none (.int (1 + r.length)) (1 + r.length))) ++ [bO "<stream end>" .none (.int (1 + r.length)) (1 + r.length)])))) fun c p => JX c && (g.isEmpty && pY [.tup [.str "refused", .none, .none, bU p]] rows)
noncomputable def xQ (aA : Bool) (n : Nat) (t : List Nat) : Bool :=
 (iN aA (.int 1) t (-1) 1).any fun rows => (Td 60 (Um aA n (t ++ [45, 32])) []).any fun q => Sz aA t rows q.1 q.2
noncomputable def wN (aA : Bool) (n : Nat) (t r : List Nat) : Bool :=
 (iN aA (.int 1) t (-1) 1).any fun rows => (Td 60 (Um aA n (r ++ [0])) []).any fun q => Tj aA r rows q.1 q.2
noncomputable def Iz (aA : Bool) (n : Nat) (t : List Nat) : Bool := xQ aA n t && (wN aA n t t && wN aA n t t.dropLast)
noncomputable def HV : List (List Nat) := [[10], [13, 10], [13], [133], [8232], [8233]]
noncomputable def OK : List (List Nat) := [[120], [], [32, 39, 120, 39]]
noncomputable def Ks : List (List Nat) := ([32] :: [58] :: [63] :: [44] :: [37] :: [64] :: [96] :: [9] :: HV.map (· ++ [32, 32])).flatMap fun s => OK.map fun w => s ++ w
noncomputable def Em : Bool -> List (List Nat)
 | false => ([] :: [32, 39, 120, 39] :: Ks).map (· ++ [10])
 | true => (([] :: [32, 39, 120, 39] :: Ks).map (· ++ [93, 10])) ++ ([[93], [125]].flatMap fun s => OK.map fun w => s ++ w ++ [10])
theorem BL : (([0, 1, 2, 3, 4, 5, 6] : List Nat).all fun n => (Em false).all fun t => Iz false (n + 1) t) = true := by decide +kernel
theorem BK : (([0, 1, 2, 3, 4, 5, 6] : List Nat).all fun n => (Em true).all fun t => Iz true (n + 1) t) = true := by decide +kernel
theorem ns {α : Type} {a : α} {P : Prop} (h : (none : Option α) = some a) : P := nomatch h
set_option tactic.hygienic true in
theorem wH {x : V} {c : Nat × Int × Str} (h : Ma x = some c) : x = Rb c := by
 cases x with
 | none => exact congrArg Rb (Option.some.inj h)
 | int i => exact congrArg Rb (Option.some.inj h)
 | str s => exact congrArg Rb (Option.some.inj h)
 | _ => exact ns h
set_option tactic.hygienic true in
theorem sZ {x : V} {l : List V} (h : Nd x = some l) : x = .tup l \/ (Mt x = false /\ ∃ i, x = .int i /\ l = [.int i]) := by
 cases x with
 | tup l => exact .inl (congrArg V.tup (Option.some.inj h))
 | int i => exact .inr ⟨rfl, _, rfl, (Option.some.inj h).symm⟩
 | _ => exact ns h
theorem Hk {x y : V} (h : Nw x y = true) : x = y := by
 refine aR ((Option.any_eq_true _ _).mp h) fun c h1 h => ?_;refine aR ((Option.any_eq_true _ _).mp h) fun d h2 h => ?_;rw [Bool.and_eq_true, Bool.and_eq_true] at h;rw [wH h1, wH h2, show c = d from Prod.ext (eq_of_beq h.1) (Prod.ext (eq_of_beq h.2.1) (eq_of_beq h.2.2))]
theorem vF {f : V -> V -> Bool} (hf : ∀ {x y : _}, f x y = true -> x = y) {x y : List V} (h : tE f x y = true) : x = y := by
 induction x generalizing y with
 | nil => exact (List.isEmpty_iff.mp h).symm
 | cons a l ih =>
  induction y with
  | nil => cases h
  | cons b m =>
   have h : (f a b && tE f l m) = true := h;rw [Bool.and_eq_true] at h;rw [hf h.1, ih h.2]
theorem Ls {x y : V} (h : Tz x y = true) : x = y := by
 obtain ⟨e, h⟩ := (Bool.and_eq_true _ _).mp h;refine aR ((Option.any_eq_true _ _).mp h) fun l h1 h => ?_;refine aR ((Option.any_eq_true _ _).mp h) fun m h2 h => ?_;have h := vF Hk h;subst h
 rcases sZ h1 with rfl | ⟨e1, i, rfl, rfl⟩
 ·rcases sZ h2 with rfl | ⟨e2, j, rfl, e3⟩
  ·rfl
  ·cases e
 ·rcases sZ h2 with rfl | ⟨e2, j, rfl, e3⟩
  ·cases e
  ·cases e3; rfl
theorem pQ {x y : List V} (h : pY x y = true) : x = y := vF Ls h
inductive iO (D : Dx) (old : Int -> V) : V -> V -> Prop
 | row {tag : Str} {v : V} {s e s' e' : Int} (hs : s = D.pos s') (he : e = D.pos e') : iO D old (bO tag v (.int s) e) (bO tag v (.int s') e')
 | ref {tag : Str} {e e' : Int} (he : e = D.pos e') : iO D old (bO tag .none .none e) (bO tag .none .none e')
 | old (k : Int) : iO D old (old k) (.int k)
theorem Bi {C : Addr} (hC : C ∈ Qk) (s e : V) : dC (tk C s e) = .tup [.str (uL C), .none, bU s, bU e] := by
 simp only [Qk, List.mem_cons, List.not_mem_nil, or_false] at hC
 rcases hC with rfl | rfl | rfl | rfl | rfl | rfl | rfl | rfl | rfl | rfl | rfl <;> rfl
theorem mS.ok {D : Dx} {m m' : V} (h : mS D m m') : ∃ i, iY m (D.pos i) /\ bU m = .int (D.pos i) /\ bU m' = .int i := by
 induction h
 exact ⟨_, .mk _ _ _ _, rfl, rfl⟩
noncomputable def NJ (D : Dx) (v : V) : V := v.sel v (i := fun i => .int (D.pos i))
noncomputable def FG (D : Dx) (old : Int -> V) (v : V) : V := v.sel v (i := old) (t := fun l => .tup [l.getD 0 .none, l.getD 1 .none, NJ D (l.getD 2 .none), NJ D (l.getD 3 .none)])
theorem iO.up {D : Dx} {old : Int -> V} {r x : V} (h : iO D old r x) : r = FG D old x := by
 induction h with
 | row a b => rw [a, b]; rfl
 | ref a => rw [a]; rfl
 | old k => rfl
theorem iO.ups {D : Dx} {old : Int -> V} {rs xs : List V} (h : cG (iO D old) rs xs) : rs = xs.map (FG D old) := by
 induction h with
 | nil => rfl
 | cons h _ ih => rw [List.map_cons, ← h.up, ← ih]
structure Zk (D : Dx) (old : Int -> V) (t t' : V) : Prop where
 ok : eD t
 tell : dC t = FG D old (tN t')
theorem AH {D : Dx} {old : Int -> V} (hP : ∀ t t', D.P t t' -> ∃ k, t' = .int k /\ eD t /\ dC t = old k) {t t' : V} (h : mC D t t') (ok : Ej t' = true) : Zk D old t t' := by
 induction h with
 | @tk C s s' e e' hs he =>
  have hC : C ∈ Qk := List.contains_iff_mem.mp ok;refine fO hs.ok fun i m1 s1 s2 => ?_;refine fO he.ok fun j m2 e1 e2 => ?_;refine ⟨.tk hC m1 m2, ?_⟩;rw [Bi hC, s1, e1, show tN (Internal.tk C s' e') = V.tup [.str (uL C), .none, bU s', bU e'] from Bi hC s' e', s2, e2]; rfl
 | Ge C v hs he => exact (Bool.false_ne_true ok).elim
 | @Bj v pl st s s' e e' hs he =>
  refine fO hs.ok fun i m1 s1 s2 => ?_;refine fO he.ok fun j m2 e1 e2 => ?_;cases v with
  | str x =>
   refine ⟨.Bj m1 m2, ?_⟩;show V.tup [.str "<scalar>", .str x, bU s, bU e] = FG D old (V.tup [.str "<scalar>", .str x, bU s', bU e']);rw [s1, e1, s2, e2]; rfl
  | _ => exact (Bool.false_ne_true ok).elim
 | old h =>
  refine fO (hP _ _ h) fun k e a b => ?_;exact ⟨a, by rw [e]; exact b⟩
theorem zT {D : Dx} {old : Int -> V} (hP : ∀ t t', D.P t t' -> ∃ k, t' = .int k /\ eD t /\ dC t = old k) {ts Sr rs : List V} (h : cG (mC D) ts Sr) (ok : Sr.all Ej = true) (hr : cG (iO D old) rs (Sr.map tN)) : ts.map dC = rs /\ ∀ t ∈ ts, eD t := by
 rw [iO.ups hr];clear hr;induction h with
 | nil => exact ⟨rfl, fun U h => (List.not_mem_nil h).elim⟩
 | cons a _ ih =>
  rw [List.all_cons, Bool.and_eq_true] at ok;have T := AH hP a ok.1;obtain ⟨e, k⟩ := ih ok.2;refine ⟨by rw [List.map_cons, T.tell, e]; rfl, fun t ht => ?_⟩
  rcases List.mem_cons.mp ht with rfl | ht
  ·exact T.ok
  ·exact k t ht
theorem rZ {D : Dx} (h : 0 <= i) : D.pos i = i + D.dp := by
 unfold Dx.pos; rw [if_neg (by lia)]
inductive rN (D : Dx) (old : Int -> V) : Option (List V) -> Option (List V) -> Prop
 | none {o : _} : rN D old o none
 | some {rs Oh : _} (h : cG (iO D old) rs Oh) : rN D old (some rs) (some Oh)
theorem rN.map {D : Dx} {old : Int -> V} {o o' : Option (List V)} (h : rN D old o o') {f f' : List V -> List V} (k : ∀ rs Oh, cG (iO D old) rs Oh -> cG (iO D old) (f rs) (f' Oh)) : rN D old (o.map f) (o'.map f') := by
 induction h with
 | none => exact .none
 | some h => exact .some (k _ _ h)
theorem rN.cond {D : Dx} {old : Int -> V} {c : Bool} {x y x' y' : Option (List V)} (h1 : rN D old x x') (h2 : rN D old y y') : rN D old (cond c x y) (cond c x' y') := by
 induction c with
 | true => exact h1
 | false => exact h2
theorem cG.cond {α β : Type} {r : α -> β -> Prop} {c : Bool} {x y : List α} {x' y' : List β} (h1 : cG r x x') (h2 : cG r y y') : cG r (cond c x y) (cond c x' y') := by
 induction c with
 | true => exact h1
 | false => exact h2
theorem xK {D : Dx} : D.a0 = D.pos (-1) := by unfold Dx.pos; rw [if_pos (by decide)]; lia
theorem wO {D : Dx} : (1 : Int) + D.dp = D.pos 1 := (rZ (by decide)).symm
theorem yB {D : Dx} {k : Int} (hk : 0 <= k) : 1 + D.dp + k = D.pos (1 + k) := by rw [rZ (by lia)]; lia
theorem Xj {D : Dx} {w : Int} (hi : 0 <= i) (hw : 0 <= w) : 1 + D.dp + i + w = D.pos (1 + i + w) := by rw [rZ (by lia)]; lia
theorem Eo {D : Dx} {l k : Int} (h : k <= 1 + l) : 1 + D.dp + l - k = D.pos (1 + l - k) := by rw [rZ (by lia)]; lia
theorem zV {D : Dx} {old : Int -> V} {rows eE : List V} (hr : cG (iO D old) rows eE) {w : Int} (hw : 0 <= w) (l : List Nat) : rN D old (Ig rows (1 + D.dp) w l) (Ig eE 1 w l) := by
 induction l with
 | nil => exact .none
 | cons i _ => exact .some (hr.append (.cons (.row (yB (Int.natCast_nonneg i)) (Xj (Int.natCast_nonneg i) hw)) .nil))
theorem Ds {D : Dx} {old : Int -> V} {aA : Bool} {nm Th : V} {t : List Nat} (hn : iO D old nm Th) (ht : t ≠ []) : rN D old (iN aA nm t D.a0 (1 + D.dp)) (iN aA Th t (-1) 1) := by
 have hl : (1 : Int) <= t.length := Int.ofNat_le.mpr (List.length_pos_iff.mpr ht);have h3 : cG (iO D old) [bO "?" .none (.int D.a0) D.a0, nm, bO ":" .none (.int (1 + D.dp)) (1 + D.dp + 1)] [bO "?" .none (.int (-1)) (-1), Th, bO ":" .none (.int 1) (1 + 1)] := .cons (.row xK xK) (.cons hn (.cons (.row wO (yB (by decide))) .nil));have hr : cG (iO D old) (kH aA (hY (t.take 1)) nm D.a0 (1 + D.dp)) (kH aA (hY (t.take 1)) Th (-1) 1) := .cond (.cond h3 (.cons (.row xK xK) h3)) (.cond (.cons hn (.cons (.row wO (yB (by decide))) .nil)) (.cons hn .nil));have hx : rN D old (kZ (kH aA (hY (t.take 1)) nm D.a0 (1 + D.dp)) (hY t) (1 + D.dp)) (kZ (kH aA (hY (t.take 1)) Th (-1) 1) (hY t) 1) := .cond (zV hr (by decide) _) (.cond (zV hr (by decide) _) (.some hr));exact .cond (.some (.cons (.ref wO) .nil)) (.cond (.some (.cons hn (.cons (.row wO (yB (by decide))) .nil))) (hx.map fun rs Oh h => .cond (.cond h (h.append (.cons (.row (Eo (by lia)) (Eo (by lia))) .nil))) h))
theorem xJ {aA : Bool} {sg bh MR OM rest Sv : Str} {nm Th : V} {at_ e en OL : Int} (h1 : sg = MR) (h2 : bh = OM) (h3 : nm = Th) (h4 : rest = Sv) (h5 : en = OL) : nQ aA sg bh nm rest at_ e en = nQ aA MR OM Th Sv at_ e OL := by
 subst h1 h2 h3 h4 h5; rfl
theorem IQ {a : Bool} (hc : ¬ (a = false /\ b = false)) : (!a && !b) = false := by
 induction a <;> induction b <;> first | rfl | exact absurd ⟨rfl, rfl⟩ hc
theorem vJ {aA : Bool} {body : Str} {at_ : Int} {a : Nat} {w t : List Nat} (hb : body.cps.toList = a :: w ++ t) (hw : w ≠ []) (ht : t ≠ []) (hc : ¬ (Txt.contains bW (hY (t.take 1)) = false /\ Txt.contains "?:,]}%@`" (hY (t.take 1)) = false)) :
  gZ aA body at_ w.length = iN aA (bO (cond (hY [a] == "*") "<alias>" "<anchor>") (.str (hY w)) (.int at_) (at_ + (w.length + 1))) t at_ (at_ + (w.length + 1)) := by
 have hl : body.length = w.length + 1 + t.length := by
  show body.cps.toList.length = _;rw [hb]; simp only [List.length_append, List.length_cons]
 have h1 : Txt.item body ((w.length : Int) + 1) = hY (t.take 1) := by
  induction t with
  | nil => exact absurd rfl ht
  | cons c t =>
   have : body.cps.toList[w.length + 1]? = some c := by
    rw [hb, List.cons_append, List.getElem?_cons_succ, List.getElem?_append_right (Nat.le_refl _), Nat.sub_self]; rfl
   exact rV this
 have h2 : Txt.item body 0 = hY [a] := rV (k := 0) (by rw [hb]; rfl);have h3 : Txt.slice body (some ((w.length : Int) + 1)) none = hY t := by
  have := Dr body (p := w.length + 1) (by lia);rw [show (((w.length + 1 : Nat)) : Int) = (w.length : Int) + 1 by lia] at this;rw [this, hb];show (⟨_⟩ : Str) = ⟨_⟩;rw [List.cons_append, List.drop_succ_cons, List.drop_left]
 have h4 : Txt.slice body (some ((w.length : Int) + 1 + 1)) (some ((w.length : Int) + 1 + 2)) = hY ((t.drop 1).take 1) := by
  have hp : 0 < t.length := List.length_pos_iff.mpr ht;have := pW body (p := w.length + 2) (n := 1) (by lia);rw [show (((w.length + 2 : Nat)) : Int) = (w.length : Int) + 1 + 1 by lia, show (w.length : Int) + 1 + 1 + ((1 : Nat) : Int) = (w.length : Int) + 1 + 2 by lia] at this;rw [this, hb];show (⟨_⟩ : Str) = ⟨_⟩;rw [List.cons_append, List.drop_succ_cons, ← List.drop_drop, List.drop_left]
 have h5 : Txt.slice body (some 1) (some ((w.length : Int) + 1)) = hY w := by
  have := pW body (p := 1) (n := w.length) (by lia);rw [show ((1 : Nat) : Int) + (w.length : Int) = (w.length : Int) + 1 by lia] at this;rw [show (some 1 : Option Int) = some ((1 : Nat) : Int) from rfl, this, hb];show (⟨_⟩ : Str) = ⟨_⟩;rw [List.cons_append, List.drop_succ_cons, List.drop_zero, List.take_left]
 have hf : (w.length == 0 || (!Txt.contains bW (Txt.item body (w.length + 1)) && !Txt.contains "?:,]}%@`" (Txt.item body (w.length + 1)))) = false := by
  rw [h1, IQ hc, Bool.or_false];exact beq_eq_false_iff_ne.mpr fun h => hw (List.length_eq_zero_iff.mp h)
 exact (congrArg (fun c => cond c _ _) hf).trans (xJ h1 h4 (by unfold oJ; rw [h2, h5]) h3 (by rw [hl]; lia))
structure UL (z : Z) : Prop where
 done : z.done = false
 tokens : z.tokens = []
 keys : z.keys = []
 aA : z.aA = 0
 indent : z.indent = 0
 aG : z.aG = [-1]
 allow : z.allow = true
 col : z.col = 1
 p0 : 0 < z.ptr
 sz : z.ptr + z.rem.length <= 900
noncomputable def kR (d : Nat) : Bool := d != 32 && (d != 35 && (!isIn [13, 10, 133] d && !isIn [8232, 8233] d))
theorem Jq {d : Nat} {r : List Nat} (hp : z.ptr ≠ 0) (hr : z.rem = d :: r) (h : kR d = true) : fT 1000 z = .ok () z := by
 unfold kR at h;simp only [Bool.and_eq_true, bne_iff_ne, Bool.not_eq_true'] at h;refine Ht h fun h1 h2 h3 h4 => ?_;unfold fT;rw [if_neg hp];show dH (999 + 1) z = _;rw [iA]; unfold lK;have e : span (· == 32) z.rem = some 0 := by
  rw [hr, mG]; rw [if_neg (by simpa using h1)]
 rw [e];show (peek 0 z).bind _ = _;unfold peek;rw [hr];show (if d = 35 then R.wall else (lineBreak z).bind _) = _;rw [if_neg h2];unfold lineBreak;rw [hr];show R.bind (if isIn [13, 10, 133] d then _ else if isIn [8232, 8233] d then _ else R.ok [] z) _ = _;rw [if_neg (by rw [h3]; decide), if_neg (by rw [h4]; decide)]
 rfl
theorem Ac {d : Nat} {r : List Nat} (hp : z.ptr ≠ 0) (hr : z.rem = 32 :: d :: r) (h : kR d = true) : fT 1000 z = .ok () { z with ptr := z.ptr + 1, col := z.col + 1, rem := d :: r } := by
 unfold kR at h;simp only [Bool.and_eq_true, bne_iff_ne, Bool.not_eq_true'] at h;refine Ht h fun h1 h2 h3 h4 => ?_;unfold fT;rw [if_neg hp];show dH (999 + 1) z = _;rw [iA]; unfold lK;have e : span (· == 32) z.rem = some 1 := by
  rw [hr, mG, mG];rw [if_neg (c := (d == 32) = true) (by simpa using h1)]; rfl
 rw [e];show ((aX z).bind fun U z => R.ok () z).bind _ = _;unfold aX;rw [hr];show (if d = 35 then R.wall else (lineBreak { z with ptr := z.ptr + 1, rem := d :: r, col := z.col + 1 }).bind _) = _
 rw [if_neg h2];unfold lineBreak;show R.bind (if isIn [13, 10, 133] d then _ else if isIn [8232, 8233] d then _ else R.ok [] _) _ = _;rw [if_neg (by rw [h3]; decide), if_neg (by rw [h4]; decide)]
 rfl
theorem lI {z1 : Z} {d : Nat} {r : List Nat} (h1 : fT 1000 z = .ok () z1) (h2 : stale z1 = .ok () z1) (h3 : dK z1.col z1 = .ok () z1) (hr : z1.rem = d :: r) : bI 1000 z = fG d z1 := by
 unfold bI;rw [h1];show (stale z1).bind _ = _;rw [h2];show (dK z1.col z1).bind _ = _;rw [h3];show (peek 0 z1).bind _ = _;unfold peek;rw [hr]
 rfl
theorem pS (h : z.keys = []) : stale z = .ok () z := by
 unfold stale;rw [h]; rfl
theorem wK {k : lE} (h : z.keys = [(0, k)]) (hl : k.line = z.line) (hi : z.ptr - k.idx <= 1024) : stale z = .ok () z := by
 unfold stale;rw [h];show dX [0] z = _;rw [mK];rw [h];show (if k.line ≠ z.line \/ 1024 < z.ptr - k.idx then _ else dX [] z) = _;rw [if_neg (fun x => x.elim (fun x => x hl) fun x => by lia)]
 rfl
theorem mA (ha : z.allow = true) (hk : cW z.keys z.aA = none) (h1 : z.keys.length <= 1000) (h2 : z.tokens.length <= 1000) : dY z = .ok () { z with keys := mE z.keys z.aA ⟨z.taken + z.tokens.length, decide (z.aA = 0) && decide (z.indent = z.col), z.ptr, z.line, z.col⟩ } := by
 unfold dY;rw [if_pos ha];unfold bT;rw [hk];show (if z.keys.length <= 1000 /\ z.tokens.length <= 1000 then R.ok () _ else R.wall) = _;rw [if_pos ⟨h1, h2⟩]
theorem sO {x : Nat} (h : bA x = true) : 44 < x /\ x < 123 := by
 unfold bA isIn at h;simp only [Bool.or_eq_true, Bool.and_eq_true, decide_eq_true_eq, List.contains_cons, List.contains_nil, Bool.or_false, beq_iff_eq] at h
 rcases h with ((h | h) | h) | h | h
 ·exact ⟨Nat.lt_of_lt_of_le (by decide) h.1, Nat.lt_of_le_of_lt h.2 (by decide)⟩
 ·exact ⟨Nat.lt_of_lt_of_le (by decide) h.1, Nat.lt_of_le_of_lt h.2 (by decide)⟩
 ·exact ⟨Nat.lt_of_lt_of_le (by decide) h.1, Nat.lt_of_le_of_lt h.2 (by decide)⟩
 ·rw [h]; decide
 ·rw [h]; decide
theorem jP {x : Nat} {r : List Nat} (hr : z.rem = x :: r) (h1 : 13 < x) (h2 : x < 123) : aX z = .ok () { z with ptr := z.ptr + 1, rem := r, col := z.col + 1 } := by
 unfold aX;rw [hr];have e : isIn [10, 133, 8232, 8233] x = false := by
  unfold isIn;simp only [List.contains_cons, List.contains_nil, Bool.or_false, Bool.or_eq_false_iff, beq_eq_false_iff_ne]
  lia
 show (if isIn [10, 133, 8232, 8233] x then _ else if x = 13 then _ else if x = 65279 then _ else R.ok () _) = _;rw [if_neg (by rw [e]; decide), if_neg (by lia), if_neg (by lia)]
theorem zG : ∀ (w : List Nat) {z : Z} {r : List Nat}, z.rem = w ++ r -> (∀ x ∈ w, bA x = true) -> fwd w.length z = .ok () { z with ptr := z.ptr + w.length, rem := r, col := z.col + w.length }
 | [], z, r, hr, _ => by
  rw [List.nil_append] at hr;show R.ok () z = R.ok () { z with ptr := z.ptr + 0, rem := r, col := z.col + 0 }
  rw [← hr, Int.add_zero, Int.add_zero]
 | x :: w, z, r, hr, hw => by
  obtain ⟨a, b⟩ := sO (hw x (.head _));show (aX z).bind (fun U z => fwd w.length z) = _;rw [jP hr (by lia) b];show fwd w.length _ = _;rw [zG w (r := r) rfl fun y hy => hw y (.tail _ hy)];have e1 : z.ptr + 1 + (w.length : Int) = z.ptr + ((x :: w).length : Int) := by rw [List.length_cons]; lia
  have e2 : z.col + 1 + (w.length : Int) = z.col + ((x :: w).length : Int) := by rw [List.length_cons]; lia
  show R.ok () _ = R.ok () _;rw [← e1, ← e2]
theorem wI {w : List Nat} {c : Nat} {t : List Nat} (hw : ∀ x ∈ w, bA x = true) (hc : bA c = false) : span bA (w ++ c :: t) = some w.length := by
 induction w with
 | nil => rw [List.nil_append, mG]; rw [if_neg (by rw [hc]; decide)]; rfl
 | cons x w ih =>
  rw [List.cons_append, mG];rw [if_pos (hw x (.head _)), ih fun y hy => hw y (.tail _ hy)]
  rfl
noncomputable def iH : List Nat := [0, 32, 9, 13, 10, 133, 8232, 8233, 63, 58, 44, 93, 125, 37, 64, 96]
theorem mX {C : Addr} {a c : Nat} {w t : List Nat} (hr : z.rem = a :: (w ++ c :: t)) (ha : 13 < a) (RI : a < 123) (hw : ∀ x ∈ w, bA x = true) (hc : bA c = false) :
  cX C z = if w ≠ [] /\ isIn iH c = true then .ok (Ge C (sv w) z.mark (iD z.buf (z.ptr + 1 + w.length) z.line (z.col + 1 + w.length))) { z with ptr := z.ptr + 1 + w.length, rem := c :: t, col := z.col + 1 + w.length } else .err z.mark (iD z.buf (z.ptr + 1 + w.length) z.line (z.col + 1 + w.length)) := by
 unfold cX;show (peek 0 z).bind _ = _;unfold peek;rw [hr];show (aX z).bind _ = _;rw [jP hr ha RI];show (match span bA (w ++ c :: t) with | none => R.wall | some 0 => _ | some n => _) = _
 rw [wI hw hc];induction w with
 | nil =>
  rw [if_neg (fun h => h.1 rfl)];show R.err z.mark (iD z.buf (z.ptr + 1) z.line (z.col + 1)) = R.err z.mark (iD z.buf (z.ptr + 1 + 0) z.line (z.col + 1 + 0));rw [Int.add_zero, Int.add_zero]
 | cons x w =>
  show (fwd (x :: w).length { z with ptr := z.ptr + 1, rem := (x :: w) ++ c :: t, col := z.col + 1 }).bind _ = _
  rw [zG (x :: w) (r := c :: t) rfl hw];show (if isIn iH c then R.ok (Ge C (sv (((x :: w) ++ c :: t).take (x :: w).length)) _ _) _ else R.err _ _) = _;rw [List.take_left]
  by_cases Sg : isIn iH c = true
  ·rw [if_pos Sg, if_pos ⟨fun h => (by cases h), Sg⟩]; rfl
  ·rw [if_neg Sg, if_neg (fun h => Sg h.2)]; rfl
theorem lJ {a : Nat} (ha : a = 38 \/ a = 42) : fG a z = cJ (if a = 42 then 441 else 460) z := by
 rcases ha with rfl | rfl <;> rfl
noncomputable def Fb (buf : Str) (ptr line taken : Int) (rem : List Nat) : Z := ⟨buf, ptr, rem, line, 1, false, 0, [], taken, 0, [-1], true, []⟩
noncomputable def Zg (buf : Str) (ptr line taken : Int) (rem : List Nat) : Z := ⟨buf, ptr + 2, rem, line, 3, false, 1, [tk 338 (iD buf (ptr + 1) line 2) (iD buf (ptr + 2) line 3)], taken, 0, [-1], true, [(0, ⟨taken + 0, false, ptr + 1, line, 2⟩)]⟩
noncomputable def mM (a : Nat) (w : List Nat) (buf : Str) (p line col : Int) : V := Ge (if a = 42 then 441 else 460) (sv w) (iD buf p line col) (iD buf (p + 1 + w.length) line (col + 1 + w.length))
noncomputable def OI (buf : Str) (ptr line taken : Int) (a : Nat) (w rem : List Nat) : Z :=
 ⟨buf, ptr + 1 + 1 + w.length, rem, line, 2 + 1 + w.length, false, 0, [mM a w buf (ptr + 1) line 2], taken, 0, [-1], false, [(0, ⟨taken + 0, false, ptr + 1, line, 2⟩)]⟩
noncomputable def LZ (buf : Str) (ptr line taken : Int) (a : Nat) (w rem : List Nat) : Z :=
 ⟨buf, ptr + 2 + 1 + w.length, rem, line, 3 + 1 + w.length, false, 1, [tk 338 (iD buf (ptr + 1) line 2) (iD buf (ptr + 2) line 3), mM a w buf (ptr + 2) line 3], taken, 0, [-1], false, [(0, ⟨taken + 0, false, ptr + 1, line, 2⟩), (1, ⟨taken + 1, false, ptr + 2, line, 3⟩)]⟩
theorem Wl {α β : Type} {a : α} {f : α -> Z -> R β} : (R.ok a z).bind f = f a z := rfl
section
variable {buf : Str} {ptr line taken : Int} {a c : Nat} {w t : List Nat}
theorem oG {rem : List Nat} : cM (Fb buf ptr line taken rem) = .ok true (Fb buf ptr line taken rem) := rfl
theorem Ud (ha : a = 38 \/ a = 42) : 13 < a /\ a < 123 /\ kR a = true := by rcases ha with rfl | rfl <;> decide
theorem Mu (hp : 0 < ptr) (ha : a = 38 \/ a = 42) (hw : ∀ x ∈ w, bA x = true) (hc : bA c = false) :
  bI 1000 (Fb buf ptr line taken (32 :: a :: (w ++ c :: t))) = if w ≠ [] /\ isIn iH c = true then .ok () (OI buf ptr line taken a w (c :: t)) else .err (iD buf (ptr + 1) line 2) (iD buf (ptr + 1 + 1 + w.length) line (2 + 1 + w.length)) := by
 refine qA (Ud ha) fun a1 a2 a3 => ?_;have h1 := Ac (z := Fb buf ptr line taken (32 :: a :: (w ++ c :: t))) (by show ptr ≠ 0; lia) rfl a3;rw [lI h1 (pS rfl) rfl rfl, lJ ha];unfold cJ;rw [mA rfl rfl (Nat.le_of_ble_eq_true rfl) (Nat.le_of_ble_eq_true rfl)];show (cX _ _).bind _ = _;rw [mX (a := a) (c := c) (w := w) (t := t) rfl a1 a2 hw hc]
 by_cases h : w ≠ [] /\ isIn iH c = true
 ·rw [if_pos h, if_pos h]; rfl
 ·rw [if_neg h, if_neg h]; rfl
theorem Ku (hp : 0 < ptr) {rem : List Nat} : bI 1000 (Fb buf ptr line taken (32 :: 91 :: rem)) = .ok () (Zg buf ptr line taken rem) := by
 have h1 := Ac (z := Fb buf ptr line taken (32 :: 91 :: rem)) (by show ptr ≠ 0; lia) rfl (by decide);rw [lI h1 (pS rfl) rfl rfl];rw [show ∀ z : Z, fG 91 z = eQ 338 z from fun U => rfl];unfold eQ;rw [mA rfl rfl (Nat.le_of_ble_eq_true rfl) (Nat.le_of_ble_eq_true rfl)];rw [Wl];unfold cB;rw [jP (x := 91) (r := rem) rfl (by decide) (by decide)];have e : ptr + 1 + 1 = ptr + 2 := by lia
 show R.ok () (⟨buf, ptr + 1 + 1, rem, line, 3, false, 1, [tk 338 (iD buf (ptr + 1) line 2) (iD buf (ptr + 1 + 1) line 3)], taken, 0, [-1], true, [(0, ⟨taken + 0, false, ptr + 1, line, 2⟩)]⟩ : Z) = _;rw [e]; rfl
theorem Ae {rem : List Nat} : cM (Zg buf ptr line taken rem) = .ok true (Zg buf ptr line taken rem) := by
 unfold cM;show (stale (Zg buf ptr line taken rem)).bind _ = _;rw [wK rfl rfl (by show ptr + 2 - (ptr + 1) <= 1024; lia)];show R.ok (some (taken + 0) == some taken) _ = _;rw [Int.add_zero, beq_self_eq_true]
theorem Kz (hp : 0 < ptr) (ha : a = 38 \/ a = 42) (hw : ∀ x ∈ w, bA x = true) (hc : bA c = false) :
  bI 1000 (Zg buf ptr line taken (a :: (w ++ c :: t))) = if w ≠ [] /\ isIn iH c = true then .ok () (LZ buf ptr line taken a w (c :: t)) else .err (iD buf (ptr + 2) line 3) (iD buf (ptr + 2 + 1 + w.length) line (3 + 1 + w.length)) := by
 refine qA (Ud ha) fun a1 a2 a3 => ?_;have h1 := Jq (z := Zg buf ptr line taken (a :: (w ++ c :: t))) (by show ptr + 2 ≠ 0; lia) rfl a3;rw [lI h1 (wK rfl rfl (by show ptr + 2 - (ptr + 1) <= 1024; lia)) rfl rfl, lJ ha];unfold cJ;rw [mA rfl rfl (Nat.le_of_ble_eq_true rfl) (Nat.le_of_ble_eq_true rfl)];show (cX _ _).bind _ = _;rw [mX (a := a) (c := c) (w := w) (t := t) rfl a1 a2 hw hc]
 by_cases h : w ≠ [] /\ isIn iH c = true
 ·rw [if_pos h, if_pos h]; rfl
 ·rw [if_neg h, if_neg h]; rfl
noncomputable def SI (buf : Str) (ptr line taken : Int) (w rest : List Nat) (old : Int -> V) (hp : 0 < ptr) : Dx :=
 ⟨ptr + 1 + w.length, ptr + 1, line, taken, rest, fun t t' => ∃ k, t' = .int k /\ eD t /\ dC t = old k, by lia, by lia⟩
noncomputable def SO (buf : Str) (ptr line taken : Int) (w rest : List Nat) (old : Int -> V) (hp : 0 < ptr) : Dx :=
 ⟨ptr + 2 + w.length, ptr + 2, line, taken, rest, fun t t' => ∃ k, t' = .int k /\ eD t /\ dC t = old k, by lia, by lia⟩
noncomputable def iX (a : Nat) (w : List Nat) (p : Int) : V := bO (if a = 42 then "<alias>" else "<anchor>") (.str (hY w)) (.int p) (p + (w.length + 1))
theorem mN (ha : a = 38 \/ a = 42) {p col : Int} : eD (mM a w buf p line col) /\ dC (mM a w buf p line col) = iX a w p := by
 have e : p + 1 + (w.length : Int) = p + (w.length + 1) := by lia
 rcases ha with rfl | rfl
 ·exact ⟨.Ge (.inr rfl) (.mk _ _ _ _) (.mk _ _ _ _), by unfold mM iX; rw [e]; rfl⟩
 ·exact ⟨.Ge (.inl rfl) (.mk _ _ _ _) (.mk _ _ _ _), by unfold mM iX; rw [e]; rfl⟩
noncomputable def kI (a : Nat) (w : List Nat) (ptr : Int) (aA : Bool) (k : Int) : V := if k = 1 then iX a w (if aA then ptr + 2 else ptr + 1) else bO "[" .none (.int (ptr + 1)) (ptr + 2)
theorem CB (hp : 0 < ptr) (ha : a = 38 \/ a = 42) {r rest : List Nat} (hs : rest = [] \/ r.getLast? = some 32) (hz : ptr + 2 + w.length + (r ++ rest).length <= 900) :
  aV (SI buf ptr line taken w rest (kI a w ptr false) hp) (OI buf ptr line taken a w (r ++ rest)) (Um false w.length r) where
 ptr := by show ptr + 1 + 1 + (w.length : Int) = 1 + (ptr + 1 + w.length); lia
 p0 := by show (0 : Int) < 1; decide
 rem := rfl
 GA := hs.elim .inl fun h => .inr (.inr h)
 sz := by show ptr + 1 + 1 + (w.length : Int) + ((r ++ rest).length : Int) <= 900; lia
 line := by show line = 0 + line; lia
 col := by show 2 + 1 + (w.length : Int) = (w.length : Int) + 3; lia
 done := rfl
 aA := rfl
 tokens := .cons (.old ⟨1, rfl, (mN ha).1, (mN ha).2⟩) .nil
 taken := by show taken = 0 + taken; lia
 indent := rfl
 aG := rfl
 allow := rfl
 keys := .cons ⟨rfl, ⟨by show taken + 0 = 0 + taken; lia, rfl, by show ptr + 1 = ptr + 1 + (-1 + 1); lia, by decide, by show line = 0 + line; lia, rfl⟩⟩ .nil
theorem CD (hp : 0 < ptr) (ha : a = 38 \/ a = 42) {r rest : List Nat} (hs : rest = [] \/ r.getLast? = some 32) (hz : ptr + 3 + w.length + (r ++ rest).length <= 900) :
  aV (SO buf ptr line taken w rest (kI a w ptr true) hp) (LZ buf ptr line taken a w (r ++ rest)) (Um true w.length r) where
 ptr := by show ptr + 2 + 1 + (w.length : Int) = 1 + (ptr + 2 + w.length); lia
 p0 := by show (0 : Int) < 1; decide
 rem := rfl
 GA := hs.elim .inl fun h => .inr (.inr h)
 sz := by show ptr + 2 + 1 + (w.length : Int) + ((r ++ rest).length : Int) <= 900; lia
 line := by show line = 0 + line; lia
 col := by show 3 + 1 + (w.length : Int) = (w.length : Int) + 4; lia
 done := rfl
 aA := rfl
 tokens := .cons (.old ⟨2, rfl, .tk (by decide) (.mk _ _ _ _) (.mk _ _ _ _), rfl⟩) (.cons (.old ⟨1, rfl, (mN ha).1, (mN ha).2⟩) .nil)
 taken := by show taken = 0 + taken; lia
 indent := rfl
 aG := rfl
 allow := rfl
 keys := .cons ⟨rfl, ⟨by show taken + 0 = 0 + taken; lia, rfl, by show ptr + 1 = ptr + 2 + (-2 + 1); lia, by decide, by show line = 0 + line; lia, rfl⟩⟩ (.cons ⟨rfl, ⟨by show taken + 1 = 1 + taken; lia, rfl, by show ptr + 2 = ptr + 2 + (-1 + 1); lia, by decide, by show line = 0 + line; lia, rfl⟩⟩ .nil)
end
theorem dT.shift {k : Nat} {r : List V × Option (V × V)} (h : dT k z got r) : ∃ ys, r.1 = got ++ ys /\ ∀ g0, dT k z g0 (g0 ++ ys, r.2) := by
 induction h with
 | more h1 h2 _ ih =>
  refine aR ih fun ys e k => ?_;exact (eO ys e (fun g0 => .more h1 h2 (k g0)))
 | err h1 h2 => exact (eO ([]) ((List.append_nil _).symm) (fun g0 => by rw [List.append_nil]; exact .err h1 h2))
 | @pop _ _ _ _ t _ _ h1 h2 hl _ ih =>
  refine aR ih fun ys e k => ?_;refine (eO (t :: ys) (by rw [e, List.append_assoc]; rfl) (fun g0 => .pop h1 h2 hl ?_));have := k (g0 ++ [t])
  rwa [List.append_assoc] at this
 | stop h1 h2 => exact (eO ([]) ((List.append_nil _).symm) (fun g0 => by rw [List.append_nil]; exact .stop h1 h2))
theorem dT.from {k : Nat} {ys : List V} {o : Option (V × V)} (h : dT k z [] (ys, o)) (g : List V) : dT k z g (g ++ ys, o) := by
 refine aR h.shift fun PN e k => ?_;have e : ys = PN := e;subst e;exact k g
structure Aa (aA : Bool) (ptr : Int) (a : Nat) (w r rest : List Nat) (z zA : Z) (D : Dx) : Prop where
 rel : aV D zA (Um aA w.length r)
 a0 : D.a0 = if aA then ptr + 2 else ptr + 1
 dp : 1 + D.dp = (if aA then ptr + 2 else ptr + 1) + (w.length + 1)
 rest : D.rest = rest
 P : ∀ t t', D.P t t' -> ∃ k, t' = .int k /\ eD t /\ dC t = kI a w ptr aA k
 runs : ∀ j r, dT j zA [] r -> dT (j + 2) z [] r
noncomputable def lead (aA : Bool) (x : List Nat) : List Nat := if aA then 32 :: 91 :: x else 32 :: x
theorem Ta {aA : Bool} {buf : Str} {ptr line taken : Int} {a c : Nat} {w t r rest : List Nat} (hp : 0 < ptr) (ha : a = 38 \/ a = 42) (hw : ∀ x ∈ w, bA x = true) (hc : bA c = false) (hr : r ++ rest = c :: t) (hs : rest = [] \/ r.getLast? = some 32) (hz : ptr + 3 + w.length + (r ++ rest).length <= 900) (hn : w ≠ [] /\ isIn iH c = true) :
  ∃ zA D, Aa aA ptr a w r rest (Fb buf ptr line taken (lead aA (a :: (w ++ (r ++ rest))))) zA D := by
 induction aA with
 | false =>
  refine ⟨_, _, CB (buf := buf) (line := line) (taken := taken) hp ha hs (by lia), rfl, ?_, rfl, fun U U h => h, fun j g hj => ?_⟩
  ·show 1 + (ptr + 1 + (w.length : Int)) = ptr + 1 + (w.length + 1); lia
  ·refine (dT.more oG ?_ hj).mono (by lia);have := Mu (buf := buf) (line := line) (taken := taken) (t := t) hp ha hw hc;rw [if_pos hn] at this;show bI 1000 (Fb buf ptr line taken (32 :: a :: (w ++ (r ++ rest)))) = _;rw [hr]; exact this
 | true =>
  refine ⟨_, _, CD (buf := buf) (line := line) (taken := taken) hp ha hs (by lia), rfl, ?_, rfl, fun U U h => h, fun j g hj => ?_⟩
  ·show 1 + (ptr + 2 + (w.length : Int)) = ptr + 2 + (w.length + 1); lia
  ·refine dT.more oG (Ku hp) (dT.more Ae ?_ hj);have := Kz (buf := buf) (line := line) (taken := taken) (t := t) hp ha hw hc;rw [if_pos hn] at this;rw [hr]; exact this
theorem Qe {aA : Bool} {buf : Str} {ptr line taken : Int} {a c : Nat} {w t : List Nat} (hp : 0 < ptr) (ha : a = 38 \/ a = 42) (hw : ∀ x ∈ w, bA x = true) (hc : bA c = false) (hn : ¬ (w ≠ [] /\ isIn iH c = true)) :
  ∃ m p, dT 2 (Fb buf ptr line taken (lead aA (a :: (w ++ c :: t)))) [] ([], some (m, p)) /\ iY m (if aA then ptr + 2 else ptr + 1) /\ iY p ((if aA then ptr + 2 else ptr + 1) + (w.length + 1)) := by
 induction aA with
 | false =>
  have := Mu (buf := buf) (line := line) (taken := taken) (t := t) hp ha hw hc;rw [if_neg hn] at this;refine (pO _ _ (dT.err oG this) (.mk _ _ _ _) ?_);rw [show ptr + 1 + 1 + (w.length : Int) = ptr + 1 + (w.length + 1) by lia];exact .mk _ _ _ _
 | true =>
  have := Kz (buf := buf) (line := line) (taken := taken) (t := t) hp ha hw hc;rw [if_neg hn] at this;refine (pO _ _ (dT.more oG (Ku hp) (dT.err Ae this)) (.mk _ _ _ _) ?_);rw [show ptr + 2 + 1 + (w.length : Int) = ptr + 2 + (w.length + 1) by lia];exact .mk _ _ _ _
theorem Xp {D : Dx} {z' : Z} (h : aV D z z') (k : Dm z' = true) : z = Fb z.buf (z'.ptr + D.dp) z.line z.taken (32 :: D.rest) := by
 unfold Dm at k;simp only [Bool.and_eq_true, beq_iff_eq, List.isEmpty_iff, Bool.not_eq_true'] at k;obtain ⟨k1, k2, k3, k4, k5, k6, k7, k8, k9⟩ := k;have h1 := h.tokens;have h2 := h.keys;have h3 := h.rem;rw [k1] at h1;rw [k3] at h2;rw [k2] at h3;have g1 : z.tokens = [] := by cases h : z.tokens with | nil => rfl | cons a l => rw [h] at h1; cases h1
 have g2 : z.keys = [] := by cases h : z.keys with | nil => rfl | cons a l => rw [h] at h2; cases h2
 have a1 := h.ptr;have a2 := h.aA.trans k4;have a3 := h.indent.trans k5;have a4 := h.aG.trans k6;have a5 := h.allow.trans k7;have a6 := h.col.trans k8;have a7 := h.done.trans k9;obtain ⟨buf, ptr, rem, line, col, done, aA, tokens, taken, indent, aG, allow, keys⟩ := z;dsimp only at *;subst g1 g2 h3 a1 a2 a3 a4 a5 a6 a7
 rfl
theorem iO.tag {D : Dx} {old : Int -> V} {rs Oh : List V} (h : cG (iO D old) rs Oh) (ho : ∀ k, ∃ x us, old k = .tup (.str x :: us) /\ x ≠ "refused" /\ x ≠ "<block mapping start>") (Yn : Oh ≠ []) : ∃ x, jG rs = some x /\ (x = "refused" ↔ jG Oh = some "refused") /\ (x = "<block mapping start>" ↔ jG Oh = some "<block mapping start>") := by
 induction h with
 | nil => exact absurd rfl Yn
 | cons h _ =>
  induction h with
  | row a b => exact (nF _ rfl ⟨fun h => (by rw [h]; rfl), fun h => Option.some.inj h⟩ ⟨fun h => (by rw [h]; rfl), fun h => Option.some.inj h⟩)
  | ref a => exact (nF _ rfl ⟨fun h => (by rw [h]; rfl), fun h => Option.some.inj h⟩ ⟨fun h => (by rw [h]; rfl), fun h => Option.some.inj h⟩)
  | old k =>
   refine pT (ho k) fun x us e h1 h2 => ?_;rw [e];exact (nF x rfl ⟨fun h => absurd h h1, fun h => nomatch h⟩ ⟨fun h => absurd h h2, fun h => nomatch h⟩)
theorem pD {c : Bool} {x y : List V} (h1 : x ≠ []) (h2 : y ≠ []) : cond c x y ≠ [] := by
 induction c with
 | true => exact h1
 | false => exact h2
theorem Ek {rows : List V} {e w : Int} {l : List Nat} (h : rows ≠ []) : nU (· ≠ []) (Ig rows e w l) := by
 induction l with
 | nil => trivial
 | cons i r => exact List.append_ne_nil_of_left_ne_nil h _
theorem Gz {aA : Bool} {nm : V} {t : List Nat} {at_ e : Int} {rows : List V} (h : iN aA nm t at_ e = some rows) : rows ≠ [] := by
 have hr : kH aA (hY (t.take 1)) nm at_ e ≠ [] := pD (pD (fun h => nomatch h) fun h => nomatch h) (pD (fun h => nomatch h) fun h => nomatch h)
 have hx : nU (· ≠ []) (iN aA nm t at_ e) := .cond (fun h => nomatch h) (.cond (fun h => nomatch h) (nU.map (P := (· ≠ [])) (.cond (Ek hr) (.cond (Ek hr) hr)) fun r hs => pD (pD hs (List.append_ne_nil_of_left_ne_nil hs _)) hs))
 exact hx.get h
noncomputable def fP (aA : Bool) (ptr : Int) : Int := if aA then ptr + 2 else ptr + 1
theorem FN {aA : Bool} {ptr : Int} : (if aA then ptr + 2 else ptr + 1) = fP aA ptr := rfl
structure Ex (aA : Bool) (ptr : Int) (a : Nat) (w t : List Nat) (D : Dx) (eE rows : List V) (x : Str) : Prop where
 e : iN aA (iX a w (fP aA ptr)) t (fP aA ptr) (fP aA ptr + (w.length + 1)) = some rows
 r : cG (iO D (kI a w ptr aA)) rows eE
 t : jG rows = some x
 f : x = "refused" ↔ jG eE = some ("refused" : Str)
 m : x = "<block mapping start>" ↔ jG eE = some ("<block mapping start>" : Str)
theorem Gb {aA : Bool} {ptr : Int} {a : Nat} {w r rest t : List Nat} {zA : Z} {D : Dx} (N : Aa aA ptr a w r rest z zA D) (ht : t ≠ []) {eE : List V} (h : iN aA (.int 1) t (-1) 1 = some eE) : ∃ rows x, Ex aA ptr a w t D eE rows x := by
 have k := Ds (D := D) (old := kI a w ptr aA) (aA := aA) (iO.old 1) ht;rw [h, N.a0, N.dp] at k;have e1 : kI a w ptr aA 1 = iX a w (fP aA ptr) := rfl;rw [e1] at k;generalize ho : iN aA (iX a w (fP aA ptr)) t (if aA then ptr + 2 else ptr + 1) ((if aA then ptr + 2 else ptr + 1) + (w.length + 1)) = o at k;cases k with
 | some k =>
  obtain ⟨x, h1, h2, h3⟩ := iO.tag k (fun k => by
   unfold kI iX
   split
   ·split
    ·exact (pO _ _ rfl (by decide) (by decide))
    ·exact (pO _ _ rfl (by decide) (by decide))
   ·exact (pO _ _ rfl (by decide) (by decide))) (Gz h)
  exact ⟨_, x, ho, k, h1, h2, h3⟩
theorem Ov {D : Dx} {ptr : Int} {aA : Bool} {w : List Nat} (h : 1 + D.dp = fP aA ptr + (w.length + 1)) (n : Nat) (k : Int) (hk : 0 <= k) : fP aA ptr + (w.length + 1) + n + k = D.pos (1 + n + k) := by
 rw [rZ (by lia)]; lia
theorem oW {o : Option Str} {x : Str} : (o == some x) = true ↔ o = some x := by
 induction o with
 | none => exact ⟨fun h => (nomatch h), fun h => (nomatch h)⟩
 | some y =>
  constructor
  ·intro h; rw [show y = x from eq_of_beq h]
  ·rintro h; cases h; exact beq_self_eq_true x
noncomputable def sQ (aA : Bool) (ptr : Int) : List V := if aA then [bO "[" .none (.int (ptr + 1)) (ptr + 2)] else []
theorem zL {D : Dx} {a : Nat} {w : List Nat} {ptr : Int} {aA : Bool} : cG (iO D (kI a w ptr aA)) (sQ aA ptr) (if aA then [.int 2] else []) := by
 induction aA with
 | false => exact .nil
 | true => exact .cons (.old 2) .nil
structure rO (K : Z) (rows : List V) : Prop where
 ex : ∃ m p, dT 62 K [] ([], some (m, p)) /\ lM (some (m, p)) /\ rows = [.tup [.str "refused", .none, bU m, bU p]]
theorem Mh {aA : Bool} {ptr : Int} {a : Nat} {w r rest t : List Nat} {zA : Z} {D : Dx} (N : Aa aA ptr a w r rest z zA D) {eE rows : List V} {x : Str} (K : Ex aA ptr a w t D eE rows x) {g : List V} {p : V} (hl : Td 60 (Um aA w.length r) [] = some (g, .err .none p)) (hc : (g.isEmpty && pY [.tup [.str "refused", .none, .none, bU p]] eE) = true) : x = "refused" /\ rO z rows := by
 rw [Bool.and_eq_true, List.isEmpty_iff] at hc;obtain ⟨rfl, hc⟩ := hc;have hr := pQ hc;have L := xD 60 N.rel .nil hl;generalize he : LE.err .none p = e at L;induction L with
 | next => cases he
 | fin => cases he
 | @err gE c p' c' p2 hg Sg hp BE =>
  cases he;cases hg;refine fO hp.ok fun i m1 m2 m3 => ?_;rw [m3] at hr;have kr := K.r;rw [← hr] at kr;have AQ : rows = [bO "refused" .none .none (D.pos i)] := iO.ups kr;have SM : c = .none := by
   generalize hq : V.none = q at Sg;induction Sg with
   | none => rfl
   | mk h => cases h; cases hq
  subst SM;have hx : x = "refused" := by
   have := K.t;rw [AQ] at this;exact (Option.some.inj this).symm
  refine ⟨hx, ⟨_, _, N.runs _ _ BE, .err (.inl rfl) m1, ?_⟩⟩;rw [AQ, m2]; rfl
structure AU (aA : Bool) (K : Z) (ptr Q : Int) (more : List Nat) (rows : List V) (x : Str) : Prop where
 nr : x ≠ "refused"
 ex : ∃ gs buf line taken, (∀ t ∈ gs, eD t) /\ gs.map dC = sQ aA ptr ++ rows ++ (if x = "<block mapping start>" then [bO "<block end>" .none (.int Q) Q] else []) ++ [bO "-" .none (.int Q) (Q + 1)] /\ ∀ j ys o, dT j (Fb buf (Q + 1) line taken (32 :: more)) [] (ys, o) -> dT (j + 62) K [] (gs ++ ys, o)
structure KI (aA : Bool) (K : Z) (ptr Q : Int) (rows : List V) (x : Str) : Prop where
 nr : x ≠ "refused"
 ex : ∃ gs, (∀ t ∈ gs, eD t) /\ gs.map dC = sQ aA ptr ++ rows ++ List.replicate (if x = "<block mapping start>" then 2 else 1) (bO "<block end>" .none (.int Q) Q) ++ [bO "<stream end>" .none (.int Q) Q] /\ dT 62 K [] (gs, none)
set_option tactic.hygienic true in
theorem Co {aA : Bool} {ptr : Int} {a : Nat} {w t more : List Nat} {zA : Z} {D : Dx} (N : Aa aA ptr a w (t ++ [45, 32]) more z zA D) (ht : t ≠ []) (hc : xQ aA w.length t = true) :
  ∃ eE rows x, Ex aA ptr a w t D eE rows x /\ ((x = "refused" /\ rO z rows) \/ AU aA z ptr (fP aA ptr + (w.length + 1) + t.length) more rows x) := by
 unfold xQ at hc;cases he : iN aA (.int 1) t (-1) 1 with
 | none => rw [he] at hc; exact nomatch hc
 | some eE =>
 rw [he] at hc;cases hl : Td 60 (Um aA w.length (t ++ [45, 32])) [] with
 | none => rw [hl] at hc; exact nomatch hc
 | some q =>
 rw [hl] at hc;obtain ⟨g, e⟩ := q;change Sz aA t eE g e = true at hc;refine Cr (Gb N ht he) fun rows x K => ?_;refine (La eE rows x K ?_);cases e with
 | next z' =>
  change (_ && _) = true at hc;simp only [Bool.and_eq_true, Bool.not_eq_true'] at hc;refine IL hc fun c1 c2 c3 c4 c5 => ?_;have c5 := eq_of_beq c5;have nr : x ≠ "refused" := fun h => by
   have := oW.mpr (K.f.mp h);rw [this] at c1; cases c1
  have L := xD 60 N.rel .nil hl;generalize hle : LE.next z' = e at L;induction L with
  | fin => cases hle
  | err => cases hle
  | @next zE To gE h hg hr =>
  cases hle;have hk := Xp h c4;have hq : z'.ptr + D.dp = fP aA ptr + (w.length + 1) + t.length + 1 := by
   have h1 : 1 + D.dp = fP aA ptr + (w.length + 1) := N.dp;rw [c5]; lia
  rw [hq, N.rest] at hk;have er := pQ c3;have em : ((jG eE == some ("<block mapping start>" : Str)) = true) ↔ x = "<block mapping start>" := oW.trans K.m.symm;have R : cG (iO D (kI a w ptr aA)) (sQ aA ptr ++ rows ++ (if x = "<block mapping start>" then [bO "<block end>" .none (.int (fP aA ptr + (w.length + 1) + t.length)) (fP aA ptr + (w.length + 1) + t.length)] else []) ++ [bO "-" .none (.int (fP aA ptr + (w.length + 1) + t.length)) (fP aA ptr + (w.length + 1) + t.length + 1)]) (g.map tN) := by
   rw [er];have p0 := Ov (D := D) (aA := aA) N.dp t.length 0 (by decide);rw [Int.add_zero, Int.add_zero] at p0;refine ((zL.append K.r).append ?_).append (.cons (.row p0 (Ov N.dp t.length 1 (by decide))) .nil)
   by_cases hx : x = "<block mapping start>"
   ·rw [if_pos hx, if_pos (em.mpr hx)]; exact .cons (.row p0 p0) .nil
   ·rw [if_neg hx, if_neg (fun h => hx (em.mp h))]; exact .nil
  obtain ⟨a1, a2⟩ := zT N.P hg c2 R;refine .inr ⟨nr, gE, zE.buf, zE.line, zE.taken, a2, a1, fun j ys o hj => ?_⟩;rw [← hk] at hj;have := N.runs _ _ (hr _ _ (hj.from gE));exact this
 | err c p =>
  obtain ⟨Jb, hc⟩ := (Bool.and_eq_true _ _).mp hc;rw [Jr Jb] at hl;exact .inl (Mh N K hl hc)
 | fin => exact nomatch hc
set_option tactic.hygienic true in
theorem Jc {aA : Bool} {ptr : Int} {a : Nat} {w t r : List Nat} {zA : Z} {D : Dx} (N : Aa aA ptr a w (r ++ [0]) [] z zA D) (ht : t ≠ []) (hc : wN aA w.length t r = true) :
  ∃ eE rows x, Ex aA ptr a w t D eE rows x /\ ((x = "refused" /\ rO z rows) \/ KI aA z ptr (fP aA ptr + (w.length + 1) + r.length) rows x) := by
 unfold wN at hc;cases he : iN aA (.int 1) t (-1) 1 with
 | none => rw [he] at hc; exact nomatch hc
 | some eE =>
 rw [he] at hc;cases hl : Td 60 (Um aA w.length (r ++ [0])) [] with
 | none => rw [hl] at hc; exact nomatch hc
 | some q =>
 rw [hl] at hc;obtain ⟨g, e⟩ := q;change Tj aA r eE g e = true at hc;refine Cr (Gb N ht he) fun rows x K => ?_;refine (La eE rows x K ?_);cases e with
 | fin =>
  change (_ && _) = true at hc;simp only [Bool.and_eq_true, Bool.not_eq_true'] at hc;refine qA hc fun c1 c2 c3 => ?_;have nr : x ≠ "refused" := fun h => by
   have := oW.mpr (K.f.mp h);rw [this] at c1; cases c1
  have L := xD 60 N.rel .nil hl;generalize hle : LE.fin = e at L;induction L with
  | next => cases hle
  | err => cases hle
  | @fin gE hg hr =>
  have er := pQ c3;have em : ((jG eE == some ("<block mapping start>" : Str)) = true) ↔ x = "<block mapping start>" := oW.trans K.m.symm;have R : cG (iO D (kI a w ptr aA)) (sQ aA ptr ++ rows ++ List.replicate (if x = "<block mapping start>" then 2 else 1) (bO "<block end>" .none (.int (fP aA ptr + (w.length + 1) + r.length)) (fP aA ptr + (w.length + 1) + r.length)) ++ [bO "<stream end>" .none (.int (fP aA ptr + (w.length + 1) + r.length)) (fP aA ptr + (w.length + 1) + r.length)]) (g.map tN) := by
   rw [er];have p0 := Ov (D := D) (aA := aA) N.dp r.length 0 (by decide);rw [Int.add_zero, Int.add_zero] at p0;refine ((zL.append K.r).append ?_).append (.cons (.row p0 p0) .nil)
   by_cases hx : x = "<block mapping start>"
   ·rw [if_pos hx, if_pos (em.mpr hx)]; exact .cons (.row p0 p0) (.cons (.row p0 p0) .nil)
   ·rw [if_neg hx, if_neg (fun h => hx (em.mp h))]; exact .cons (.row p0 p0) .nil
  obtain ⟨a1, a2⟩ := zT N.P hg c2 R;exact .inr ⟨nr, gE, a2, a1, N.runs _ _ hr⟩
 | err c p =>
  obtain ⟨Jb, hc⟩ := (Bool.and_eq_true _ _).mp hc;rw [Jr Jb] at hl;exact .inl (Mh N K hl hc)
 | next z' => exact nomatch hc
noncomputable def vO (aA : Bool) (sg wd : Str) : List Nat := sg.cps.toList ++ (if pH.any (· == sg) then [32, 32] else []) ++ wd.cps.toList ++ (if aA && !kO.any (· == sg) then [93] else []) ++ [10]
noncomputable def Du : List Str := Cw ++ Jt ++ (List.range 95).map fun i => ⟨#[32 + i]⟩
noncomputable def CS (aA : Bool) (sg wd : Str) : Bool :=
 match (vO aA sg wd).dropWhile bA with
 | [] => false
 | c :: t => (c :: t).getLast? == some 10 && ((vO aA sg wd).all rI && (decide (((vO aA sg wd).takeWhile bA).length <= 2) && (c != 0 && (!isIn iH c || (Em aA).contains (c :: t)))))
theorem Kv : (Du.all fun sg => kL.all fun wd => [false, true].all fun b => CS (b || kO.any (· == sg)) sg wd) = true := by decide +kernel
theorem Mr {n : Int} (h : 0 <= n) : bD n ∈ Du := by
 unfold bD Du;have g : ∀ (l : List Str) (i : Nat), i < l.length -> l.getD i "" ∈ l := fun l i hi => by
  rw [List.getD_eq_getElem?_getD, List.getElem?_eq_getElem hi]; exact List.getElem_mem hi
 split
 ·refine List.mem_append_left _ (List.mem_append_left _ (g _ _ ?_));exact Gx _ 17 (by decide)
 ·split
  ·refine List.mem_append_left _ (List.mem_append_right _ (g _ _ ?_));exact Gx _ 4 (by decide)
  ·refine List.mem_append_right _ (List.mem_map.mpr ⟨(n / 3 % 95).toNat, List.mem_range.mpr (Gx _ 95 (by decide)), ?_⟩);rw [show (32 + n / 3 % 95).toNat = 32 + (n / 3 % 95).toNat from Int.toNat_add (by decide) (Int.emod_nonneg _ (by decide))]
theorem Nc (n : Int) : kL.getD (n / 24 % 3).toNat "" ∈ kL := by
 have hi : (n / 24 % 3).toNat < kL.length := Gx _ 3 (by decide);rw [List.getD_eq_getElem?_getD, List.getElem?_eq_getElem hi]; exact List.getElem_mem hi
theorem Jg : ∀ c ∈ fN.cps.toList, c < 128 := by decide +kernel
theorem Hr : ∀ c < 128, fN.cps.toList.contains c = bA c := by decide +kernel
theorem zO (c : Nat) : fN.cps.toList.contains c = bA c := by
 by_cases h : c < 128
 ·exact Hr c h
 ·have h1 : bA c = false := by
   cases e : bA c with
   | false => rfl
   | true => have := sO e; lia
  rw [h1];cases e : fN.cps.toList.contains c with
  | false => rfl
  | true => exact absurd (Jg c (List.contains_iff_mem.mp e)) h
theorem oF (n m : Int) : ∀ c ∈ (bR n m).cps.toList, bA c = true := by
 unfold bR;have e : ((List.range (mV.getD (n / 4 % 6).toNat 0)).map fun (k : Nat) => Txt.item fN (m / 64 ^ k % 64)) = (((List.range (mV.getD (n / 4 % 6).toNat 0)).map fun (k : Nat) => (Txt.item fN (m / 64 ^ k % 64)).cps.toList).map fun l => (⟨l.toArray⟩ : Str)) := by
  rw [List.map_map]; rfl
 rw [e];show ∀ c ∈ (Txt.join (Str.ofString "") _).cps.toList, _;rw [pL];intro c hc;obtain ⟨l, hl, EV⟩ := List.mem_flatten.mp hc;obtain ⟨k, _, rfl⟩ := List.mem_map.mp hl;have b1 : 0 <= m / 64 ^ k % 64 := Int.emod_nonneg _ (by decide);have b2 : m / 64 ^ k % 64 < 64 := Int.emod_lt_of_pos _ (by decide);rw [item_meets (x := fN) ⟨b1, b2⟩] at EV;rw [← zO];refine List.contains_iff_mem.mpr ?_;have pK : (m / 64 ^ k % 64).toNat < fN.cps.size := by show _ < 64; lia
 have : c = fN.cps[(m / 64 ^ k % 64).toNat] := by simpa [pK] using EV
 rw [this];exact Array.mem_toList_iff.mpr (Array.getElem_mem pK)
theorem tR (n m : Int) (sg : Str) : ∃ a, (a = 38 \/ a = 42) /\ (eS n m sg).cps.toList = a :: ((bR n m).cps.toList ++ vO (bV n sg) sg (kL.getD (n / 24 % 3).toNat "")) := by
 have Ra : ∀ x y : Str, (x ++ y).cps.toList = x.cps.toList ++ y.cps.toList := fun x y => by
  show (x.cps ++ y.cps).toList = _;rw [Array.toList_append]
 have h1 : ∃ a, (a = 38 \/ a = 42) /\ (Txt.item ("&*" : Str) (n / 2 % 2)).cps.toList = [a] := by
  have : n / 2 % 2 = 0 \/ n / 2 % 2 = 1 := by lia
  rcases this with h | h
  ·exact ⟨38, .inl rfl, by rw [h]; rfl⟩
  ·exact ⟨42, .inr rfl, by rw [h]; rfl⟩
 obtain ⟨a, ha, e⟩ := h1;refine ⟨a, ha, ?_⟩;unfold eS wD vR qP wG vO;generalize bV n sg = fl;generalize kO.any (· == sg) = cl;generalize pH.any (· == sg) = br;induction fl <;> induction cl <;> induction br <;> simp [Ra, e] <;> rfl
structure rQ (aA : Bool) (body : Str) (a : Nat) (w : List Nat) (c : Nat) (t : List Nat) : Prop where
 e : body.cps.toList = a :: (w ++ c :: t)
 ha : a = 38 \/ a = 42
 hw : ∀ x ∈ w, bA x = true
 hc : bA c = false
 c0 : c ≠ 0
 len : kD body = some w.length
 last : (c :: t).getLast? = some 10
 rI : ∀ x ∈ body.cps.toList, rI x = true
 MP : w ≠ [] -> isIn iH c = true -> Iz aA w.length (c :: t) = true
 wl : w.length <= 7
theorem Vo {aA : Bool} {n : Nat} {t : List Nat} (h0 : n ≠ 0) (hn : n <= 7) (ht : (Em aA).contains t = true) : Iz aA n t = true := by
 have hm := List.contains_iff_mem.mp ht;obtain ⟨k, rfl⟩ : ∃ k, n = k + 1 := ⟨n - 1, (Nat.sub_one_add_one h0).symm⟩;have hk := (by decide : ∀ k < 7, k ∈ ([0, 1, 2, 3, 4, 5, 6] : List Nat)) k hn;induction aA with
 | false => exact List.all_eq_true.mp (List.all_eq_true.mp BL k hk) t hm
 | true => exact List.all_eq_true.mp (List.all_eq_true.mp BK k hk) t hm
theorem tP {n m s : Int} (hs : 0 <= s) : ∃ a w c t, rQ (bV n (bD s)) (eS n m (bD s)) a w c t := by
 obtain ⟨a, ha, e⟩ := tR n m (bD s);have f := List.all_eq_true.mp (List.all_eq_true.mp (List.all_eq_true.mp Kv _ (Mr hs)) _ (Nc n)) (n % 2 == 1) (by cases (n % 2 == 1) <;> decide)
 have ef : ((n % 2 == 1) || kO.any (· == bD s)) = bV n (bD s) := rfl;rw [ef] at f;generalize hr : vO (bV n (bD s)) (bD s) (kL.getD (n / 24 % 3).toNat "") = r at e;unfold CS at f;rw [hr] at f;cases hd : r.dropWhile bA with
 | nil => rw [hd] at f; cases f
 | cons c t =>
 rw [hd] at f;simp only [Bool.and_eq_true, decide_eq_true_eq, bne_iff_ne, Bool.or_eq_true, Bool.not_eq_true'] at f;obtain ⟨f1, f2, f3, f4, f5⟩ := f;have De : r = r.takeWhile bA ++ c :: t := by rw [← hd, List.takeWhile_append_dropWhile]
 have hc : bA c = false := by
  have := List.head?_dropWhile_not bA r;rw [hd] at this
  simpa using this
 have hw : ∀ x ∈ (bR n m).cps.toList ++ r.takeWhile bA, bA x = true := fun x hx => by
  rcases List.mem_append.mp hx with h | h
  ·exact oF n m x h
  ·exact List.all_eq_true.mp List.all_takeWhile x h
 have he : (eS n m (bD s)).cps.toList = a :: (((bR n m).cps.toList ++ r.takeWhile bA) ++ c :: t) := by
  rw [e, List.append_assoc, ← De]
 have hl : ((bR n m).cps.toList ++ r.takeWhile bA).length <= 7 := by
  have : (bR n m).cps.toList.length <= 5 := mB n m;rw [List.length_append]; lia
 refine ⟨a, (bR n m).cps.toList ++ r.takeWhile bA, c, t, he, ha, hw, hc, f4, ?_, eq_of_beq f1, ?_, fun h1 h2 => ?_, hl⟩
 ·unfold kD;rw [show (fun c => fN.cps.toList.contains c) = bA from funext zO, he];exact wI hw hc
 ·rw [e];intro x hx
  rcases List.mem_cons.mp hx with rfl | hx
  ·rcases ha with rfl | rfl <;> decide
  ·skip
   rcases List.mem_append.mp hx with h | h
   ·obtain ⟨q1, q2⟩ := sO (oF n m x h);have : (decide (32 <= x) && decide (x <= 126)) = true := by rw [decide_eq_true (by lia), decide_eq_true (by lia)]; rfl
    unfold Internal.rI;rw [this, Bool.true_or, Bool.or_true]
   ·exact List.all_eq_true.mp f2 x h
 ·refine Vo (fun h => h1 (List.length_eq_zero_iff.mp h)) hl ?_
  rcases f5 with h | h
  ·rw [h] at h2; cases h2
  ·exact h
noncomputable def jN (tp : List Int) : List Nat := (bL (bV (aM tp) (bD (aM tp.tail.tail)))).cps.toList ++ (eS (aM tp) (aM tp.tail) (bD (aM tp.tail.tail))).cps.toList
noncomputable def cS : Nat -> List Int -> List Nat
 | 0, _ => []
 | k + 1, tp => jN tp ++ cS k tp.tail.tail.tail
theorem nS (aA : Bool) (x : List Nat) : (bL aA).cps.toList ++ x = 45 :: lead aA x := by induction aA <;> rfl
theorem tT (aA : Bool) (x y : List Nat) : lead aA x ++ y = lead aA (x ++ y) := by induction aA <;> rfl
theorem wY {x y : List Nat} (h : y ≠ []) : (x ++ y).dropLast = x ++ y.dropLast := List.dropLast_append_of_ne_nil h
noncomputable def cut (dr : Bool) (x : List Nat) : List Nat := if dr then x.dropLast else x
theorem Ey (dr : Bool) {x y : List Nat} (h : y ≠ []) : cut dr (x ++ y) = x ++ cut dr y := by
 induction dr with
 | false => rfl
 | true => exact wY h
theorem Jx (tp : List Int) : ∃ a x, jN tp = 45 :: lead (bV (aM tp) (bD (aM tp.tail.tail))) (a :: x) := by
 unfold jN;refine aR (tR (aM tp) (aM tp.tail) (bD (aM tp.tail.tail))) fun a U e => ?_;rw [e, nS];exact (IK _ _ rfl)
theorem nJ (k : Nat) (tp : List Int) (dr : Bool) : ∃ more, cut dr (cS (k + 1) tp) = 45 :: 32 :: more := by
 refine Cr (Jx tp) fun a x e => ?_;have : ∃ y, cS (k + 1) tp = 45 :: 32 :: a :: y \/ cS (k + 1) tp = 45 :: 32 :: 91 :: y := by
  show ∃ y, jN tp ++ _ = _ \/ jN tp ++ _ = _;rw [e];generalize bV (aM tp) (bD (aM tp.tail.tail)) = fl;induction fl with
  | false => exact ⟨_, .inl rfl⟩
  | true => exact ⟨_, .inr rfl⟩
 obtain ⟨y, h⟩ := this
 rcases h with h | h <;> rw [h] <;> induction dr <;> exact ⟨_, rfl⟩
theorem Kf (k : Nat) (tp : List Int) : cS (k + 1) tp ≠ [] := fun h => by
 obtain ⟨more, e⟩ := nJ k tp false;have : cS (k + 1) tp = 45 :: 32 :: more := e;rw [h] at this; cases this
theorem qU {st yR : LS} (e : fU st = some yR) : yR.text.cps.toList = st.text.cps.toList ++ jN st.aP /\ yR.aP = st.aP.tail.tail.tail := by
 have Ra : ∀ x y z : Str, (x ++ y ++ z).cps.toList = x.cps.toList ++ (y.cps.toList ++ z.cps.toList) := fun x y z => by
  show ((x.cps ++ y.cps) ++ z.cps).toList = _;rw [Array.toList_append, Array.toList_append, List.append_assoc]
 unfold fU jF at e
 by_cases hs : st.sound = true
 ·rw [if_pos hs] at e;refine aR (Option.bind_eq_some_iff.mp e) fun k' h1 e => ?_;refine aR (Option.bind_eq_some_iff.mp e) fun rows iR e => ?_;refine aR (Option.bind_eq_some_iff.mp e) fun tag h2 e => ?_;cases e; exact ⟨Ra _ _ _, rfl⟩
 ·rw [if_neg hs] at e; cases e; exact ⟨Ra _ _ _, rfl⟩
theorem sS : ∀ {k : Nat} {st fin : LS}, qY k st = some fin -> fin.text.cps.toList = st.text.cps.toList ++ cS k st.aP
 | 0, st, fin, h => by cases h; exact (List.append_nil _).symm
 | k + 1, st, fin, h => by
  refine aR (Option.bind_eq_some_iff.mp h) fun NL h2 h3 => ?_;obtain ⟨e1, e2⟩ := qU h2;rw [sS h3, e1, e2, List.append_assoc]; rfl
theorem vX : ∀ (k : Nat) {st : LS}, st.sound = false -> ∃ fin, qY k st = some fin /\ fin.dA = st.dA /\ fin.sound = false
 | 0, st, h => (nF st rfl rfl h)
 | k + 1, st, h => by
  have e : fU st = some ⟨st.aP.tail.tail.tail, st.text ++ bL (gX st) ++ gA st, st.dA, st.ends, st.sound⟩ := by
   unfold fU jF;rw [if_neg (by rw [h]; decide)]
  refine fO (vX k (st := ⟨st.aP.tail.tail.tail, st.text ++ bL (gX st) ++ gA st, st.dA, st.ends, st.sound⟩) h) fun fin h1 h2 h3 => ?_;refine (nF fin ?_ h2 h3);show (fU st).bind _ = _;rw [e]; exact h1
noncomputable def kJ (st : LS) (rows : List V) (x : Str) : LS :=
 ⟨st.aP.tail.tail.tail, st.text ++ bL (gX st) ++ gA st, pF (gX st) x (wV st st.text.length) st.text.length ++ rows, if (x == "<block mapping start>") = true then 2 else 1, x != "refused"⟩
theorem qN {st : LS} (hs : st.sound = true) {k : Nat} {rows : List V} {x : Str} (h1 : kD (gA st) = some k)
  (h2 : gZ (gX st) (gA st) (st.text.length + (bL (gX st)).length) k = some rows) (h3 : jG rows = some x) : fU st = some (kJ st rows x) := by
 unfold fU jF;rw [if_pos hs, h1, Option.bind_some, h2, Option.bind_some, h3]
 rfl
theorem Lv {c : Nat} {t : List Nat} (h : isIn iH c = true) (h0 : c ≠ 0) : ¬ (Txt.contains bW (hY ((c :: t).take 1)) = false /\ Txt.contains "?:,]}%@`" (hY ((c :: t).take 1)) = false) := by
 show ¬ (Txt.contains bW ⟨#[c]⟩ = false /\ Txt.contains "?:,]}%@`" ⟨#[c]⟩ = false);rw [eH, eH];have e : c ∈ iH := List.contains_iff_mem.mp h;simp only [iH, List.mem_cons, List.not_mem_nil, or_false] at e
 rcases e with rfl | rfl | rfl | rfl | rfl | rfl | rfl | rfl | rfl | rfl | rfl | rfl | rfl | rfl | rfl | rfl
 ·exact absurd rfl h0
 all_goals decide
theorem Rh {c : Nat} {t : List Nat} (h : isIn iH c = false) : Txt.contains bW (hY ((c :: t).take 1)) = false /\ Txt.contains "?:,]}%@`" (hY ((c :: t).take 1)) = false := by
 show Txt.contains bW ⟨#[c]⟩ = false /\ Txt.contains "?:,]}%@`" ⟨#[c]⟩ = false;rw [eH, eH];have k : ∀ l : List Nat, (∀ x ∈ l, x ∈ iH) -> l.contains c = false := fun l hl => by
  cases e : l.contains c with
  | false => rfl
  | true =>
   have : isIn iH c = true := List.contains_iff_mem.mpr (hl c (List.contains_iff_mem.mp e));rw [h] at this; cases this
 exact ⟨k _ (by decide), k _ (by decide)⟩
theorem tK {a : Nat} {w : List Nat} {p : Int} (ha : a = 38 \/ a = 42) : bO (cond (hY [a] == "*") "<alias>" "<anchor>") (.str (hY w)) (.int p) (p + (w.length + 1)) = iX a w p := by
 rcases ha with rfl | rfl <;> rfl
theorem Nv {c : Nat} {t : List Nat} (h : (c :: t).getLast? = some 10) (hc : bA c = false) (dr : Bool) : ∃ c' t', cut dr (c :: t) ++ [0] = c' :: t' /\ bA c' = false /\ isIn iH c' = isIn iH c := by
 induction dr with
 | false => exact (pO c (t ++ [0]) rfl hc rfl)
 | true =>
  induction t with
  | nil =>
   have : c = 10 := by simpa using h
   subst this;exact (pO 0 ([]) rfl rfl rfl)
  | cons d t => exact (pO c ((d :: t).dropLast ++ [0]) rfl hc rfl)
structure Kc (K : Z) (n : Nat) (pre JY : List V) : Prop where
 ex : ∃ ys o, dT n K [] (ys, o) /\ (∀ t ∈ ys, eD t) /\ lM o /\ pre ++ gR (ys, o) = JY
theorem qW (gs ys : List V) (o : Option (V × V)) : gR (gs ++ ys, o) = gs.map dC ++ gR (ys, o) := by
 induction o with
 | none => exact List.map_append
 | some p =>
  show (gs ++ ys).map dC ++ _ = _;rw [List.map_append, List.append_assoc]; rfl
theorem tD (fl : Bool) (x : List Nat) : ((lead fl x).length : Int) = fP fl 0 + x.length := by
 induction fl with
 | false => show ((x.length + 1 : Nat) : Int) = 0 + 1 + x.length; lia
 | true => show ((x.length + 1 + 1 : Nat) : Int) = 0 + 2 + x.length; lia
theorem zW (fl : Bool) (p : Int) : fP fl p = p + fP fl 0 := by
 induction fl with
 | false => show p + 1 = p + (0 + 1); lia
 | true => show p + 2 = p + (0 + 2); lia
theorem Lr (fl : Bool) : 1 <= fP fl 0 /\ fP fl 0 <= 2 := by induction fl <;> decide
theorem pR (fl : Bool) (T : Int) : T + ((bL fl).length : Int) = fP fl (T + 1) := by
 induction fl with
 | false => show T + 2 = T + 1 + 1; lia
 | true => show T + 3 = T + 1 + 2; lia
theorem Ol (dr : Bool) (fl : Bool) (a c : Nat) (w t : List Nat) : cut dr (45 :: lead fl (a :: (w ++ c :: t))) = 45 :: lead fl (a :: (w ++ cut dr (c :: t))) := by
 have := Ey dr (x := 45 :: lead fl (a :: w)) (y := c :: t) (fun h => nomatch h)
 induction fl with
 | false => exact this
 | true => exact this
theorem zZ (fl : Bool) (x : Str) (d : List V) (T : Int) (h : x ≠ "refused") : pF fl x d T = d ++ sQ fl (T + 1) := by
 unfold pF sQ;rw [bne_iff_ne.mpr h];induction fl with
 | false => exact (List.append_nil d).symm
 | true =>
  rw [if_pos rfl, show T + 1 + 1 = T + 2 by lia, show T + 1 + 2 = T + 3 by lia]; rfl
theorem Qc (fl : Bool) (d : List V) (T : Int) : pF fl "refused" d T = d := rfl
theorem Ni (n : Nat) (x : V) : (List.replicate n [x]).flatten = List.replicate n x := by
 induction n with
 | zero => rfl
 | succ n ih => rw [List.replicate_succ, List.flatten_cons, ih]; rfl
theorem Rt (x : Str) : (if (x == "<block mapping start>") = true then (2 : Int) else 1).toNat = if x = "<block mapping start>" then 2 else 1 := by
 by_cases h : x = "<block mapping start>"
 ·rw [if_pos h, if_pos (beq_iff_eq.mpr h)]; rfl
 ·rw [if_neg h, if_neg (fun e => h (eq_of_beq e))]; rfl
theorem wR {k : Nat} {st : LS} {K : Z} {rows : List V} {len : Int} (e : fU st = some (kJ st rows "refused")) (R : rO K rows) (k2 : Nat) (hk : 62 <= k2) : ∃ fin, qY (k + 1) st = some fin /\ Kc K k2 (wV st st.text.length) (mD fin len) := by
 refine fO (vX k (st := kJ st rows "refused") (show (("refused" : Str) != "refused") = false by decide)) fun fin h1 h2 h3 => ?_;refine pT R.ex fun m p r1 r2 r3 => ?_;refine (eO fin (by show (fU st).bind _ = _; rw [e]; exact h1) ⟨[], some (m, p), r1.mono hk, fun U h => (nomatch h), r2, ?_⟩)
 unfold mD;rw [if_neg (by rw [h3]; decide), h2];show _ = pF _ "refused" _ _ ++ rows;rw [Qc, r3]; rfl
theorem Gh {k : Nat} {st : LS} {a c c' : Nat} {w t t' : List Nat} (T : rQ (gX st) (gA st) a w c t) (hs : st.sound = true) (hn : ¬ (w ≠ [] /\ isIn iH c = true)) (e2 : bA c' = false) (e3 : isIn iH c' = isIn iH c) {buf : Str} {line taken len : Int} (k2 : Nat) (hk : 62 <= k2) :
  ∃ fin, qY (k + 1) st = some fin /\ Kc (Fb buf (st.text.length + 1) line taken (lead (gX st) (a :: (w ++ c' :: t')))) k2 (wV st st.text.length) (mD fin len) := by
 obtain ⟨fl, vL⟩ : ∃ fl, fl = gX st := ⟨_, rfl⟩;obtain ⟨m, p, r1, r2, r3⟩ := Qe (aA := fl) (buf := buf) (ptr := st.text.length + 1) (line := line) (taken := taken) (a := a) (c := c') (w := w) (t := t') (by lia) T.ha T.hw e2 (by rw [e3]; exact hn);have vH : gZ fl (gA st) (st.text.length + (bL fl).length) w.length = some [bO "refused" .none (.int (fP fl (st.text.length + 1))) (fP fl (st.text.length + 1) + (w.length + 1))] := by
  have hi : Txt.item (gA st) ((w.length : Int) + 1) = hY ((c :: t).take 1) := by
   have : (gA st).cps.toList[w.length + 1]? = some c := by
    rw [T.e, List.getElem?_cons_succ, List.getElem?_append_right (Nat.le_refl _), Nat.sub_self]; rfl
   exact rV this
  rw [pR];have hf : (w.length == 0 || (!Txt.contains bW (Txt.item (gA st) (w.length + 1)) && !Txt.contains "?:,]}%@`" (Txt.item (gA st) (w.length + 1)))) = true := by
   rw [hi]
   by_cases hw : w = []
   ·rw [hw]; rfl
   ·have k : isIn iH c = false := by
     cases e : isIn iH c with
     | false => rfl
     | true => exact absurd ⟨hw, e⟩ hn
    obtain ⟨k1, k2⟩ := Rh k (t := t);rw [k1, k2, Bool.or_eq_true]; exact .inr rfl
  exact congrArg (fun c => cond c _ _) hf
 rw [vL] at vH;have et := qN hs T.len vH rfl;rw [← vL];refine wR et ⟨m, p, r1.mono (by lia), .err (.inr ⟨_, r2⟩) r3, ?_⟩ _ hk;cases r2; cases r3;rw [← vL]; rfl
theorem Oe : ∀ (k i : Nat) (st : LS), sG i st -> st.sound = true -> ∀ (dr : Bool) (buf : Str) (line taken : Int) (X' : List Nat), cut dr (cS (k + 1) st.aP) = 45 :: X' -> st.text.length + (cS (k + 1) st.aP).length <= 890 ->
  ∃ fin, qY (k + 1) st = some fin /\ Kc (Fb buf (st.text.length + 1) line taken (X' ++ [0])) (62 * (k + 1)) (wV st st.text.length) (mD fin (st.text.length + (X'.length + 1))) := by
 intro k;induction k with
 | zero =>
  intro i st ok hs dr buf line taken X' hX hlen;refine Vc (show ∃ a w c t, rQ (gX st) (gA st) a w c t from tP (n := aM st.aP) (m := aM st.aP.tail) (mP (dI (dI ok.tr)))) fun a w c t T => ?_;obtain ⟨fl, vL⟩ : ∃ fl, fl = gX st := ⟨_, rfl⟩;have te : cS (0 + 1) st.aP = 45 :: lead fl (a :: (w ++ c :: t)) := by
   show jN st.aP ++ [] = _;rw [List.append_nil]; show (bL (gX st)).cps.toList ++ (gA st).cps.toList = _;rw [T.e, nS, vL]
  rw [te, Ol] at hX;rw [te] at hlen;have eX : X' = lead fl (a :: (w ++ cut dr (c :: t))) := (List.cons.inj hX).2.symm;subst eX;refine pT (Nv T.last T.hc dr) fun c' t' e1 e2 e3 => ?_;have hp : 0 < (st.text.length : Int) + 1 := by lia
  have hA := pR fl st.text.length;have eK : lead fl (a :: (w ++ cut dr (c :: t))) ++ [0] = lead fl (a :: (w ++ (cut dr (c :: t) ++ [0]))) := by
   rw [tT, List.cons_append, List.append_assoc]
  have cl : (cut dr (c :: t)).length <= (c :: t).length := by
   induction dr with
   | false => exact Nat.le_refl _
   | true => show (c :: t).dropLast.length <= _; rw [List.length_dropLast]; lia
  have Kw := tD fl (a :: (w ++ c :: t));rw [List.length_cons] at hlen;rw [List.length_cons, List.length_append] at Kw;have p0 := Lr fl;rw [eK]
  by_cases hn : w ≠ [] /\ isIn iH c = true
  ·obtain ⟨zA, D, N⟩ := Ta (aA := fl) (buf := buf) (line := line) (taken := taken) (a := a) (c := c') (w := w) (t := t') (r := cut dr (c :: t) ++ [0]) (rest := []) hp T.ha T.hw e2 (by rw [List.append_nil]; exact e1) (.inl rfl) (by rw [List.append_nil, List.length_append]; simp only [List.length_cons, List.length_nil] at *; lia) ⟨hn.1, by rw [e3]; exact hn.2⟩;rw [List.append_nil] at N;have ck := T.MP hn.1 hn.2;unfold Iz at ck;rw [← vL] at ck;simp only [Bool.and_eq_true] at ck;obtain ⟨eE, rows, x, K, hh⟩ := Jc (t := c :: t) N (fun h => nomatch h) (by induction dr; exact ck.2.1; exact ck.2.2)
   have vH : gZ fl (gA st) (st.text.length + (bL fl).length) w.length = some rows := by
    rw [hA, vJ T.e hn.1 (fun h => nomatch h) (Lv hn.2 T.c0), tK T.ha]
    exact K.e
   rw [vL] at vH;have et := qN hs T.len vH K.t
   rcases hh with ⟨hx, R⟩ | E
   ·subst hx;exact wR et R _ (Nat.le_refl _)
   ·refine fO E.ex fun gs g1 g2 g3 => ?_;refine (eO (kJ st rows x) (by show (fU st).bind _ = _; rw [et]; rfl) ⟨gs, none, g3, g1, .none, ?_⟩);unfold mD;have hQ : fP fl (st.text.length + 1) + ((w.length : Int) + 1) + ((cut dr (c :: t)).length : Int) = st.text.length + ((lead fl (a :: (w ++ cut dr (c :: t)))).length + 1) := by
     rw [tD, List.length_cons, List.length_append, zW fl (st.text.length + 1)]; lia
    rw [if_pos (show (kJ st rows x).sound = true from bne_iff_ne.mpr E.nr), Ni];show wV st _ ++ gs.map dC = pF _ x _ _ ++ rows ++ List.replicate (if (x == "<block mapping start>") = true then (2 : Int) else 1).toNat _ ++ _;rw [zZ _ _ _ _ E.nr, g2, Rt, ← hQ, ← vL];simp only [List.append_assoc]
  ·rw [e1, vL];exact Gh T hs hn e2 e3 _ (Nat.le_refl _)
 | succ k ih =>
  intro i st ok hs dr buf line taken X' hX hlen;refine Vc (show ∃ a w c t, rQ (gX st) (gA st) a w c t from tP (n := aM st.aP) (m := aM st.aP.tail) (mP (dI (dI ok.tr)))) fun a w c t T => ?_;obtain ⟨fl, vL⟩ : ∃ fl, fl = gX st := ⟨_, rfl⟩;have tL : jN st.aP = 45 :: lead fl (a :: (w ++ c :: t)) := by
   show (bL (gX st)).cps.toList ++ (gA st).cps.toList = _;rw [T.e, nS, vL]
  obtain ⟨more, hm⟩ := nJ k st.aP.tail.tail.tail dr;have te : cS (k + 1 + 1) st.aP = jN st.aP ++ cS (k + 1) st.aP.tail.tail.tail := rfl;rw [te, Ey dr (Kf k _), hm, tL] at hX;rw [te, tL, List.length_append] at hlen;have eX : X' = lead fl (a :: (w ++ c :: t)) ++ 45 :: 32 :: more := (List.cons.inj hX).2.symm;subst eX;have hp : 0 < (st.text.length : Int) + 1 := by lia
  have hA := pR fl st.text.length;have eK : lead fl (a :: (w ++ c :: t)) ++ 45 :: 32 :: more ++ [0] = lead fl (a :: (w ++ (((c :: t) ++ [45, 32]) ++ (more ++ [0])))) := by
   rw [tT, tT];simp only [List.append_assoc, List.cons_append, List.nil_append]
  have UH : 2 + more.length <= (cS (k + 1) st.aP.tail.tail.tail).length := by
   have : (cut dr (cS (k + 1) st.aP.tail.tail.tail)).length <= (cS (k + 1) st.aP.tail.tail.tail).length := by
    induction dr with
    | false => exact Nat.le_refl _
    | true => show (List.dropLast _).length <= _; rw [List.length_dropLast]; lia
   rw [hm] at this;simp only [List.length_cons] at this; lia
  have Kw := tD fl (a :: (w ++ c :: t));rw [List.length_cons] at hlen;rw [List.length_cons, List.length_append] at Kw;have p0 := Lr fl;have MW : ((st.text.cps.toList ++ jN st.aP).length : Int) = fP fl (st.text.length + 1) + ((w.length : Int) + 1) + ((c :: t).length : Int) := by
   rw [List.length_append, tL, List.length_cons, zW];show (((st.text.length : Nat) + _ : Nat) : Int) = _
   lia
  by_cases hn : w ≠ [] /\ isIn iH c = true
  ·obtain ⟨zA, D, N⟩ := Ta (aA := fl) (buf := buf) (line := line) (taken := taken) (a := a) (c := c) (w := w) (t := (t ++ [45, 32]) ++ (more ++ [0])) (r := (c :: t) ++ [45, 32]) (rest := more ++ [0]) hp T.ha T.hw T.hc rfl (.inr (by rw [List.getLast?_append]; rfl)) (by simp only [List.length_append, List.length_cons, List.length_nil] at *; lia) hn;have ck := T.MP hn.1 hn.2;unfold Iz at ck;rw [← vL] at ck;simp only [Bool.and_eq_true] at ck;refine wZ (Co (t := c :: t) N (fun h => nomatch h) ck.1) fun eE rows x K hh => ?_
   have vH : gZ fl (gA st) (st.text.length + (bL fl).length) w.length = some rows := by
    rw [hA, vJ T.e hn.1 (fun h => nomatch h) (Lv hn.2 T.c0), tK T.ha]
    exact K.e
   rw [vL] at vH;have et := qN hs T.len vH K.t;rw [eK]
   rcases hh with ⟨hx, R⟩ | E
   ·subst hx;exact wR et R _ (by lia)
   ·refine IT E.ex fun gs KG DX Ws g1 g2 g3 => ?_;obtain ⟨x1, x2⟩ := qU et;have hQ : ((kJ st rows x).text.length : Int) = fP fl (st.text.length + 1) + ((w.length : Int) + 1) + ((c :: t).length : Int) := by
     rw [← MW, ← x1]; rfl
    have Cb : (kJ st rows x).text.length + (cS (k + 1) (kJ st rows x).aP).length <= 890 := by
     have e2 : (kJ st rows x).text.length = (st.text.cps.toList ++ jN st.aP).length := by rw [← x1]; rfl
     rw [x2, e2, List.length_append, tL, List.length_cons];show st.text.length + _ + _ <= 890
     lia
    obtain ⟨fin, f1, ⟨ys, o, f2, f3, f4, f5⟩⟩ := ih (i + 1) (kJ st rows x) (vW ok et) (bne_iff_ne.mpr E.nr) dr KG DX Ws (32 :: more) (by rw [x2]; exact hm) Cb;rw [hQ] at f2 f5;refine (eO fin (by show (fU st).bind _ = _; rw [et]; exact f1) ⟨gs ++ ys, o, (g3 _ _ _ f2).mono (by lia), fun t ht => (List.mem_append.mp ht).elim (g1 t) (f3 t), f4, ?_⟩);have EI : (st.text.length : Int) + (((lead fl (a :: (w ++ c :: t)) ++ 45 :: 32 :: more).length : Int) + 1) = fP fl (st.text.length + 1) + ((w.length : Int) + 1) + ((c :: t).length : Int) + (((32 :: more).length : Int) + 1) := by
     rw [← MW, List.length_append, List.length_append, tL];simp only [List.length_cons];show _ = (((st.text.length : Nat) + _ : Nat) : Int) + _
     lia
    rw [EI, ← f5, qW, g2, ← List.append_assoc]
    congr 1
    show _ = (if (if (x == "<block mapping start>") = true then (2 : Int) else 1) = 2 then (pF _ x _ _ ++ rows) ++ _ else pF _ x _ _ ++ rows) ++ _;rw [zZ _ _ _ _ E.nr, ← vL]
    by_cases hx : x = "<block mapping start>"
    ·rw [if_pos hx, if_pos (beq_iff_eq.mpr hx), if_pos rfl];simp only [List.append_assoc]
    ·rw [if_neg hx, if_neg (fun e => hx (eq_of_beq e)), if_neg (by decide)];simp only [List.append_assoc, List.append_nil, List.nil_append]
  ·rw [eK, vL];exact Gh (c' := c) (t' := t ++ [45, 32] ++ (more ++ [0])) T hs hn T.hc rfl (62 * (k + 1 + 1)) (by lia)
theorem Hl {r : List Nat} (hp : z.ptr = 0) (hr : z.rem = 45 :: r) : fT 1000 z = .ok () z := by
 unfold fT;rw [if_pos hp];unfold peek;rw [hr];show dH (999 + 1) z = _;rw [iA]; unfold lK;have e : span (· == 32) z.rem = some 0 := by rw [hr]; rfl
 rw [e];show (peek 0 z).bind _ = _;unfold peek;rw [hr];show (lineBreak z).bind _ = _;unfold lineBreak;rw [hr]; rfl
theorem Cj (buf : Str) (more : List Nat) (taken : Int) : bI 1000 (⟨buf, 0, 45 :: 32 :: more, 0, 0, false, 0, [], taken, -1, [], true, []⟩ : Z) = .ok () ⟨buf, 1, 32 :: more, 0, 1, false, 0, [tk 302 (iD buf 0 0 0) (iD buf 0 0 0), tk 410 (iD buf 0 0 0) (iD buf 1 0 1)], taken, 0, [-1], true, []⟩ := by
 rw [lI (Hl rfl rfl) (pS rfl) rfl rfl];unfold fG;rw [if_neg (by decide), if_neg (fun h => by cases h.1), if_neg (fun h => by have := h.2.2; cases this), if_neg (fun h => by cases h.1), if_neg (by decide), if_neg (by decide), if_neg (by decide), if_neg (by decide), if_neg (by decide)]
 rfl
theorem Md {text more : List Nat} (ht : text = 45 :: 32 :: more) {k : Nat} {ys : List V} {o : Option (V × V)} (h : dT k (Fb ⟨(text ++ [0]).toArray⟩ 1 0 3 (32 :: (more ++ [0]))) [] (ys, o)) :
  ∃ gs, dT (k + 4) (Z.init text) [] (gs ++ ys, o) /\ (∀ t ∈ gs, eD t) /\ gs.map dC = [bO "<stream start>" .none (.int 0) 0, bO "<block sequence start>" .none (.int 0) 0, bO "-" .none (.int 0) 1] := by
 subst ht;obtain ⟨buf, hb⟩ : ∃ buf : Str, buf = ⟨((45 :: 32 :: more) ++ [0]).toArray⟩ := ⟨_, rfl⟩;refine (nF ([fH (iD buf 0 0 0) (iD buf 0 0 0) .none, tk 302 (iD buf 0 0 0) (iD buf 0 0 0), tk 410 (iD buf 0 0 0) (iD buf 1 0 1)]) ?_ (fun t ht => ?_) rfl)
 ·unfold Z.init;rw [← hb] at h ⊢;refine .pop (z1 := ⟨buf, 0, 45 :: 32 :: (more ++ [0]), 0, 0, false, 0, [fH (iD buf 0 0 0) (iD buf 0 0 0) .none], 0, -1, [], true, []⟩) rfl rfl (Nat.le_of_ble_eq_true rfl) ?_;refine .more (z1 := ⟨buf, 0, 45 :: 32 :: (more ++ [0]), 0, 0, false, 0, [], 1, -1, [], true, []⟩) rfl (Cj buf (more ++ [0]) 1) ?_;refine .pop (z1 := ⟨buf, 1, 32 :: (more ++ [0]), 0, 1, false, 0, [tk 302 (iD buf 0 0 0) (iD buf 0 0 0), tk 410 (iD buf 0 0 0) (iD buf 1 0 1)], 1, 0, [-1], true, []⟩) rfl rfl (Nat.le_of_ble_eq_true rfl) ?_;refine .pop (z1 := ⟨buf, 1, 32 :: (more ++ [0]), 0, 1, false, 0, [tk 410 (iD buf 0 0 0) (iD buf 1 0 1)], 2, 0, [-1], true, []⟩) rfl rfl (Nat.le_of_ble_eq_true rfl) ?_;exact h.from _
 ·rcases List.mem_cons.mp ht with rfl | ht
  ·exact .fH (.mk _ _ _ _) (.mk _ _ _ _)
  rcases List.mem_cons.mp ht with rfl | ht
  ·exact .tk (by decide) (.mk _ _ _ _) (.mk _ _ _ _)
  rw [List.mem_singleton.mp ht];exact .tk (by decide) (.mk _ _ _ _) (.mk _ _ _ _)
theorem vM : ∀ (k : Nat) (tp : List Int), (cS k tp).length <= 19 * k
 | 0, _ => Nat.le_refl _
 | k + 1, tp => by
  have h1 := vM k tp.tail.tail.tail;have h2 := lH (n := aM tp) (m := aM tp.tail) (oS (aM tp.tail.tail));have h3 := mJ (bV (aM tp) (bD (aM tp.tail.tail)));show (jN tp ++ _).length <= _;unfold jN;rw [List.length_append, List.length_append];have e1 : ∀ x : Str, x.cps.toList.length = x.length := fun x => rfl;rw [e1, e1]; lia
theorem wM : ∀ (k : Nat) (tp : List Int), (∀ n ∈ tp, 0 <= n) -> ∀ x ∈ cS k tp, rI x = true
 | 0, _, _, x, hx => nomatch hx
 | k + 1, tp, ht, x, hx => by
  have hx : x ∈ jN tp ++ cS k tp.tail.tail.tail := hx
  rcases List.mem_append.mp hx with h | h
  ·unfold jN at h
   rcases List.mem_append.mp h with h | h
   ·generalize bV (aM tp) (bD (aM tp.tail.tail)) = fl at h;have key : ∀ fl, ∀ x ∈ (bL fl).cps.toList, rI x = true := by intro fl; induction fl <;> decide
    exact key fl x h
   ·refine Vc (tP (n := aM tp) (m := aM tp.tail) (mP (dI (dI ht)))) fun a w c t T => ?_;exact T.rI x h
  ·exact wM k _ (dI (dI (dI ht))) x h
theorem Rg {dr : Bool} {l : List Nat} : ∀ x ∈ cut dr l, x ∈ l := by
 induction dr with
 | false => exact fun x h => h
 | true => exact fun x h => List.dropLast_subset l h
theorem Qj {dr : Bool} {l : List Nat} : (cut dr l).length <= l.length := by
 induction dr with
 | false => exact Nat.le_refl _
 | true => show (List.dropLast l).length <= _; rw [List.length_dropLast]; exact Nat.sub_le _ _
theorem Ro {text : List Nat} (hl : text.length <= 1000) (hp : ∀ c ∈ text, rI c = true) : Ok (Z.init text) := by
 refine ⟨(nF 0 rfl rfl ?_), ?_, ?_⟩
 ·show 0 + (text ++ [0]).length = (text ++ [0]).toArray.size; simp
 ·show (text ++ [0]).toArray.size <= 100000; simp; lia
 ·intro c hc;have hc : c ∈ text ++ [0] := hc
  rcases List.mem_append.mp hc with h | h
  ·have := hp c h;unfold rI isIn at this;simp only [Bool.or_eq_true, Bool.and_eq_true, decide_eq_true_eq, List.contains_cons, List.contains_nil, Bool.or_false, beq_iff_eq] at this
   lia
  ·rw [List.mem_singleton.mp h]; decide
structure Ow (aZ : List Int) (text : Str) (dA : List V) (r : List V × Option (V × V)) : Prop where
 JO : Ak aZ = some (text, dA)
 rI : ∀ c ∈ text.cps.toList, rI c = true
 ok : Ok (Z.init text.cps.toList)
 run : kT 1000 1000 (Z.init text.cps.toList) [] = some r
 tell : gR r = dA
 toks : ∀ t ∈ r.1, eD t
 fin : lM r.2
theorem Ho (aZ : List Int) : ∃ text dA r, Ow aZ text dA r := by
 have t0 := sP aZ;have t1 := wJ aZ;obtain ⟨tp, Yx⟩ : ∃ tp, tp = kG aZ := ⟨_, rfl⟩;rw [← Yx] at t0 t1;obtain ⟨first, hf⟩ : ∃ f, f = aM tp := ⟨_, rfl⟩;refine aR (show ∃ k : Nat, (1 + first % 3).toNat = k + 1 /\ k <= 2 from (eO ((first % 3).toNat) (by lia) (by lia))) fun k hk UJ => ?_;obtain ⟨dr, Bp⟩ : ∃ dr, dr = decide (first / 3 % 2 = 1) := ⟨_, rfl⟩;have QB := Ah (aP := tp.tail) (by rw [List.length_tail]; lia) (dI t1);obtain ⟨more, hm⟩ := nJ k tp.tail dr;have hl := vM (k + 1) tp.tail;have main := fun buf => Oe k 0 (mO tp.tail) QB rfl dr buf 0 3 (32 :: more) hm (by show 0 + _ <= 890; have : (mO tp.tail).aP = tp.tail := rfl; rw [this]; lia);refine aR (main "") fun fin Cu U => ?_;have tx := sS Cu;have tx : fin.text.cps.toList = cS (k + 1) tp.tail := tx;have hT : (dP first fin).cps.toList = 45 :: 32 :: more := by
  rw [← hm, ← tx, Bp];unfold dP cut
  by_cases h : first / 3 % 2 = 1
  ·rw [if_pos h, decide_eq_true h, if_pos rfl, tC];show List.take _ _ = _;rw [List.dropLast_eq_take]; rfl
  ·rw [if_neg h, decide_eq_false h]; rfl
 have hlen : ((dP first fin).length : Int) = ((mO tp.tail).text.length : Int) + (((32 :: more).length : Int) + 1) := by
  show ((dP first fin).cps.toList.length : Int) = 0 + _;rw [hT];simp only [List.length_cons]; lia
 have DR : ∀ c ∈ (dP first fin).cps.toList, Internal.rI c = true := fun c hc => by
  rw [hT, ← hm] at hc;exact wM _ _ (dI t1) c (Rg c hc)
 have gT : (dP first fin).cps.toList.length <= 1000 := by
  have := Qj (dr := dr) (l := cS (k + 1) tp.tail);rw [hT, ← hm]; lia
 obtain ⟨fin2, DL, ⟨ys, o, k0, k1, k2, k3⟩⟩ := main ⟨((dP first fin).cps.toList ++ [0]).toArray⟩;have : fin2 = fin := Option.some.inj (DL.symm.trans Cu);subst this;refine fO (Md hT (o := o) k0) fun gs g0 g1 g2 => ?_;refine ⟨dP first fin2, mD fin2 (dP first fin2).length, (gs ++ ys, o), ?_, DR, Ro gT DR, ?_, ?_, fun t ht => (List.mem_append.mp ht).elim (g1 t) (k1 t), k2⟩
 ·unfold Ak;rw [← Yx, ← hf, hk, Cu]
  rfl
 ·exact g0.Va (by lia) 1000 999 (by lia) (by lia)
 ·rw [qW, g2, hlen, ← k3]
  rfl
section
variable {C : Cx} {c : Addr}
theorem Sa (F : aE g) (SF : rF g) (LF : iL g) (B : Bd C (top 45)) (jQ : C.base = C.h₀) (hc : mF C "m" c) {a : Addr} {vals : List Value} {aZ : List Int} (hl : C.h₀.IsList a vals.toArray) (hi : IntsAre vals aZ) (hn : aZ.length <= 63) :
  lQ g 10 C ρ (execs (top 45).body C.env) (rB (.val (.glob (.ref a))) .un .un .un .un .un .un .un .un (.cell c none) .un .un .un .un .un .un .un .un .un .un .un .un) none := by
 obtain ⟨text, dA, r, P⟩ := Ho aZ;refine Iw F SF LF B hc hl hi (by lia) P.JO P.rI ?_;intro _ _ _ _ _ _ _ _ _ _ _ _ _ _ _ _ _ _ hs;exact Kb F LF B jQ hs P.ok P.run P.toks P.fin P.tell
noncomputable def Ke (fa cd : Value) (f : Addr) (h : Heap) : Cx :=
 { cn := "law", cs := (top 45).scope, L := h.objs.size, a := f, Bu := cd, cl := [("m", h.objs.size + 1)], h₀ := h, base := h, outer := [], A₀ := callerA, A := callerA.deeper (envX "law" (top 45).scope h.objs.size f cd [("m", h.objs.size + 1)]) }
theorem Hh (F : aE g) (SF : rF g) (LF : iL g) {cd : Value} {f : Addr} {h iZ : Heap} {m : cV} {w : Obj} {a : Addr} {vals : List Value} {aZ : List Int} {s : Shared}
  (K0 : Below callerA h [] h) (KX : g.K.In h) (T : Top g.p g.loose g.Kq g.mg g.mb h) (Fm : Fr h h.objs.size iZ m) (hm : m "script" = some (.ref a)) (N : News h h.objs.size iZ [((h.objs.size + 1 : Addr), w)]) (hw : w.data = .cell none)
  (hl : h.IsList a vals.toArray) (hi : IntsAre vals aZ) (hn : ¬ ((63 : Nat) : Int) < (aZ.length : Int)) (hs : s.heap = iZ) {Qr : Flow -> Shared -> Prop}
  (q : ∀ h' aN m', Fr h h.objs.size h' m' -> Qr (.ret (.bool true)) (St s h' aN)) :
  wpAny (model g.prog g.w) (callerA.deeper (envX "law" (top 45).scope h.objs.size f cd [("m", h.objs.size + 1)])) (execs (top 45).body (envX "law" (top 45).scope h.objs.size f cd [("m", h.objs.size + 1)])) Qr Er s := by
 subst hs;have ok : fM g 10 (Ke cd cd f h) := ⟨K0, KX, T, rfl, Around.frames_deeper rfl, by show callerA.depth + 1 + 10 < recursionLimit; decide, by show callerA.units + 3 + 80 < cLine; decide⟩;have I : bJ (Ke cd cd f h) ⟨0, 0, 0, 0⟩ [] [] none m (rB (.val (.glob (.ref a))) .un .un .un .un .un .un .un .un (.cell (h.objs.size + 1) none) .un .un .un .un .un .un .un .un .un .un .un .un) s.heap := by
  refine ⟨⟨[], [((h.objs.size + 1 : Addr), w)], rfl, ?_, N, by simp⟩, Fm, by show List.Nodup (["script", "n", "tape", "first", "text", "due", "ends", "sound", "entry", "m", "sign", "flow", "letters", "body", "at", "begin", "rows", "scanner", "told", "token", "refusal", "context"] : List Str); decide⟩;exact .val hm .glob (.un (.un (.un (.un (.un (.un (.un (.un (.cell hw .none (.un (.un (.un (.un (.un (.un (.un (.un (.un (.un (.un (.un .nil)))))))))))))))))))))
 exact (Sa (C := Ke cd cd f h) F SF LF ⟨rfl, rfl⟩ rfl ⟨rfl, rfl, rfl⟩ hl hi (by lia)).out ok [] [] m s I Qr Er fun ρ' G' aW m' aC h' aN I' => q h' aN m' I'.fr
end
theorem gQ {α : Type} {l : List α} {p : α -> Bool} (h : l.all p = true) (i : Nat) {x : α} (e : jW l i = some x) : p x = true := List.all_eq_true.mp h x (aO i e)
theorem qH {α β : Type} {l : List α} {a b : α -> β} (h : l.map a = l.map b) (i : Nat) {x : α} (e : jW l i = some x) : a x = b x := List.map_inj_left.mp h x (aO i e)
theorem ba {a : Bool} (h : (a && b) = true) : a = true := ((Bool.and_eq_true _ _).mp h).1
theorem bb {a : Bool} (h : (a && b) = true) : b = true := ((Bool.and_eq_true _ _).mp h).2
theorem bq {α : Type} [BEq α] [LawfulBEq α] {a b : α} (h : (a == b) = true) : a = b := beq_iff_eq.mp h
noncomputable def iM (K : Frag) (f : Addr) : FuncData := match ((K.lookup f).getD default).data with
 | .func d => d
 | _ => default
noncomputable def Wq (K : Frag) (f : Addr) (fd : FD) (dV : Value) : Obj :=
 ⟨((K.lookup f).getD default).cls, ((K.lookup f).getD default).dict, .func (fnOf (iM K f).name (iM K f).qualname fd.args fd.body fd.scope dV (iM K f).kwdefaults (iM K f).doc (iM K f).pyModule (iM K f).annotations (iM K f).code (iM K f).closureTuple), ((K.lookup f).getD default).slots⟩
noncomputable def Mi (K : Frag) (f : Addr) (sc : Scope) : Bool := codeIn K (iM K f).code (iM K f).qualname && (!sc.isCoroutine && (!sc.isGenerator && (sc.kind == .function && sc.names.all fun x => x.2 != .cell)))
theorem rT {f : Addr} (h : Mi g.K f fd.scope = true) (e : g.K.lookup f = some (Wq g.K f fd dV)) : xM g f (iM g.K f).qualname fd.args fd.body fd.scope dV (iM g.K f).code :=
 ⟨⟨_, _, _, _, _, _, _, _, _, e⟩, ba h, (Bool.not_eq_true' _).mp (ba (bb h)), (Bool.not_eq_true' _).mp (ba (bb (bb h))), bq (ba (bb (bb (bb h)))), fun x hx => bne_iff_ne.mp (List.all_eq_true.mp (bb (bb (bb (bb h)))) x hx)⟩
def iU (ps : Arguments) (k : Nat) (kws : List Str) (ns : List Str) : Prop := ∀ vals cT : List Value, vals.length = k -> cT.length = kws.length -> ∀ (s : Shared) (name qual : Str) (body : List Stmt) (scope : Scope) (kV doc pm : Value) (an : Option Addr) (eW ct : Value),
 BindsTo s (fnOf name qual ps body scope .none kV doc pm an eW ct) ⟨vals, kws.zip cT⟩ (ns.zip ((vals ++ cT) ++ []))
theorem NP (h : Heap) : Frag.In [] h := fun _ _ e => nomatch e
theorem Kn {f : Addr} {ns : List Str} {k : Nat} {kws : List Str} (h : Mi g.K f fd.scope = true) (e : g.K.lookup f = some (Wq g.K f fd .none)) (b : iU fd.args k kws ns) : pU g f fd ns k kws [] :=
 ⟨_, .none, _, [], rT h e, fun _ _ => .nil, fun vals cT h1 h2 s hs name kV doc pm an ct => b vals cT h1 h2 s name _ _ _ kV doc pm an _ ct⟩
@[elab_as_elim] theorem Wo {α : Type} {l : List α} {P : List α -> Prop} (h : l.length = 0) (k : P []) : P l := by
 cases l with
 | nil => exact k
 | cons a r => cases h
@[elab_as_elim] theorem Xz {α : Type} {l : List α} {n : Nat} {P : List α -> Prop} (h : l.length = n + 1) (k : ∀ a r, r.length = n -> P (a :: r)) : P l := by
 cases l with
 | nil => cases h
 | cons a r => exact k a r (Nat.succ.inj h)
@[elab_as_elim] theorem Yr {α : Type} {l : List α} {P : List α -> Prop} (h : l.length = 1) (k : ∀ a, P [a]) : P l := Xz h fun a r h => Wo h (k a)
@[elab_as_elim] theorem Zd {α : Type} {l : List α} {P : List α -> Prop} (h : l.length = 2) (k : ∀ a b, P [a, b]) : P l := Xz h fun a r h => Yr h (k a)
@[elab_as_elim] theorem GJ {α : Type} {l : List α} {P : List α -> Prop} (h : l.length = 3) (k : ∀ a b c, P [a, b, c]) : P l := Xz h fun a r h => Zd h (k a)
@[elab_as_elim] theorem FA {α : Type} {l : List α} {P : List α -> Prop} (h : l.length = 4) (k : ∀ a b c d, P [a, b, c, d]) : P l := Xz h fun a r h => GJ h (k a)
@[elab_as_elim] theorem LP {α : Type} {l : List α} {P : List α -> Prop} (h : l.length = 5) (k : ∀ a b c d e, P [a, b, c, d, e]) : P l := Xz h fun a r h => FA h (k a)
@[elab_as_elim] theorem SA {α : Type} {l : List α} {P : List α -> Prop} (h : l.length = 6) (k : ∀ a b c d e f, P [a, b, c, d, e, f]) : P l := Xz h fun a r h => LP h (k a)
@[elab_as_elim] theorem LW {α : Type} {l : List α} {P : List α -> Prop} (h : l.length = 7) (k : ∀ a b c d e f m, P [a, b, c, d, e, f, m]) : P l := Xz h fun a r h => SA h (k a)
def Wu (ps : Arguments) (vals : List Value) (b : List (Str × Value)) : Prop := ∀ (s : Shared) (name qual : Str) (body : List Stmt) (scope : Scope) (kV doc pm : Value) (an : Option Addr) (eW ct : Value), ∀ S : Setting, PySem.W.peek [] S (bindArgs (fnOf name qual ps body scope .none kV doc pm an eW ct) ⟨vals, []⟩) = some b
theorem iU.k0 {ps : Arguments} {k : Nat} {ns : List Str} (h : ∀ vals : List Value, vals.length = k -> Wu ps vals (ns.zip vals)) : iU ps k [] ns := by
 intro vals cT h1 h2 s name qual body scope kV doc pm an eW ct;rw [List.length_eq_zero_iff.mp h2, List.append_nil, List.append_nil];exact kp_binds (NP _) (h vals h1 s name qual body scope kV doc pm an eW ct)
section
variable {p1 p2 p4 p5 p6 p7 : Pos} {a1 a2 a3 a4 a5 a6 a7 : Option Expr} {kd : List (Option Expr)} {df : List Expr}
theorem b0 : iU ⟨[], [], none, [], kd, none, df⟩ 0 [] [] := by
 refine .k0 fun vals h0 => Wo h0 (fun U U U U U U U U U U U U => rfl)
theorem b1 {n : Str} (hn : n = "self" \/ n = "ch" \/ n = "n" \/ n = "token" \/ n = "tape") : iU ⟨[], [⟨n, a1, p1⟩], none, [], kd, none, df⟩ 1 [] [n] := by
 rcases hn with rfl | rfl | rfl | rfl | rfl <;> refine .k0 fun vals h0 => Yr h0 fun U U U U U U U U U U U U U => rfl
theorem b2 {n : Str} (hn : n = "column" \/ n = "TokenClass" \/ n = "data" \/ n = "length" \/ n = "stream" \/ n = "style") : iU ⟨[], [⟨"self", a1, p1⟩, ⟨n, a2, p2⟩], none, [], kd, none, df⟩ 2 [] ["self", n] := by
 rcases hn with rfl | rfl | rfl | rfl | rfl | rfl <;> refine .k0 fun vals h0 => Zd h0 fun U U U U U U U U U U U U U U => rfl
theorem b3 {n m : Str} (hn : (n = "indent" \/ n = "double") /\ m = "start_mark" \/ n = "start_mark" /\ m = "end_mark") : iU ⟨[], [⟨"self", a1, p1⟩, ⟨n, a2, p2⟩, ⟨m, a3, p3⟩], none, [], kd, none, df⟩ 3 [] ["self", n, m] := by
 rcases hn with ⟨rfl | rfl, rfl⟩ | ⟨rfl, rfl⟩ <;> refine .k0 fun vals h0 => GJ h0 fun U U U U U U U U U U U U U U U => rfl
theorem bF : iU ⟨[], [⟨"self", a1, p1⟩, ⟨"style", a2, p2⟩], none, [], kd, none, df⟩ 1 ["style"] ["self", "style"] := by
 intro vals cT h0 g0;exact Yr h0 fun a => Yr g0 fun b s name qual body scope kV doc pm an eW ct => kp_binds (NP _) fun S => rfl
theorem bE : iU ⟨[], [⟨"flow", a1, p1⟩, ⟨"body", a2, p2⟩, ⟨"at", a3, p3⟩], none, [], kd, none, df⟩ 3 [] ["flow", "body", "at"] := by
 refine .k0 fun vals h0 => GJ h0 fun U U U U U U U U U U U U U U U => rfl
theorem b4 : iU ⟨[], [⟨"self", a1, p1⟩, ⟨"value", a2, p2⟩, ⟨"start_mark", a3, p3⟩, ⟨"end_mark", a4, p4⟩], none, [], kd, none, df⟩ 4 [] ["self", "value", "start_mark", "end_mark"] := by
 refine .k0 fun vals h0 => FA h0 fun U U U U U U U U U U U U U U U U => rfl
theorem bM : iU ⟨[], [⟨"self", a1, p1⟩, ⟨"name", a2, p2⟩, ⟨"index", a3, p3⟩, ⟨"line", a4, p4⟩, ⟨"column", a5, p5⟩, ⟨"buffer", a6, p6⟩, ⟨"pointer", a7, p7⟩], none, [], kd, none, df⟩ 7 [] ["self", "name", "index", "line", "column", "buffer", "pointer"] := by
 refine .k0 fun vals h0 => LW h0 fun U U U U U U U U U U U U U U U U U U U => rfl
theorem bK : iU ⟨[], [⟨"self", a1, p1⟩, ⟨"token_number", a2, p2⟩, ⟨"required", a3, p3⟩, ⟨"index", a4, p4⟩, ⟨"line", a5, p5⟩, ⟨"column", a6, p6⟩, ⟨"mark", a7, p7⟩], none, [], kd, none, df⟩ 7 [] ["self", "token_number", "required", "index", "line", "column", "mark"] := by
 refine .k0 fun vals h0 => LW h0 fun U U U U U U U U U U U U U U U U U U U => rfl
end
def BJ (K : Frag) (l : List (Addr × FD)) : Prop := l.map (fun e => K.lookup e.1) = l.map (fun e => some (Wq K e.1 e.2 (iM K e.1).defaults))
noncomputable def Vd (K : Frag) (f : Addr) (fd : FD) : Bool := (iM K f).defaults == .none && Mi K f fd.scope
theorem CR {f : Addr} {ns : List Str} {k : Nat} {kws : List Str} (h : Vd g.K f fd = true) (e : g.K.lookup f = some (Wq g.K f fd (iM g.K f).defaults)) (b : iU fd.args k kws ns) : pU g f fd ns k kws [] := by
 rw [bq (ba h)] at e;exact Kn (bb h) e b
noncomputable def Ar (K : Frag) (C : Addr) (n : Str) : Bool := Cn K C n && (hasDictIn K C && (findIn K (.ref C) n).any (noGet K))
theorem lG {C : Addr} {n : Str} (h : Ar g.K C n = true) : eT g C n := by
 refine aR ((Option.any_eq_true _ _).mp (bb (bb h))) fun a ha h3 => ?_;exact ⟨ba h, ba (bb h), a, ha, h3⟩
noncomputable def Xe (K : Frag) (C : Addr) : Bool := findIn K (.ref C) "__setattr__" == some (some (.builtin "object.__setattr__")) && (plainOver K C && hasDictIn K C)
theorem Eh {C : Addr} (h : Xe g.K C = true) : mW g C := ⟨bq (ba h), ba (bb h), bb (bb h)⟩
noncomputable def Gy (K : Frag) (C : Addr) (l : List Str) : Bool := l.all fun n => takerIn K C n == some none
theorem Fq {C : Addr} {l : List Str} (h : Gy g.K C l = true) : ∀ n ∈ l, takerIn g.K C n = some none := fun n hn => beq_iff_eq.mp (List.all_eq_true.mp h n hn)
noncomputable def BC (K : Frag) (p : Str × Addr) : Bool := plainGet K 1048 p.1 && (findIn K (.ref 1048) p.1 == some (some (.ref p.2)) && (isFn K (.ref p.2) && keepIn K (.ref p.2)))
theorem Rn {p : Str × Addr} (h : BC g.K p = true) : lF g 1048 p.1 p.2 := ⟨ba h, bq (ba (bb h)), ba (bb (bb h)), bb (bb (bb h))⟩
noncomputable def Hz (sc : Scope) (l : List Str) : Bool := (("self" : Str) :: l).all (fun a => sc.names.lookup a == some .local && !(a == ("__debug__" : Str))) && (decide (("self" : Str) :: l).Nodup && decide (l.length <= 1000))
noncomputable def Qs (K : Frag) (C fI : Addr) : Bool := makesIn K C && (findIn K (.ref C) "__init__" == some (some (.ref fI)) && (isFn K (.ref fI) && (keepIn K (.ref C) && Xe K C)))
theorem IW (l : List Str) : (ll l).map (·.1) = l := by simp only [ll, List.map_map]; exact List.map_id l
theorem Oz (l : List Str) : (ll l).map (·.2) = l := by simp only [ll, List.map_map]; exact List.map_id l
theorem ML (l : List Str) : (ll l).length = l.length := by simp [ll]
theorem Ez {C : Addr} {l : List Str} (h : Qs g.K C fI = true) (ht : Gy g.K C l = true) (hf : Mi g.K fI fd.scope = true) (e : g.K.lookup fI = some (Wq g.K fI fd dV)) (hl : Hz fd.scope l = true) (hi : hH "self" fd.body (ll l)) :
  vY g C fI (iM g.K fI).qualname fd.args fd.body fd.scope dV (iM g.K fI).code "self" (ll l) :=
 ⟨ba h, bq (ba (bb h)), ba (bb (bb h)), ba (bb (bb (bb h))), rT hf e, Eh (bb (bb (bb (bb h)))), hi, by rw [IW]; exact Fq ht,
  by rw [Oz]; exact fun a ha => ⟨bq (ba (List.all_eq_true.mp (ba hl) a ha)), (Bool.not_eq_true' _).mp (bb (List.all_eq_true.mp (ba hl) a ha))⟩,
  by rw [IW]; exact (List.nodup_cons.mp (of_decide_eq_true (ba (bb hl)))).2, by rw [Oz]; exact of_decide_eq_true (ba (bb hl)), by rw [ML]; exact of_decide_eq_true (bb (bb hl))⟩
theorem EK {C : Addr} {l : List Str} {n : Nat} (h : Qs g.K C fI = true) (ht : Gy g.K C l = true) (hf : Vd g.K fI fd = true) (e : g.K.lookup fI = some (Wq g.K fI fd (iM g.K fI).defaults)) (hl : Hz fd.scope l = true) (hi : hH "self" fd.body (ll l)) (hn : l.length = n) (b : iU fd.args (n + 1) [] ("self" :: l)) : oU g C (ll l) n [] := by
 rw [bq (ba hf)] at e;refine ⟨_, _, _, _, _, _, _, _, [], Ez h ht (bb hf) e hl hi, fun _ _ => .nil, by rw [ML, hn]; rfl, fun vals hv x s hs name kV doc pm an ct => ?_⟩;have := b (.ref x :: vals) [] (by rw [List.length_cons, hv]) rfl s name (iM g.K fI).qualname fd.body fd.scope kV doc pm an (iM g.K fI).code ct;rw [List.append_nil, List.append_nil] at this;rw [List.append_nil, Oz];exact this
noncomputable def nL : List (Addr × FD) := [(175, aL 8 4), (182, aL 8 5), (189, aL 8 6), (573, aL 34 3), (580, aL 34 4), (587, aL 34 5), (594, aL 34 6), (601, aL 34 7), (608, aL 34 8), (615, aL 34 9), (622, aL 34 10), (629, aL 34 11), (636, aL 34 12), (643, aL 34 13), (678, aL 34 18), (692, aL 34 20), (699, aL 34 21), (706, aL 34 22), (713, aL 34 23), (720, aL 34 24), (727, aL 34 25), (734, aL 34 26), (741, aL 34 27), (748, aL 34 28), (755, aL 34 29), (790, aL 34 34), (811, aL 34 37), (818, aL 34 38), (825, aL 34 39), (832, aL 34 40), (839, aL 34 41), (846, aL 34 42), (853, aL 34 43), (860, aL 34 44), (867, aL 34 45), (930, aL 34 54), (979, aL 34 61), (989, aL 34 64), (1010, aL 34 67), (1017, aL 34 68), (1045, aL 34 72), (130, top 7), (144, aL 8 0), (804, aL 34 36), (35, aL 2 0), (527, aL 33 0), (210, aL 10 0), (438, aL 27 1), (457, aL 28 1), (1057, top 38), (1064, top 39), (1071, top 40), (1078, top 41), (1085, top 42), (1092, top 43), (1099, top 44)]
noncomputable def cL : List (Addr × Addr × List Str) := [(53, 35, ["name", "index", "line", "column", "buffer", "pointer"]), (530, 527, ["token_number", "required", "index", "line", "column", "mark"]), (290, 210, ["start_mark", "end_mark"]), (302, 210, ["start_mark", "end_mark"]), (314, 210, ["start_mark", "end_mark"]), (326, 210, ["start_mark", "end_mark"]), (338, 210, ["start_mark", "end_mark"]), (362, 210, ["start_mark", "end_mark"]), (374, 210, ["start_mark", "end_mark"]), (386, 210, ["start_mark", "end_mark"]), (398, 210, ["start_mark", "end_mark"]), (410, 210, ["start_mark", "end_mark"]), (422, 210, ["start_mark", "end_mark"]), (441, 438, ["value", "start_mark", "end_mark"]), (460, 457, ["value", "start_mark", "end_mark"])]
noncomputable def HE : List (Str × Addr) := [("_law_BREAKS", 1057), ("_law_OFTEN", 1064), ("_law_WIDE", 1071), ("_law_next", 1078), ("_law_sign", 1085), ("_law_entry", 1092), ("_law_told", 1099)]
noncomputable def HS : List Addr := 278 :: 441 :: 460 :: 499 :: Qk
noncomputable def Nh (K : Frag) (C Ck : Addr) : Bool := cond (C == Ck) (PySem.W.isIn K (.ref C) Ck) (kin_not K C Ck && (plainGet K C "__class__" && (hasDictIn K C && (findIn K (.ref C) "__class__" == some (some (.builtin "object.__class__")) && (specialIn K (.builtin "object.__class__") "__get__" == some (some (.builtin "getset_descriptor.__get__")) && (takesIn K (.builtin "object.__class__") == some true && mroIn K C (.type "object") == some true))))))
theorem yH {C Ck : Addr} (h : Nh g.K C Ck = true) : sI g C Ck (C == Ck) := by
 unfold Nh at h;revert h;generalize (C == Ck) = b;intro h;induction b with
 | true => exact .t h
 | false =>
  have h : (_ && _) = true := h;exact .f (ba h) (ba (bb h)) (ba (bb (bb h))) (bq (ba (bb (bb (bb h))))) (bq (ba (bb (bb (bb (bb h)))))) (bq (ba (bb (bb (bb (bb (bb h))))))) (bq (bb (bb (bb (bb (bb (bb h)))))))
noncomputable def MU (C : Addr) : Tok := (([(278, 578), (441, 825), (460, 856), (499, 918), (290, 609), (302, 627), (314, 645), (326, 663), (338, 681), (362, 717), (374, 735), (386, 753), (398, 771), (410, 789), (422, 807)] : List (Addr × Tok)).lookup C).getD 0
noncomputable def Li (K : Frag) (C : Addr) : Bool := plainGet K C "id" && (hasDictIn K C && (findIn K (.ref C) "id" == some (some (Value.str (uL C) (MU C))) && (specialIn K (Value.str (uL C) (MU C)) "__get__" == some Option.none && (Ar K C "start_mark" && (Ar K C "end_mark" && (Nh K C 441 && (Nh K C 460 && Nh K C 499)))))))
theorem Iy {C : Addr} (h : Li g.K C = true) : Vv g C :=
 ⟨⟨(ba h), (ba (bb h)), _, bq (ba (bb (bb h))), bq (ba (bb (bb (bb h))))⟩, lG (ba (bb (bb (bb (bb h))))), lG (ba (bb (bb (bb (bb (bb h)))))), yH (ba (bb (bb (bb (bb (bb (bb h))))))), yH (ba (bb (bb (bb (bb (bb (bb (bb h)))))))), yH (bb (bb (bb (bb (bb (bb (bb (bb h))))))))⟩
structure It (K : Frag) : Prop where
 n : nL.all (fun e => Vd K e.1 e.2) = true
 lk : BJ K nL
 c : cL.all (fun e => Qs K e.1 e.2.1 && Gy K e.1 e.2.2) = true
 m : Sx.all (BC K) = true
 TV : BB.all (fun x => nsIn K mainGlobals x == some Option.none) = true
 gl : NW.all (fun x => nsIn K mainGlobals x.1 == some (some (.ref x.2))) = true
 la : HE.all (fun x => nsIn K mainGlobals x.1 == some (some (.ref x.2)) && keepIn K (.ref x.2)) = true
 tok : HS.all (Li K) = true
 s1 : aD.all (fun n => Ar K 1048 n && takerIn K 1048 n == some Option.none) = true
 s2 : (Xe K 1048 && (zQ.all (Ar K 530) && (Ar K 53 "index" && (keepIn K (.ref 130) && ([441, 460, 499].all (fun a => Ar K a "value") && [("context_mark" : Str), "problem_mark"].all (Ar K 511)))))) = true
theorem It.def_ (H : It g.K) {f : Addr} {ns : List Str} {k : Nat} {kws : List Str} (i : Nat) (e : jW nL i = some (f, fd)) (b : iU fd.args k kws ns) : pU g f fd ns k kws [] :=
 CR (gQ H.n i e) (qH H.lk i e) b
theorem It.nE (H : It g.K) {C : Addr} {l : List Str} {n : Nat} (i j : Nat) (e : jW cL i = some (C, fI, l)) (e2 : jW nL j = some (fI, fd)) (hl : Hz fd.scope l = true) (hi : hH "self" fd.body (ll l)) (hn : l.length = n) (b : iU fd.args (n + 1) [] ("self" :: l)) : oU g C (ll l) n [] := by
 exact EK (ba (gQ H.c i e)) (bb (gQ H.c i e)) (gQ H.n j e2) (qH H.lk j e2) hl hi hn b
def Ry (g : Gl) (l : List (Addr × FD × List Str × Nat × List V)) : Prop := ∀ d ∈ l, pU g d.1 d.2.1 d.2.2.1 d.2.2.2.1 [] d.2.2.2.2
theorem Ry.c {f : Addr} {ns : List Str} {k : Nat} {r : List (Addr × FD × List Str × Nat × List V)} (h : pU g f fd ns k [] iI) (t : Ry g r) : Ry g ((f, fd, ns, k, iI) :: r) := List.forall_mem_cons.mpr ⟨h, t⟩
def Qb (g : Gl) (l : List (Addr × List Str × Nat × List V)) : Prop := ∀ d ∈ l, oU g d.1 (ll d.2.1) d.2.2.1 d.2.2.2
theorem Qb.c {a : Addr} {ns : List Str} {k : Nat} {r : List (Addr × List Str × Nat × List V)} (h : oU g a (ll ns) k iI) (t : Qb g r) : Qb g ((a, ns, k, iI) :: r) := List.forall_mem_cons.mpr ⟨h, t⟩
structure Spec (g : Gl) : Prop where
 p2 : pU g 152 (aL 8 1) ["self", "index"] 2 [] []
 p1 : pU g 152 (aL 8 1) ["self", "index"] 1 [] [.int 0]
 x2 : pU g 160 (aL 8 2) ["self", "length"] 2 [] []
 f2 : pU g 168 (aL 8 3) ["self", "length"] 2 [] []
 f1 : pU g 168 (aL 8 3) ["self", "length"] 1 [] [.int 1]
 s5 : oU g 499 (ll ["value", "plain", "start_mark", "end_mark", "style"]) 5 []
 s4 : oU g 499 (ll ["value", "plain", "start_mark", "end_mark", "style"]) 4 [.none]
 st : Qm g 278 (ll ["start_mark", "end_mark", "encoding"]) 2 "encoding"
 er : Ep g 511 (ll oP) 4 [.none]
theorem GW (H : It g.K) (S : Spec g) : Ry g DF := by
 refine .c S.p2 ?_;refine .c S.p1 ?_;refine .c S.x2 ?_;refine .c S.f2 ?_;refine .c S.f1 ?_;refine .c (H.def_ 0 rfl (b1 (.inl rfl))) ?_;refine .c (H.def_ 1 rfl (b2 (.inr (.inr (.inl rfl))))) ?_;refine .c (H.def_ 2 rfl (b2 (.inr (.inr (.inr (.inl rfl)))))) ?_;refine .c (H.def_ 3 rfl (b1 (.inl rfl))) ?_;refine .c (H.def_ 4 rfl (b1 (.inl rfl))) ?_;refine .c (H.def_ 5 rfl (b1 (.inl rfl))) ?_;refine .c (H.def_ 6 rfl (b1 (.inl rfl))) ?_;refine .c (H.def_ 7 rfl (b1 (.inl rfl))) ?_;refine .c (H.def_ 8 rfl (b1 (.inl rfl))) ?_;refine .c (H.def_ 9 rfl (b1 (.inl rfl))) ?_;refine .c (H.def_ 10 rfl (b2 (.inl rfl))) ?_;refine .c (H.def_ 11 rfl (b2 (.inl rfl))) ?_;refine .c (H.def_ 12 rfl (b1 (.inl rfl))) ?_;refine .c (H.def_ 13 rfl (b1 (.inl rfl))) ?_;refine .c (H.def_ 14 rfl (b1 (.inl rfl))) ?_;refine .c (H.def_ 15 rfl (b2 (.inr (.inl rfl)))) ?_;refine .c (H.def_ 16 rfl (b1 (.inl rfl))) ?_;refine .c (H.def_ 17 rfl (b1 (.inl rfl))) ?_;refine .c (H.def_ 18 rfl (b2 (.inr (.inl rfl)))) ?_;refine .c (H.def_ 19 rfl (b1 (.inl rfl))) ?_;refine .c (H.def_ 20 rfl (b1 (.inl rfl))) ?_;refine .c (H.def_ 21 rfl (b1 (.inl rfl))) ?_;refine .c (H.def_ 22 rfl (b1 (.inl rfl))) ?_;refine .c (H.def_ 23 rfl (b1 (.inl rfl))) ?_;refine .c (H.def_ 24 rfl (b1 (.inl rfl))) ?_;refine .c (H.def_ 25 rfl (b1 (.inl rfl))) ?_;refine .c (H.def_ 26 rfl (b1 (.inl rfl))) ?_;refine .c (H.def_ 27 rfl (b1 (.inl rfl))) ?_;refine .c (H.def_ 28 rfl (b1 (.inl rfl))) ?_;refine .c (H.def_ 29 rfl (b1 (.inl rfl))) ?_;refine .c (H.def_ 30 rfl (b1 (.inl rfl))) ?_;refine .c (H.def_ 31 rfl (b1 (.inl rfl))) ?_;refine .c (H.def_ 32 rfl (b1 (.inl rfl))) ?_;refine .c (H.def_ 33 rfl (b1 (.inl rfl))) ?_;refine .c (H.def_ 34 rfl (b1 (.inl rfl))) ?_;refine .c (H.def_ 35 rfl (b2 (.inr (.inl rfl)))) ?_;refine .c (H.def_ 36 rfl (b2 (.inr (.inr (.inr (.inr (.inr rfl))))))) ?_;refine .c (H.def_ 37 rfl (b3 (.inl ⟨.inr rfl, rfl⟩))) ?_;refine .c (H.def_ 38 rfl (b1 (.inl rfl))) ?_;refine .c (H.def_ 39 rfl (b3 (.inl ⟨.inl rfl, rfl⟩))) ?_;refine .c (H.def_ 40 rfl (b1 (.inl rfl))) ?_;refine .c (H.def_ 41 rfl (b1 (.inr (.inl rfl)))) ?_;refine .c (H.def_ 42 rfl (b2 (.inr (.inr (.inr (.inr (.inl rfl))))))) ?_;exact fun U h => nomatch h
theorem i2 {p1 p2 p4 q1 q2 q3 q4 : Pos} : hH "self" [.Assign [.Attribute (.Name "self" p1) "start_mark" p2] (.Name "start_mark" p3) p4, .Assign [.Attribute (.Name "self" q1) "end_mark" q2] (.Name "end_mark" q3) q4] (ll ["start_mark", "end_mark"]) := .cons (.cons .nil)
theorem KP (H : It g.K) (S : Spec g) : Qb g BR := by
 have l2 : Hz (aL 10 0).scope ["start_mark", "end_mark"] = true := by decide +kernel
 refine .c (H.nE 0 44 rfl rfl (by decide +kernel) (.cons (.cons (.cons (.cons (.cons (.cons .nil)))))) rfl bM) ?_;refine .c (H.nE 1 45 rfl rfl (by decide +kernel) (.cons (.cons (.cons (.cons (.cons (.cons .nil)))))) rfl bK) ?_;refine .c (H.nE 2 46 rfl rfl l2 i2 rfl (b3 (.inr ⟨rfl, rfl⟩))) ?_;refine .c (H.nE 3 46 rfl rfl l2 i2 rfl (b3 (.inr ⟨rfl, rfl⟩))) ?_;refine .c (H.nE 4 46 rfl rfl l2 i2 rfl (b3 (.inr ⟨rfl, rfl⟩))) ?_;refine .c (H.nE 5 46 rfl rfl l2 i2 rfl (b3 (.inr ⟨rfl, rfl⟩))) ?_;refine .c (H.nE 6 46 rfl rfl l2 i2 rfl (b3 (.inr ⟨rfl, rfl⟩))) ?_;refine .c (H.nE 7 46 rfl rfl l2 i2 rfl (b3 (.inr ⟨rfl, rfl⟩))) ?_;refine .c (H.nE 8 46 rfl rfl l2 i2 rfl (b3 (.inr ⟨rfl, rfl⟩))) ?_;refine .c (H.nE 9 46 rfl rfl l2 i2 rfl (b3 (.inr ⟨rfl, rfl⟩))) ?_;refine .c (H.nE 10 46 rfl rfl l2 i2 rfl (b3 (.inr ⟨rfl, rfl⟩))) ?_;refine .c (H.nE 11 46 rfl rfl l2 i2 rfl (b3 (.inr ⟨rfl, rfl⟩))) ?_;refine .c (H.nE 12 46 rfl rfl l2 i2 rfl (b3 (.inr ⟨rfl, rfl⟩))) ?_;refine .c (H.nE 13 47 rfl rfl (by decide +kernel) (.cons (.cons (.cons .nil))) rfl b4) ?_;refine .c (H.nE 14 48 rfl rfl (by decide +kernel) (.cons (.cons (.cons .nil))) rfl b4) ?_;refine .c S.s5 ?_;refine .c S.s4 ?_;exact fun U h => nomatch h
theorem Lg (H : It g.K) (S : Spec g) : aE g := by
 have h := H.s2;exact { m := fun i e => Rn (gQ H.m i e), d := fun i e => GW H S _ (aO i e), n := fun i e => bq (gQ H.TV i e), gl := fun i e => bq (gQ H.gl i e), c := fun i e => KP H S _ (aO i e), attr := fun n hn => lG (ba (List.all_eq_true.mp H.s1 n hn)), so := Eh (ba h), Fh := fun n hn => bq (bb (List.all_eq_true.mp H.s1 n hn)), iS := H.def_ 43 rfl bF, Uh := fun n hn => lG (List.all_eq_true.mp (ba (bb h)) n hn), Nn := lG (ba (bb (bb h))), So := ⟨(ba (bb (bb (bb h))))⟩, Tu := S.st, Me := S.er }
theorem It.Vm (H : It g.K) (i : Nat) {x : Str} {a : Addr} (e : jW HE i = some (x, a)) : nsIn g.K mainGlobals x = some (some (.ref a)) := bq (ba (gQ H.la i e))
theorem It.Yc (H : It g.K) (i : Nat) {x : Str} {a : Addr} (e : jW HE i = some (x, a)) : lV g a := ⟨bb (gQ H.la i e)⟩
theorem Xx (H : It g.K) (w : ∃ t, nsIn g.K mainGlobals "_law_WORD" = some (some (.str fN t))) (b : ∃ t, nsIn g.K mainGlobals "_law_BLANKS" = some (some (.str bW t))) : iL g := by
 have h := H.s2;have q := gQ H.n 52 rfl;have e := qH H.lk 52 rfl;dsimp only at e;rw [bq (ba q)] at e;exact { Ba := H.def_ 49 rfl b0, Ap := H.Yc 0 rfl, Bh := H.Vm 0 rfl, Ft := H.def_ 50 rfl b0, Gf := H.Yc 1 rfl, Fi := H.Vm 1 rfl, Lz := H.def_ 51 rfl b0, Np := H.Yc 2 rfl, My := H.Vm 2 rfl, Lb := (La _ _ _ (rT (bb q) e) (fun val s hs name kV doc pm an ct => (b1 (.inr (.inr (.inr (.inr rfl))))) [val] [] rfl rfl s name _ _ _ kV doc pm an _ ct)), Mn := H.Yc 3 rfl, Ll := H.Vm 3 rfl, Jn := H.def_ 53 rfl (b1 (.inr (.inr (.inl rfl)))), Lk := H.Yc 4 rfl, Nb := H.Vm 4 rfl, Fv := H.def_ 54 rfl bE, Fu := H.Yc 5 rfl, Ff := H.Vm 5 rfl, Jz := H.def_ 55 rfl (b1 (.inr (.inr (.inr (.inl rfl))))), Mx := H.Yc 6 rfl, Mq := H.Vm 6 rfl, Di := w, zM := b, tok := fun C hC => Iy (List.all_eq_true.mp H.tok C hC), val := fun C hC => lG (List.all_eq_true.mp (ba (bb (bb (bb (bb h))))) C hC), err := fun n hn => lG (List.all_eq_true.mp (bb (bb (bb (bb (bb h))))) n hn) }
noncomputable def tL : List (Addr × Array Value) := [(145, #[.int 0 390]), (153, #[.int 1 399]), (161, #[.int 1 408]), (489, #[.none]), (268, #[.none, .none, .none]), (78, #[.none, .none, .none, .none, .none])]
noncomputable def dL : List (Addr × FD × Addr) := [((152 : Addr), aL 8 1, (145 : Addr)), (160, aL 8 2, 153), (168, aL 8 3, 161), (496, aL 30 1, 489), (275, aL 14 1, 268), (85, aL 4 0, 78)]
noncomputable def ND : List (Addr × Addr × List Str) := [(499, 496, ["value", "plain", "start_mark", "end_mark", "style"]), (278, 275, ["start_mark", "end_mark", "encoding"])]
noncomputable def NC (K : Frag) (a : Addr) (l : Array Value) : Obj := ⟨((K.lookup a).getD default).cls, ((K.lookup a).getD default).dict, .seq l, ((K.lookup a).getD default).slots⟩
structure nR (g : Gl) : Prop where
 c : It g.K
 t : tL.map (fun e => g.K.lookup e.1) = tL.map (fun e => some (NC g.K e.1 e.2))
 d : dL.map (fun e => g.K.lookup e.1) = dL.map (fun e => some (Wq g.K e.1 e.2.1 (.ref e.2.2)))
 f : dL.all (fun e => Mi g.K e.1 e.2.1.scope) = true
 cc : ND.all (fun e => Qs g.K e.1 e.2.1 && Gy g.K e.1 e.2.2) = true
 x : (Gy g.K 511 oP && (findIn g.K (.ref 511) "__init__" == some (some (.ref 85)) && (typeIn g.K (.ref 85) == some (.type "function") && keepIn g.K (.ref 511)))) = true
 xr : Su g 511
 xs : nV g.K 511
 n : (nsIn g.K mainGlobals "_law_WORD" == some (some (.str fN 1756)) && nsIn g.K mainGlobals "_law_BLANKS" == some (some (.str bW 1758))) = true
 s : rF g
theorem nR.ok (R : nR g) {f T : Addr} (i : Nat) (e : jW dL i = some (f, fd, T)) : xM g f (iM g.K f).qualname fd.args fd.body fd.scope (.ref T) (iM g.K f).code := rT (gQ R.f i e) (qH R.d i e)
theorem nR.in (R : nR g) {a : Addr} {l : Array Value} (i : Nat) (e : jW tL i = some (a, l)) {h : Heap} (X : g.K.In h) : Frag.In [(a, NC g.K a l)] h := by
 intro b o hb;rw [List.lookup_cons] at hb;cases hh : b == a with
 | true => rw [hh] at hb; cases hb; rw [beq_iff_eq.mp hh]; exact X _ _ (qH R.t i e)
 | false => rw [hh] at hb; cases hb
theorem nR.cls (R : nR g) {C T : Addr} {l : List Str} (j : Nat) (ec : jW ND j = some (C, fI, l)) (i : Nat) (e : jW dL i = some (fI, fd, T)) (hl : Hz fd.scope l = true) (hi : hH "self" fd.body (ll l)) :
  vY g C fI (iM g.K fI).qualname fd.args fd.body fd.scope (.ref T) (iM g.K fI).code "self" (ll l) := by
 exact Ez (ba (gQ R.cc j ec)) (bb (gQ R.cc j ec)) (gQ R.f i e) (qH R.d i e) hl hi
theorem nR.p2 (R : nR g) : pU g 152 (aL 8 1) ["self", "index"] 2 [] [] :=
 ⟨_, _, _, [], R.ok 0 rfl, fun _ _ => .nil, fun vals cT h0 g0 => Zd h0 fun U U => Wo g0 fun s hs name kV doc pm an ct => kp_binds (R.in 0 rfl hs) fun S => rfl⟩
theorem nR.p1 (R : nR g) : pU g 152 (aL 8 1) ["self", "index"] 1 [] [.int 0] :=
 ⟨_, _, _, [.int 0 390], R.ok 0 rfl, fun _ _ => .cons .int .nil, fun vals cT h0 g0 => Yr h0 fun U => Wo g0 fun s hs name kV doc pm an ct => kp_binds (R.in 0 rfl hs) fun S => rfl⟩
theorem nR.x2 (R : nR g) : pU g 160 (aL 8 2) ["self", "length"] 2 [] [] :=
 ⟨_, _, _, [], R.ok 1 rfl, fun _ _ => .nil, fun vals cT h0 g0 => Zd h0 fun U U => Wo g0 fun s hs name kV doc pm an ct => kp_binds (R.in 1 rfl hs) fun S => rfl⟩
theorem nR.f2 (R : nR g) : pU g 168 (aL 8 3) ["self", "length"] 2 [] [] :=
 ⟨_, _, _, [], R.ok 2 rfl, fun _ _ => .nil, fun vals cT h0 g0 => Zd h0 fun U U => Wo g0 fun s hs name kV doc pm an ct => kp_binds (R.in 2 rfl hs) fun S => rfl⟩
theorem nR.f1 (R : nR g) : pU g 168 (aL 8 3) ["self", "length"] 1 [] [.int 1] :=
 ⟨_, _, _, [.int 1 408], R.ok 2 rfl, fun _ _ => .cons .int .nil, fun vals cT h0 g0 => Yr h0 fun U => Wo g0 fun s hs name kV doc pm an ct => kp_binds (R.in 2 rfl hs) fun S => rfl⟩
theorem nR.s5 (R : nR g) : oU g 499 (ll ["value", "plain", "start_mark", "end_mark", "style"]) 5 [] :=
 ⟨_, _, _, _, _, _, _, _, [], R.cls 0 rfl 3 rfl (by decide +kernel) (.cons (.cons (.cons (.cons (.cons .nil))))), fun _ _ => .nil, rfl, fun vals h0 => LP h0 fun U U U U U x s hs name kV doc pm an ct => kp_binds (R.in 3 rfl hs) fun S => rfl⟩
theorem nR.s4 (R : nR g) : oU g 499 (ll ["value", "plain", "start_mark", "end_mark", "style"]) 4 [.none] :=
 ⟨_, _, _, _, _, _, _, _, [.none], R.cls 0 rfl 3 rfl (by decide +kernel) (.cons (.cons (.cons (.cons (.cons .nil))))), fun _ _ => .cons .none .nil, rfl, fun vals h0 => FA h0 fun U U U U x s hs name kV doc pm an ct => kp_binds (R.in 3 rfl hs) fun S => rfl⟩
theorem nR.st (R : nR g) : Qm g 278 (ll ["start_mark", "end_mark", "encoding"]) 2 "encoding" :=
 ⟨_, _, _, _, _, _, _, _, R.cls 1 rfl 4 rfl (by decide +kernel) (.cons (.cons (.cons .nil))), rfl, fun vals kv h0 => Zd h0 fun U U x s hs name kV doc pm an ct => kp_binds (R.in 4 rfl hs) fun S => rfl⟩
theorem OJ : Hz (aL 4 0).scope oP = true := by decide +kernel
theorem nR.ex (R : nR g) : tJ g 511 85 (iM g.K 85).qualname (aL 4 0).args (aL 4 0).body (aL 4 0).scope (.ref 78) (iM g.K 85).code "self" (ll oP) :=
 ⟨R.xr, bq (ba (bb R.x)), bq (ba (bb (bb R.x))), bb (bb (bb R.x)), R.ok 5 rfl, R.xs, .cons (.cons (.cons (.cons (.cons .nil)))), by decide, by rw [IW]; exact Fq (ba R.x), by rw [Oz]; exact fun a ha => ⟨bq (ba (List.all_eq_true.mp (ba OJ) a ha)), (Bool.not_eq_true' _).mp (bb (List.all_eq_true.mp (ba OJ) a ha))⟩, by decide, by decide, by decide⟩
theorem nR.er (R : nR g) : Ep g 511 (ll oP) 4 [.none] :=
 ⟨_, _, _, _, _, _, _, _, [.none], R.ex, fun _ _ => .cons .none .nil, rfl, fun vals h0 => FA h0 fun U U U U x s hs name kV doc pm an ct => kp_binds (R.in 5 rfl hs) fun S => rfl⟩
theorem nR.facts (R : nR g) : aE g := Lg R.c ⟨R.p2, R.p1, R.x2, R.f2, R.f1, R.s5, R.s4, R.st, R.er⟩
theorem nR.JO (R : nR g) : iL g := Xx R.c ⟨_, bq (ba R.n)⟩ ⟨_, bq (bb R.n)⟩
theorem Ph (R : nR g) {cd : Value} {f : Addr} {h iZ : Heap} {m : cV} {w : Obj} {a : Addr} {vals : List Value} {aZ : List Int} {s : Shared}
  (K0 : Below callerA h [] h) (KX : g.K.In h) (T : Top g.p g.loose g.Kq g.mg g.mb h) (Fm : Fr h h.objs.size iZ m) (hm : m "script" = some (.ref a)) (N : News h h.objs.size iZ [((h.objs.size + 1 : Addr), w)]) (hw : w.data = .cell none)
  (hl : h.IsList a vals.toArray) (hi : IntsAre vals aZ) (hn : ¬ ((63 : Nat) : Int) < (aZ.length : Int)) (hs : s.heap = iZ) {Qr : Flow -> Shared -> Prop}
  (q : ∀ h' aN m', Fr h h.objs.size h' m' -> Qr (.ret (.bool true)) (St s h' aN)) :
  wpAny (model g.prog g.w) (callerA.deeper (envX "law" (top 45).scope h.objs.size f cd [("m", h.objs.size + 1)])) (execs (top 45).body (envX "law" (top 45).scope h.objs.size f cd [("m", h.objs.size + 1)])) Qr Er s :=
 Hh R.facts R.s R.JO K0 KX T Fm hm N hw hl hi hn hs q
namespace hd
def tw6265170123278674144:=V
def tw14199497947161861042:=V
def tw70504467139266312:=V
def tw11321808089211409890:=V
def tw1523658836675050804:=V
def tw17444623497044311267:=V
def tw15850850952774717093:=V
def tw5129100327938481947:=V
def tw541580609670479430:=V
def tw9572024549278143227:=V
def tw9557033521324488393:=V
def tw7569833724000825925:=V
def tw15103342064012570648:=V
def tw7529130512179515739:=V
def tw10314814847376767113:=V
def tw13641004847509316846:=V
def tw1080807525618032726:=V
def tw13721701085657304472:=V
def tw10735011138126884216:=V
def tw12864325376041727945:=V
def tw12548654655308641768:=V
def tw8978102704660224085:=V
def tw15482834225003803977:=V
def tw4303922720696150026:=V
def tw2782680217427406503:=V
def tw3609619317189211081:=V
def tw10932325485557636262:=V
def tw9365843419700471067:=V
def tw16874378897286668274:=V
def tw18342914789491032373:=V
def tw15230860919284253270:=V
def tw936212154012417551:=V
def tw3434568106166762924:=V
def tw18280231356768202928:=V
def tw16331016480089262388:=V
def tw7178817707606537756:=V
def tw13131669474384156130:=V
def tw8673665949694871306:=V
def tw5932558218160036093:=V
def tw6146999420328679401:=V
def tw13012100217145684311:=V
def tw9411467720932436458:=V
def tw5509933267665162965:=V
def tw27347020408234108:=V
def tw17259825775893236993:=V
def tw8001206370205753959:=V
def tw9940076194958452677:=V
def tw7522362723090193151:=V
def tw1006474142936029432:=V
def tw15293771430684577509:=V
def tw16558604503322718569:=V
def tw11521076009072141127:=V
def tw2686811819572748776:=V
def tw7339385377263174568:=V
def tw1209259664397189692:=V
def tw10322035152243889170:=V
def tw12316206225457281584:=V
def tw588414361728750325:=V
def tw8418850081465071547:=V
def tw1070806864712125225:=V
def tw12200847462783376755:=V
def tw7352393279153081721:=V
def tw16193521475006141292:=V
def tw6888037770979986429:=V
def tw2399103561582609577:=V
def tw8620915925392604993:=V
def tw17548301592722837999:=V
def tw10075236066252557282:=V
def tw14183143666670911114:=V
def tw1922655280123114608:=V
def tw1942723855846508794:=V
def tw10549741195566840321:=V
def tw3076281753983609132:=V
def tw8580518863689810338:=V
def tw2266067727031820928:=V
def tw4834755124440303813:=V
def tw11445307732193420406:=V
def tw9424071236715195469:=V
def tw9417033243287817803:=V
def tw3471617488691342163:=V
def tw11747188248321908775:=V
def tw1262521818313538117:=V
def tw11259913245555897121:=V
def tw9576667148146664971:=V
def tw6442102004362931456:=V
def tw10257909930514227660:=V
def tw1984363972637095396:=V
def tw7098796662738865718:=V
def tw3244765175273431187:=V
def tw32680709886465603:=V
def tw7760740165033458314:=V
def tw5469443151430644227:=V
def tw12661178830731656644:=V
def tw11432382262962725059:=V
def tw16009306857160682382:=V
def tw15068095265764424882:=V
def tw10066325740915139090:=V
def tw17386589932338058259:=V
def tw16460976945913506865:=V
def tw11445796338385990213:=V
def tw17132341959485951477:=V
def tw16632024033765633173:=V
def tw17480675751169399666:=V
def tw5725608563912678902:=V
def tw808681233213301776:=V
def tw781112392691160112:=V
def tw4424279083300782990:=V
def tw11864378218710959652:=V
def tw6418394132375852581:=V
def tw7095182050415464044:=V
def tw1552681676908215114:=V
def tw7684266224416042558:=V
def tw8886676353466617286:=V
def tw6179258418468663141:=V
def tw17309730176458506095:=V
def tw6046201485432095634:=V
def tw11015883113180050327:=V
def tw13637684649295473127:=V
def tw3331922841121032985:=V
def tw1598261544914212599:=V
def tw4572055151466897615:=V
def tw4331374464667076758:=V
def tw5727967610002061669:=V
def tw7839861392634791998:=V
def tw11122842944015723790:=V
def tw13308291806819139472:=V
def tw8402618584194901558:=V
def tw14246127934150904186:=V
def tw12905145899662694839:=V
def tw18260245816743181511:=V
def tw8903285369723716950:=V
def tw2677792999027748202:=V
def tw11143654925288551574:=V
def tw3261694639857263868:=V
def tw6023910225058666752:=V
def tw14679928423975458991:=V
def tw366907285348118453:=V
def tw3530395735491656021:=V
def tw11615153089178345000:=V
def tw15210470473946732509:=V
def tw17232697547758917835:=V
def tw9329144140751820182:=V
def tw12249696234330937054:=V
def tw896041191675105985:=V
def tw1664424002330261135:=V
def tw14645323873262247986:=V
def tw10875472949588697265:=V
def tw13291438424144138419:=V
def tw10266834256667246075:=V
def tw12392441046977651542:=V
def tw7082444589050389901:=V
def tw7331053905995067744:=V
def tw4153822554230765228:=V
def tw7903667746670248309:=V
def tw5246941504419573690:=V
def tw11043639167150740152:=V
def tw3706051270626361977:=V
def tw6355020355175173681:=V
def tw11056149785067698321:=V
def tw9677542627691614064:=V
def tw17772274698961265293:=V
def tw6211407954914241527:=V
def tw3929644205436876891:=V
def tw9625954409417532054:=V
def tw5875580373042446662:=V
def tw16408791803549164065:=V
def tw4639630377994808837:=V
def tw9687556985513317663:=V
def tw7343300513203493971:=V
def tw3674186819540265957:=V
def tw2938735568688020788:=V
def tw9821591817271157005:=V
def tw1311894858572065410:=V
def tw14479959197142875710:=V
def tw8138335841240258086:=V
def tw17314117238199800277:=V
def tw15080681613647853314:=V
def tw12655525799616151746:=V
def tw10314690494331789408:=V
def tw16149103838541710524:=V
def tw400298613683006031:=V
def tw3867037960071472045:=V
def tw2394875097976081641:=V
def tw17562630884545722471:=V
def tw1295079835146089599:=V
def tw4547531257694134135:=V
def tw4185455073568141546:=V
def tw1252028615792887328:=V
def tw17244905008012452814:=V
def tw1037384927157171198:=V
def tw11483237411998669720:=V
def tw6360194056172702126:=V
def tw16192249821931289364:=V
def tw11934350699983728027:=V
def tw9032869535437464162:=V
def tw12894091464228559451:=V
def tw5777426239950281674:=V
def tw628478076801646101:=V
def tw15292561661927768003:=V
def tw6034331834246549318:=V
def tw8766153797292197645:=V
def tw13402166490378460096:=V
def tw1658102840681255752:=V
def tw2365020520246788147:=V
def tw13655080880385067533:=V
def tw5914723586387771985:=V
def tw2609263803504603046:=V
def tw5499663076606008585:=V
def tw16561031784554278298:=V
def tw7430934849479919532:=V
def tw1915855561349344771:=V
def tw7167780255434881355:=V
def tw6170397048971407570:=V
def tw9119655138871107046:=V
def tw17106247454124805299:=V
def tw11435383248008150556:=V
def tw2454814033019696937:=V
def tw13367688621499913182:=V
def tw8574351653490815970:=V
def tw17821629586853470551:=V
def tw12305008260806041468:=V
def tw61191686967583403:=V
def tw4588187551228634268:=V
def tw5109750279720785074:=V
def tw10755821558809116012:=V
def tw4022063746063642947:=V
def tw7863745022479089229:=V
def tw6872526038962216167:=V
def tw3613764528863817497:=V
def tw6390727810798310923:=V
def tw5084885355264029854:=V
def tw1122436896229213571:=V
def tw16203475035833160808:=V
def tw2945750046319874812:=V
def tw17233589022662653838:=V
def tw14784423416584386534:=V
def tw9180358300632990600:=V
def tw17825077915755302112:=V
def tw367857026772771265:=V
def tw13257976950880005937:=V
def tw5414534339726536707:=V
def tw12280789728482893115:=V
def tw10624226597165476215:=V
def tw17220510071083114264:=V
def tw141379768648097825:=V
def tw14473985656389049187:=V
def tw2364733319659085324:=V
def tw11959612452944106126:=V
def tw1052711879173552807:=V
def tw1555437378128666086:=V
def tw11869846291161295793:=V
def tw3312639428575888987:=V
def tw8577123868205661300:=V
def tw5293970474611253079:=V
def tw12740448316850118660:=V
def tw6341908896634534438:=V
def tw13694777250737953920:=V
def tw10169186735810369720:=V
def tw16367322488064149640:=V
def tw8583156150137307454:=V
def tw11521132717034644113:=V
def tw597430841090971830:=V
def tw11226056209096007788:=V
def tw2092355116749281574:=V
def tw7746552458522460070:=V
def tw15237705394332104762:=V
def tw10638500153800496621:=V
def tw3703956732320662906:=V
def tw18229235640690726180:=V
def tw14979002361958829438:=V
def tw4215820143475215781:=V
def tw80207222412747470:=V
def tw13016227033810113515:=V
def tw7898585464131444999:=V
def tw13260216794222476875:=V
def tw10592794516085672850:=V
def tw13875821200728361853:=V
def tw568945801153699124:=V
def tw16093596954561186164:=V
def tw8549678576505192021:=V
def tw9193979096431994668:=V
def tw120949319569067898:=V
def tw8038203026324743289:=V
def tw8637924245605089610:=V
def tw1527838690883220852:=V
def tw546453376004863633:=V
def tw628826382804869247:=V
def tw9257564877634915833:=V
def tw17915111120718918509:=V
def tw7076120885198085643:=V
def tw6383293400628747032:=V
def tw10056392159520603492:=V
def tw16607784696358226408:=V
def tw4085355107048368183:=V
def tw17653395014608570344:=V
def tw13705485828373817184:=V
def tw8293519452102458304:=V
def tw9027985886240724871:=V
def tw14667673173054737094:=V
def tw13878465386051367416:=V
def tw17632791038123910024:=V
def tw5139909716467530538:=V
def tw1041734066939551766:=V
def tw3483350824736438000:=V
def tw5765500513520695160:=V
def tw13819635886744424586:=V
def tw16753550483799774095:=V
def tw8673760779264423547:=V
def tw18224232547471651939:=V
def tw2107888079280393879:=V
def tw15051540443700079324:=V
def tw3687686028191705147:=V
def tw15039365748200984442:=V
def tw17316199666452605741:=V
def tw4445787948887339598:=V
def tw2442061107527103931:=V
def tw1532897608927182526:=V
def tw14675040844991300425:=V
def tw1323028282283239234:=V
def tw3825937853902108583:=V
def tw358998308624483670:=V
def tw17587535071971633485:=V
def tw17051707027893714694:=V
def tw6809180150348452684:=V
def tw6902259678686825763:=V
def tw15027813657048799489:=V
def tw8882255173952614290:=V
def tw12804790748501761660:=V
def tw13433236359130419834:=V
def tw344035087544949089:=V
def tw8971800947757722863:=V
def tw17085629754188750694:=V
def tw2560931123470285748:=V
def tw16898703421338395802:=V
def tw187721451887068916:=V
def tw3026984102671762804:=V
def tw16210493721406562244:=V
def tw1479833339227408067:=V
def tw123068294514122753:=V
def tw2796045569192068878:=V
def tw4287501998611880655:=V
def tw9136285450836598234:=V
def tw15008555091322755903:=V
def tw9735997196182214540:=V
def tw16244669901488709893:=V
def tw7617803963422487118:=V
def tw9263913306972830034:=V
def tw12398722771655946143:=V
def tw6679102955309959600:=V
def tw816255722647023276:=V
def tw7306873896866421051:=V
def tw3361780842719999595:=V
def tw7669143873086936922:=V
def tw1874159405358719183:=V
def tw6743835506366012284:=V
def tw16148404707657748683:=V
def tw17984269316229385674:=V
def tw6953686225705527895:=V
def tw7943434605978140569:=V
def tw17698727481433063041:=V
def tw18174727709737113557:=V
def tw3541772276978147337:=V
def tw14846430730451215336:=V
def tw8993227998240613506:=V
def tw12904261374257909793:=V
def tw12850929210481661051:=V
def tw1292574782506224866:=V
def tw2229498832506520899:=V
def tw9691164852092459200:=V
def tw17581694313120579900:=V
def tw9320986196914341143:=V
def tw1635092285416264557:=V
def tw8257457310077000080:=V
def tw9724669041814001911:=V
def tw15170166819509798712:=V
def tw1995303238660393591:=V
def tw791894052214622578:=V
def tw7670109990956578547:=V
def tw16490958093706603973:=V
def tw8759374071611058102:=V
def tw17133045824648328273:=V
def tw2201769383853589397:=V
def tw5784692650032633571:=V
def tw16629463414486148354:=V
def tw13411596345087251410:=V
def tw17015435336251040360:=V
def tw8631647698044649071:=V
def tw12469394786265501217:=V
def tw17847010519790855202:=V
def tw9716150944856294761:=V
def tw15769674674836675847:=V
def tw16045600132092593285:=V
def tw8754232674301072984:=V
def tw6721296464632655532:=V
def tw14304563500966998132:=V
def tw3490399344014754336:=V
def tw12842129537826997421:=V
def tw18432477139146500567:=V
def tw8414816662057420513:=V
def tw3219386304998410691:=V
def tw5598066291311507204:=V
def tw9706586530633849931:=V
def tw11862501624678476012:=V
def tw13493074278026115540:=V
def tw17924859569552203780:=V
def tw16538304330064555565:=V
def tw13162475630746883375:=V
def tw15990409148406401000:=V
def tw17648703758258394866:=V
def tw12728009169484992298:=V
def tw73932630633417052:=V
def tw3003183182289327622:=V
def tw2224877142723597828:=V
def tw12978694689486476534:=V
def tw15925481048366180601:=V
def tw1847498129718734126:=V
def tw5874622170150204493:=V
def tw3086868240375072983:=V
def tw10070748784411743049:=V
def tw15834134325217734722:=V
def tw10718497935973042336:=V
def tw1369006999010240338:=V
def tw15614994299816657964:=V
def tw8217994612687968141:=V
def tw17510691922017120571:=V
def tw8019583575661373409:=V
def tw17412215115074521722:=V
def tw16609110625150722024:=V
def tw219480563031444581:=V
def tw9745053878982180236:=V
def tw15082021408330104867:=V
def tw8913407344586987475:=V
def tw1173135590058218265:=V
def tw11537399940052880508:=V
def tw4130825540490128306:=V
def tw12590031813254465263:=V
def tw1886097375651017517:=V
def tw13784644807815321581:=V
def tw15084177094807405108:=V
def tw1530186012659733002:=V
def tw2994801530090354438:=V
def tw13673710656853086251:=V
def tw5695148799593641189:=V
def tw18205726932040692184:=V
def tw7528239908106934616:=V
def tw5588271506499744379:=V
def tw11320427198303771236:=V
def tw7839665609038958061:=V
def tw4761188538168918444:=V
def tw17232693881448610366:=V
def tw8191383141383413902:=V
def tw7719632045839163205:=V
def tw4186443071834478652:=V
def tw17986764984829171165:=V
def tw1713613408738466740:=V
def tw9108644517948501008:=V
def tw8149274712835364755:=V
def tw8267077920821831787:=V
def tw1523212933880916979:=V
def tw16516967820593259991:=V
def tw6837933980278877480:=V
def tw12113259657773216964:=V
def tw17877473435196805177:=V
def tw2620797684545610549:=V
def tw16118823824875299653:=V
def tw675554889913544426:=V
def tw15413546389474711556:=V
def tw603594558354810906:=V
def tw15015567032572629849:=V
def tw16826218869028738250:=V
def tw9666415797876524396:=V
def tw2811318038965151686:=V
def tw1160317203684671307:=V
def tw14041867575472867259:=V
def tw2974339514598981336:=V
def tw11900943390969748877:=V
def tw10898578532549830312:=V
def tw5759647067039785218:=V
def tw6553926801971918991:=V
def tw14831906022683161478:=V
def tw16520977018256573966:=V
def tw9167245089561082170:=V
def tw23902888720678887:=V
def tw893644547651322600:=V
def tw13078271307976294731:=V
def tw8753742132941547738:=V
def tw11203017424089718567:=V
def tw13971359600739959757:=V
def tw6645754676732357884:=V
def tw6668100618884986112:=V
def tw1794401647697937491:=V
def tw4836071039612271888:=V
def tw12135065554953047620:=V
def tw13005405145879189257:=V
def tw2678143867751452360:=V
def tw14487415735459167684:=V
def tw17419490979579898423:=V
def tw16611703323094282476:=V
def tw4925474479639805574:=V
def tw4650248630828124516:=V
def tw1002739005766175229:=V
def tw3058765270845314565:=V
def tw14727973948776507358:=V
def tw6585647535407982122:=V
def tw6567288245983111171:=V
def tw14964370614067952720:=V
def tw4795873937789857368:=V
def tw9503991325330020860:=V
def tw6351698254187997254:=V
def tw7688735527202146115:=V
def tw567898682632124531:=V
def tw378977806655794909:=V
def tw3228372226667921670:=V
def tw14523085412063620967:=V
def tw15872721093973134059:=V
def tw12685184891068620186:=V
def tw13894294492759856728:=V
def tw9959168783939394535:=V
def tw11815352881546339388:=V
def tw15342760918450512699:=V
def tw207991313653043188:=V
def tw10584935223327274461:=V
def tw7350544599812273793:=V
def tw14496288281795972469:=V
def tw1083652316349211561:=V
def tw15163363291558411915:=V
def tw16479881564531537609:=V
def tw10498207760515217633:=V
def tw4499872705259310715:=V
def tw6342410221627838221:=V
def tw13710774639955215449:=V
def tw4323881887774741629:=V
def tw6496468359453899740:=V
def tw7119652698235046276:=V
def tw13244113239224849809:=V
def tw4096336611382216148:=V
def tw3779012795390611018:=V
def tw9692193050773601005:=V
def tw16655361398738801047:=V
def tw15954617418576163654:=V
def tw13185193354669925997:=V
def tw13268954446999921834:=V
def tw15834621417332309486:=V
def tw2307930045212491506:=V
def tw6276673660110437445:=V
def tw2130250830938240763:=V
def tw3227706676992921592:=V
def tw9669889567957919948:=V
def tw3610102804104083065:=V
def tw10584903055604394054:=V
def tw15610684576858937276:=V
def tw15388080482858252691:=V
def tw17339922335847191533:=V
def tw9192306302185186207:=V
def tw5627993144553289949:=V
def tw4992423415846252249:=V
def tw15232813378086664489:=V
def tw13423386743651976425:=V
def tw15127604789221709464:=V
def tw738775025143659625:=V
def tw3062554034549116351:=V
def tw13229510803694398910:=V
def tw9742114404145244758:=V
def tw2239790306715865176:=V
def tw6671535061982701834:=V
def tw5270485755897854155:=V
def tw11510230443308922866:=V
def tw14739706128910411235:=V
def tw12652299772924304202:=V
def tw13883575605910189399:=V
def tw16874358794406088996:=V
def tw4854229051247803819:=V
def tw14234986236628817851:=V
def tw11080624332738626378:=V
def tw11350916983344032794:=V
def tw18061153546308781385:=V
def tw12115566699164302592:=V
def tw13054651096227442229:=V
def tw3604189019820491887:=V
def tw14632772474323675635:=V
def tw16954684184137436936:=V
def tw11911503445448643969:=V
def tw13185914140803707571:=V
def tw3310480015852809135:=V
def tw8899746735614894663:=V
def tw13661864377559211056:=V
def tw8401526953307532:=V
def tw5371229575969440175:=V
def tw12859282356559654918:=V
def tw1850006992992877954:=V
def tw13126803368163952491:=V
def tw1546340448729182881:=V
def tw6350475880396880301:=V
def tw1979913288306733268:=V
def tw461652223194966327:=V
def tw1123976555077800971:=V
def tw9433380107526252560:=V
def tw3009570038974986837:=V
def tw4026838921711094595:=V
def tw2253076609543119693:=V
def tw5930415463011625340:=V
def tw6387178735628264494:=V
def tw9048594486883216300:=V
def tw10392334341150296681:=V
def tw6299529512197398807:=V
def tw5197284449146708579:=V
def tw5278541085303473619:=V
def tw2138341982008666649:=V
def tw12849525874377588401:=V
def tw18059793885086720939:=V
def tw8980842199889561628:=V
def tw10200596682531068870:=V
def tw4935679993663727648:=V
def tw2234841607322767675:=V
def tw14831431034001966896:=V
def tw2366270029833321311:=V
def tw2154796848896837911:=V
def tw8252906717003651694:=V
def tw10040720712832622683:=V
def tw870252485276807420:=V
def tw10473428154290885455:=V
def tw1976320048464600139:=V
def tw10652557068286136655:=V
def tw12628875407168470636:=V
def tw9012918078620557602:=V
def tw16049856711259736594:=V
def tw4184465406074381966:=V
def tw16159750873741389634:=V
def tw15208779795234195778:=V
def tw1525885583670464380:=V
def tw8582838029754580635:=V
def tw11912248818721715553:=V
def tw17573272137492337276:=V
def tw10604818783366450682:=V
def tw7114702342371406679:=V
def tw8866890569696520983:=V
def tw11788377316966045874:=V
def tw17927675201940733108:=V
def tw5597022631086240730:=V
def tw16797425033611315937:=V
def tw856468140157597299:=V
def tw17665755110179055526:=V
def tw8363449657656907623:=V
def tw13769894087898017207:=V
def tw9340432698400089522:=V
def tw9764821556886614387:=V
def tw13846476931252782885:=V
def tw2417802982746472137:=V
def tw3487185270739371903:=V
def tw6598610022634002709:=V
def tw566282697109011151:=V
def tw14515198211248367263:=V
def tw18344054339320819672:=V
def tw12573578597317748645:=V
def tw3025108057812911590:=V
def tw1760938099516911481:=V
def tw1248928498290534400:=V
def tw10305269356859574647:=V
def tw14154010076438239110:=V
def tw12822537139662283243:=V
def tw1092365185724088631:=V
def tw2173964782534647824:=V
def tw6581903676286546102:=V
def tw168994441188853045:=V
def tw10209381380540763500:=V
def tw7955698833483038738:=V
def tw7608060696618008248:=V
def tw17059487216203745038:=V
def tw10258465067628124579:=V
def tw1001501262261694418:=V
def tw4551586886017427205:=V
def tw16063936889278989754:=V
def tw9539737241629129775:=V
def tw42479039228130786:=V
def tw7463169733074949843:=V
def tw1235247223174674489:=V
def tw4013227346040760583:=V
def tw7575007369245600600:=V
def tw13060237787698756651:=V
def tw12149660499277099224:=V
def tw8151924304054899687:=V
def tw1626954789893016217:=V
def tw13566373518162323693:=V
def tw17295801982453579902:=V
def tw2601553834287326237:=V
def tw12426564226344084313:=V
def tw9939709412603809333:=V
def tw16560290962428233049:=V
def tw3284363174483386244:=V
def tw6269251234911203764:=V
def tw5330046652437701267:=V
def tw7808421317679229744:=V
def tw8594091374061654533:=V
def tw15945647015417289575:=V
def tw12071501765572576511:=V
def tw16491924972389407994:=V
def tw10611771540298893143:=V
def tw6425283475488350215:=V
def tw15725300006707927175:=V
def tw13593311038801747615:=V
def tw15455116640653406654:=V
def tw1099769379720537770:=V
def tw29851341024097229:=V
def tw10754876068304953247:=V
def tw12176083173453557179:=V
def tw10913585522690886933:=V
def tw15972110575474759679:=V
def tw8715868543458076471:=V
def tw7805803428083949980:=V
def tw4050068356787960456:=V
def tw5509500717763924342:=V
def tw5585562161386960571:=V
def tw7404191238989333517:=V
def tw15587043529229516289:=V
def tw9046533771756868877:=V
def tw10459998452446265740:=V
def tw3609727675691564194:=V
def tw168201424540246993:=V
def tw14885124812403076695:=V
def tw16671430358935201974:=V
def tw11266129037736892665:=V
def tw15459919231471728178:=V
def tw15981775994675145863:=V
def tw13966082070955660426:=V
def tw11476253306716732098:=V
def tw8624149140182123753:=V
def tw15638330822065878545:=V
def tw7349092456717908193:=V
def tw12908175579262019581:=V
def tw8547976606474840627:=V
def tw11328591614603762405:=V
def tw8366455275434205655:=V
def tw6236048102885228246:=V
def tw2343039922362307056:=V
def tw9870564867049460845:=V
def tw17553067712141033818:=V
def tw13079010573780550807:=V
def tw1861754713845661025:=V
def tw9471604286028564565:=V
def tw1883101928817154291:=V
def tw17148754175671867601:=V
def tw2926546973763661384:=V
def tw17597415741657687795:=V
def tw1131009196008226358:=V
def tw8223273226496171019:=V
def tw3394336870119047908:=V
def tw10002268660128649252:=V
def tw4812048042432436358:=V
def tw10954896027920521500:=V
def tw287947231083746679:=V
def tw4410822158433673331:=V
def tw13056049162108353537:=V
def tw3731410014628475021:=V
def tw4666280033733451440:=V
def tw8513013380502322827:=V
def tw7714296737518875710:=V
def tw13295757670020842875:=V
def tw570580334211071369:=V
def tw17728965625124801958:=V
def tw2202738052149791422:=V
def tw14548093507029618238:=V
def tw3595355477287675206:=V
def tw4451072393086977611:=V
def tw6770055932767112551:=V
def tw16732195475098059574:=V
def tw4292124644429209710:=V
def tw6714678847661489262:=V
def tw3666847643071129622:=V
def tw2944121130915620767:=V
def tw14987213230683893226:=V
def tw147534423690234772:=V
def tw5462893749543862879:=V
def tw5027669282166582034:=V
def tw9309459007353498140:=V
def tw17764615713609121955:=V
def tw5533284921534288411:=V
def tw15386967168359606001:=V
def tw124703635131657984:=V
def tw2395360589981782600:=V
def tw231678842138440352:=V
def tw10942831735398218583:=V
def tw8764165114954018434:=V
def tw9146881087671835868:=V
def tw6619486752054971423:=V
def tw1728196956790604047:=V
def tw1992405202823017090:=V
def tw15903440401835868834:=V
def tw2223425423447361994:=V
def tw2488860425557155003:=V
def tw6087493978418456603:=V
def tw15741303081692602393:=V
def tw18416071368914092631:=V
def tw14874740015416403351:=V
def tw9886747476611742599:=V
def tw8867138011813171871:=V
def tw11155353856842241703:=V
def tw1737164910517545198:=V
def tw2766661427924329419:=V
def tw6219950571994921479:=V
def tw4210854329550417504:=V
def tw16644201821892198081:=V
def tw17682009817383010814:=V
def tw4458026342584188919:=V
def tw9789424005658652060:=V
def tw10478568671102049440:=V
def tw10981247840145607329:=V
def tw2698987816519630869:=V
def tw15793134307803792781:=V
def tw11423366701579904857:=V
def tw8359198448007392577:=V
def tw3957676037438438435:=V
def tw4669232988116832430:=V
def tw14185234552157331069:=V
def tw8185473973605470997:=V
def tw5048557933796377899:=V
def tw7504022934668878425:=V
def tw1680920111763224811:=V
def tw4996283469597685290:=V
def tw2487633121026635805:=V
def tw1541199775450033235:=V
def tw3713774561306115620:=V
def tw18279466969836665061:=V
def tw15768255177571059533:=V
def tw11835290161127952913:=V
def tw9240168550403210075:=V
def tw11026102214843661311:=V
def tw4812445951556440385:=V
def tw977017194038806211:=V
def tw10850427885867537041:=V
def tw16869773528944115042:=V
def tw6100019897110745148:=V
def tw18382448096889393371:=V
def tw11623240451586125619:=V
def tw13043773894940636711:=V
def tw580786715081773033:=V
def tw13419790239819088309:=V
def tw4027570223873491336:=V
def tw12927277143433365694:=V
def tw4068178545649160379:=V
def tw10819485041398963147:=V
def tw15610926135251115398:=V
def tw10586524348924607906:=V
def tw4412262172769576561:=V
def tw3856039896529550511:=V
def tw15161326946880079398:=V
def tw14330866029970894518:=V
def tw503780265075650398:=V
def tw6435613555943814401:=V
def tw3780787445193727532:=V
def tw16140346037966671567:=V
def tw17519745973974767739:=V
def tw2155373148024153087:=V
def tw5578469743405236373:=V
def tw5463311042859391544:=V
def tw10669340954509006831:=V
def tw14903521294893836149:=V
def tw2557189256652083335:=V
def tw18403829441425892717:=V
def tw3495553720403181153:=V
def tw2283856342367524435:=V
def tw3020274298221478276:=V
def tw14019357707464180739:=V
def tw2908595245633717595:=V
def tw6064361311239337953:=V
def tw12404371233699189817:=V
def tw16279281476208572124:=V
def tw10796147989822787844:=V
def tw17674521349322135176:=V
def tw324789982251995979:=V
def tw1387449649885023538:=V
def tw6712101261821760373:=V
def tw126899189614909607:=V
def tw9715535729577717270:=V
def tw16278950018613345595:=V
def tw15441256140065102201:=V
def tw14941774590477668621:=V
def tw16808911903280404894:=V
def tw16753856019293054950:=V
def tw11796111409470358493:=V
def tw14357048138563382964:=V
def tw10961369148470160073:=V
def tw1844586762473781984:=V
def tw1488685991154950166:=V
def tw3584515259715860500:=V
def tw5636303146250169470:=V
def tw16994832310330321305:=V
def tw13677020842628307333:=V
def tw9826395005243518002:=V
def tw4520646222491181370:=V
def tw16778089087635534260:=V
def tw5587868097446475073:=V
def tw2634524516542322496:=V
def tw4124452956704139395:=V
def tw4459829061737920120:=V
def tw13345808911917323032:=V
def tw10763837439906050012:=V
def tw16368629955692084229:=V
def tw8113946606531873331:=V
def tw7547125785247578940:=V
def tw17776756044511651994:=V
def tw3989794210015794800:=V
def tw15036532459502034952:=V
def tw740585118569290451:=V
def tw6320518386173553733:=V
def tw9321749180303621477:=V
def tw455996952264472808:=V
def tw9003164874222133143:=V
def tw14642527364979015918:=V
def tw16876290765625790874:=V
def tw6786659393958316216:=V
def tw13034690579477884622:=V
def tw16644025755203776648:=V
def tw4544679596462431387:=V
def tw13893224023628974537:=V
def tw5848525411004977341:=V
def tw10261226752179379232:=V
def tw11923671214888560654:=V
def tw2068406123592202298:=V
def tw7587126088831727915:=V
def tw11745692727488381282:=V
def tw11130649375529969920:=V
def tw9048959043973113942:=V
def tw17156858200166860814:=V
def tw16706406908939067481:=V
def tw5630533868503338980:=V
def tw12203266531451400970:=V
def tw16640113483863055521:=V
def tw9208106234588509766:=V
def tw8910540313397133072:=V
def tw7562163892257148404:=V
def tw5246501284691441710:=V
def tw9324410711738953788:=V
def tw4572914132581569009:=V
def tw7493792406740641562:=V
def tw17263540893757438442:=V
def tw4324768590502034390:=V
def tw1450175648694293406:=V
def tw10543549493946370339:=V
def tw17662925508944244659:=V
def tw14662617371843658649:=V
def tw11234803216861417679:=V
def tw17078526466157459939:=V
def tw1066297216363992635:=V
def tw6617686139246983403:=V
def tw13692123062782078819:=V
def tw7205870552132398805:=V
def tw7730664659590461041:=V
def tw18315960055377521309:=V
def tw8621839932002950188:=V
def tw8376689464294639256:=V
def tw7879665242938685309:=V
def tw11145164175221040675:=V
def tw17860502405603952497:=V
def tw4841115729618937879:=V
def tw16655954734093074254:=V
def tw8304746327516048488:=V
def tw10753747369729691027:=V
def tw14661157006325481053:=V
def tw16860904484811629988:=V
def tw7333407450560187677:=V
def tw195797228579154521:=V
def tw830858750615896436:=V
def tw2655586099545260437:=V
def tw16347810527638631630:=V
def tw7416751222084276281:=V
def tw10950900528292386117:=V
def tw18143610487759034564:=V
def tw1981489257346161902:=V
def tw6229570014629185221:=V
def tw15216002699667891035:=V
def tw1756488131837449251:=V
def tw213796272625031558:=V
def tw18158035491867847236:=V
def tw12289785986931056098:=V
def tw5487493568022846362:=V
def tw16823710555383410329:=V
def tw11244900381572368662:=V
def tw6522067053726604020:=V
def tw9700569562226587831:=V
def tw15444645232372524822:=V
def tw2038790695668725586:=V
def tw10123922257226166911:=V
def tw12328740410804925801:=V
def tw16698072605275554026:=V
def tw3093505475390664035:=V
def tw16633321846759511662:=V
def tw4854368506661825922:=V
def tw12117432559162701428:=V
def tw12560559677533885675:=V
def tw10031117400631392382:=V
def tw5079330015975024831:=V
def tw13238961998321641863:=V
def tw17896979994045829828:=V
def tw13522595751371437881:=V
def tw6038658630603023450:=V
def tw865256926295866735:=V
def tw8974285638726340953:=V
def tw12899943327723670910:=V
def tw12695656491558541806:=V
def tw12468848272116607636:=V
def tw4413494717353474276:=V
def tw13702962655247883447:=V
def tw9869680852686050949:=V
def tw4158538966326616356:=V
def tw8480387041410936312:=V
def tw14520819711834966260:=V
def tw2149693233209586783:=V
def tw15181314209895136188:=V
def tw6942949338078487781:=V
def tw12063813234649006523:=V
def tw16782738593694554091:=V
def tw14811076978495188195:=V
def tw11666170188013902:=V
def tw7309933557424586653:=V
def tw4971707271873142875:=V
def tw543636222009071611:=V
def tw11043565332798135927:=V
def tw9747750627657676039:=V
def tw6700630366935767112:=V
def tw8455509636433690358:=V
def tw2311596606651319760:=V
def tw4144914912218024235:=V
def tw5155557033790407861:=V
def tw16300260667763138969:=V
def tw6078900312468773854:=V
def tw4887793233202170652:=V
def tw1513407473488127497:=V
def tw10288849259350499405:=V
def tw18257714122569852405:=V
def tw5438134180794533118:=V
def tw2680338956159875683:=V
def tw16264488296547236668:=V
def tw10310522070392361284:=V
def tw4136307361423647539:=V
def tw10720887837350958406:=V
def tw1736350178976864181:=V
def tw16436016496887433444:=V
def tw3655753129109681850:=V
def tw13565630665325419216:=V
def tw4568231203091369911:=V
def tw1920314895626431374:=V
def tw9372208762206411727:=V
def tw8881279393935526575:=V
def tw9487600189386256480:=V
def tw7600283742025370008:=V
def tw15914279173456535478:=V
def tw7231647588127744845:=V
def tw14601715465040589972:=V
def tw16834843177216533021:=V
def tw12945714742577324819:=V
def tw5734481751687486110:=V
def tw1802135716158502341:=V
def tw18001230695176581838:=V
def tw7184416912432077863:=V
def tw59900535322954317:=V
def tw3992577438768274325:=V
def tw690909109011163107:=V
def tw13185518256862622155:=V
def tw1230260777543360137:=V
def tw3692403537964248751:=V
def tw4535849701284284645:=V
def tw6424439552836831324:=V
def tw7483599358628703746:=V
def tw6575407467413071127:=V
def tw778996663928911553:=V
def tw7416292914021302191:=V
def tw3896432864908169337:=V
def tw477729914001885993:=V
def tw10142378343001408303:=V
def tw5267257673517129457:=V
def tw6128699546485818623:=V
def tw8808839054081031943:=V
def tw18248645608335573719:=V
def tw8386983601427270016:=V
def tw7703145625051659290:=V
def tw7081575712417257101:=V
def tw4329327081025809573:=V
def tw14263468659301548020:=V
def tw17873168446024335648:=V
def tw10797655095234933175:=V
def tw15831449180804048182:=V
def tw12209715661091281649:=V
def tw8904193203061881282:=V
def tw10088965222861814276:=V
def tw8761934834357262393:=V
def tw12382532101624025837:=V
def tw18352704746069975241:=V
def tw2780260501866471414:=V
def tw2260383908665594258:=V
def tw15378620127687112918:=V
def tw3415153176103795331:=V
def tw2116293081078497426:=V
def tw14170626163746665929:=V
def tw15972030042294211563:=V
def tw14791417324727343718:=V
def tw11167175802785304912:=V
def tw16028368227544363629:=V
def tw6493439458051767224:=V
def tw9522278419015659552:=V
def tw4234769180768666233:=V
def tw2414695876002994979:=V
def tw7075670792697189723:=V
def tw12675848167991613597:=V
def tw10792643332837311246:=V
def tw15709432073139065983:=V
def tw16349847624731819066:=V
def tw13397267326918798082:=V
def tw2337606911067854252:=V
def tw14843652167993416414:=V
def tw1814947928973949013:=V
def tw336506951737951121:=V
def tw9246538752182454164:=V
def tw6825794384878216377:=V
def tw11804036180299837096:=V
def tw1603383138076344820:=V
def tw13436793889874751463:=V
def tw754995371310844855:=V
def tw16706120442794172161:=V
def tw15184348022372230366:=V
def tw2942616286324163607:=V
def tw17213202801741711188:=V
def tw5910955368310942365:=V
def tw15695144274627864644:=V
def tw13519734569699835203:=V
def tw10418821070498059912:=V
def tw8722938342819674158:=V
def tw6915010725816912745:=V
def tw12152784171910769985:=V
def tw11966548221656425832:=V
def tw5102789649808105643:=V
def tw4455062051430825911:=V
def tw11574777934848296746:=V
def tw42318653628957785:=V
def tw13840480417363512630:=V
def tw10731177294508112274:=V
def tw9260853090893430991:=V
def tw16190403399209913662:=V
def tw9740553358378948315:=V
def tw12634883239147335504:=V
def tw10998584579097939537:=V
def tw8499867674576427667:=V
def tw11798513794507384182:=V
def tw12806410881072968316:=V
def tw6551069468878901323:=V
def tw375679006084315010:=V
def tw14851662188348016525:=V
def tw14710975458640902228:=V
def tw15362009611261821448:=V
def tw14989010241459935700:=V
def tw10941793532971252971:=V
def tw9285060498679892708:=V
def tw6060171853651468988:=V
def tw11812990402858981387:=V
def tw2568273125106305562:=V
def tw15473961653952966477:=V
def tw11234307636885372486:=V
def tw6586001862233079623:=V
def tw12235683188849618921:=V
def tw4950615714455853267:=V
def tw10379133185000867636:=V
def tw6174678826926318537:=V
def tw15364902741380281815:=V
def tw15101716383203956559:=V
def tw10478118752892766091:=V
def tw183478918671366464:=V
def tw4170544652312619650:=V
def tw12093608987786060565:=V
def tw12083575760338326149:=V
def tw8225072435852268347:=V
def tw7252744027004354421:=V
def tw4277449665417238038:=V
def tw13414662886053400026:=V
def tw15419413099817759249:=V
def tw6758191495299125114:=V
def tw8827373875297307324:=V
def tw5489698587151705762:=V
def tw4853578551445522630:=V
def tw18438121853782319176:=V
def tw4437483791414902797:=V
def tw6589317048279271080:=V
def tw5021760664021748207:=V
def tw16415684545702188449:=V
def tw4212550544905979133:=V
def tw11082318014727886095:=V
def tw18066081243835392563:=V
def tw4794295470348331434:=V
def tw2738606659493605458:=V
def tw17136238077632673464:=V
def tw18311684407545491649:=V
def tw6615520038809974339:=V
def tw5512636732973679808:=V
def tw7104915865109316593:=V
def tw8889955186467401882:=V
def tw12339238810355491140:=V
def tw13585729697985622802:=V
def tw3692537525332797038:=V
def tw3916285193714390168:=V
def tw7529648799523948996:=V
def tw8816488491593808883:=V
def tw10807948746275343805:=V
def tw13253541544203528774:=V
def tw10610930620100246578:=V
def tw13702326064699736726:=V
def tw11192297927005754250:=V
def tw10777565216647047016:=V
def tw2777310486606898128:=V
def tw7882751426655431386:=V
def tw11978532268704778355:=V
def tw7940129607693576344:=V
def tw1665519426611977725:=V
def tw437722411660003408:=V
def tw7230039626435586406:=V
def tw4507420085913086705:=V
def tw14993929160186503751:=V
def tw5813924530853040166:=V
def tw18045596184195472670:=V
def tw14117766483522153913:=V
def tw5558443091381482111:=V
def tw1575818370579092412:=V
def tw11656587275550533016:=V
def tw14805315293902769111:=V
def tw15643034517356785631:=V
def tw4427974247585970236:=V
def tw17792526076716820980:=V
def tw15575071372768740936:=V
def tw1672987069340362256:=V
def tw9666658338934384728:=V
def tw15842043797858019231:=V
def tw8983397095688490290:=V
def tw18066960732618442621:=V
def tw306268748803782688:=V
def tw7363439029260755892:=V
def tw14766628837263464153:=V
def tw15775876202546382854:=V
def tw3750811979167540357:=V
def tw4400060288345857186:=V
def tw3562850618612545023:=V
def tw8498548277181722101:=V
def tw7694040772201074070:=V
def tw4011730449221504619:=V
def tw15722331224553798755:=V
def tw5165858259965997201:=V
def tw4318662949951621594:=V
def tw18225048404721366151:=V
def tw17033410494504267669:=V
def tw12010918843540018363:=V
def tw13082511223303912029:=V
def tw13603198493218928432:=V
def tw17714025838733488182:=V
def tw9366875484532515407:=V
def tw8593204713895540843:=V
def tw17523582860893176437:=V
def tw15500987786846045838:=V
def tw16223378899611936308:=V
def tw12328891124129407551:=V
def tw1243817115420203540:=V
def tw4229197034057890473:=V
def tw2143862073804680454:=V
def tw11243312107713688672:=V
def tw2177979273374649106:=V
def tw7690266627064258982:=V
def tw10554151724961605560:=V
def tw17510342927460740847:=V
def tw6103308179388321402:=V
def tw1322599901344629079:=V
def tw6196946367736269074:=V
def tw7182486151376732564:=V
def tw6597962789093873526:=V
def tw3564083277989941625:=V
def tw14066897420323017581:=V
def tw13152900647210115318:=V
def tw2873107717996512030:=V
def tw3252088795011185546:=V
def tw17413402906406384846:=V
def tw12795287235825905236:=V
def tw8608783340356727737:=V
def tw18264486928267264063:=V
def tw17301770046715024355:=V
def tw2447612040936993662:=V
def tw16987089875077307720:=V
def tw880765996842172355:=V
def tw6264115543738340563:=V
def tw13334789235222989889:=V
def tw11990059301537373963:=V
def tw10483159309910767364:=V
def tw1480571949376996046:=V
def tw1324119301739381:=V
def tw14658465915341274893:=V
def tw2501938814400721562:=V
def tw4736157901138370405:=V
def tw10868664014757305031:=V
def tw11170986363074059871:=V
def tw6729940628936871286:=V
def tw1111395655364133852:=V
def tw15516504957378829982:=V
def tw1781748603270608967:=V
def tw8119415023574550399:=V
def tw15972887241109575105:=V
def tw15213867517606551158:=V
def tw6760662844775422206:=V
def tw16422317819224724801:=V
def tw16738745784312259678:=V
def tw2513579433753930287:=V
def tw7116993658995107447:=V
def tw7713965142312942992:=V
def tw12402786825793880664:=V
def tw670263645769261399:=V
def tw1884399729814107754:=V
def tw2241180450144564393:=V
def tw15876243489191307597:=V
def tw12387470312852788890:=V
def tw8431553999049341567:=V
def tw4577393864431605276:=V
def tw16271221263835843588:=V
def tw1383844976935760699:=V
def tw4790182246096814837:=V
def tw15573792974875501539:=V
def tw8670876273566594210:=V
def tw6254241358121603344:=V
def tw5791980126387539862:=V
def tw10812026482400934424:=V
def tw4855435815858847083:=V
def tw7192714274489868344:=V
def tw1697823684261348857:=V
def tw12386524454841638718:=V
def tw580301670077480640:=V
def tw14946310595379027892:=V
def tw2267546703583191381:=V
def tw8494178379519767217:=V
def tw7913717863462653910:=V
def tw5766817342387943034:=V
def tw9673087150982176410:=V
def tw3503359234994187029:=V
def tw896392117091262416:=V
def tw9844633441911778520:=V
def tw9452872987620912765:=V
def tw6099794974223559636:=V
def tw11615864803445427873:=V
def tw15446708149075816471:=V
def tw8980041911258296626:=V
def tw9076996456281710778:=V
def tw15360700911483270650:=V
def tw17746410852422831316:=V
def tw11871245172023452956:=V
def tw6178929325686578268:=V
def tw12034656612786429262:=V
def tw820227566019061362:=V
def tw5654540503010958517:=V
def tw15313804776001833728:=V
def tw10419372455594056456:=V
def tw5411588774181628338:=V
def tw13863886583734531057:=V
def tw13631729405558001194:=V
def tw11548198970792224769:=V
def tw10540686284600524729:=V
def tw5594199804548315133:=V
def tw2562384389655192718:=V
def tw11875649815601129772:=V
def tw17204449605386721941:=V
def tw13997896966902399118:=V
def tw14684485023479115063:=V
def tw16555405951933438768:=V
def tw4239049415839531936:=V
def tw5486493490053360157:=V
def tw226073816358300282:=V
def tw1769600823664482930:=V
def tw6850404167445703353:=V
def tw2198320190079138372:=V
def tw13707482908480027769:=V
def tw16413547821465148756:=V
def tw2521811729287596220:=V
def tw3434591014449323440:=V
def tw10126381309830911881:=V
def tw11833278902036403558:=V
def tw16923775255107783495:=V
def tw4115823564253892186:=V
def tw4293566933973591676:=V
def tw5765981979616339262:=V
def tw12343268692668775817:=V
def tw12352694792823802403:=V
def tw4210036100666030414:=V
def tw6827767141150073894:=V
def tw10315466174217670915:=V
def tw7353451040566468454:=V
def tw17110113439582799386:=V
def tw8367048467389024775:=V
def tw8218368388497587944:=V
def tw1711473549958359125:=V
def tw7828219581880995019:=V
def tw15468373810177246615:=V
def tw8755810029303015932:=V
def tw8667539529067879:=V
def tw18254621711343407291:=V
def tw5891310725916841985:=V
def tw6583578442109099172:=V
def tw8994223850203857199:=V
def tw11810988563341916252:=V
def tw2331973963085040194:=V
def tw567885990545472871:=V
def tw5764951542481038590:=V
def tw17438882437580071154:=V
def tw16506212381159507844:=V
def tw639243900295364999:=V
def tw17451717533980511810:=V
def tw9368504840272485767:=V
def tw7086048481527543654:=V
def tw9681958355900392862:=V
def tw3241225366106811912:=V
def tw7793654075249205795:=V
def tw6232892379941588703:=V
def tw6351979084779308449:=V
def tw11094289645390684026:=V
def tw960524448959485159:=V
def tw18313958262992902728:=V
def tw7635829786263382596:=V
def tw12284123929361467263:=V
def tw2848176756851099411:=V
def tw16064010049021166651:=V
def tw17082179047947594277:=V
def tw15544853520655005638:=V
def tw41017763157688102:=V
def tw11044803229060463981:=V
def tw517724198027276119:=V
def tw5963049168890907350:=V
def tw9810849677208565135:=V
def tw13831593846471801795:=V
def tw16089407683434389169:=V
def tw4873480283540838167:=V
def tw7273997582074884960:=V
def tw10708561578853574150:=V
def tw14260483616928936680:=V
def tw2223675290679670828:=V
def tw10478317699744915354:=V
def tw12801012565498045964:=V
def tw7076078542390164920:=V
def tw3016420499884711631:=V
def tw8943243362205933438:=V
def tw10899236745666942599:=V
def tw12917748928761252462:=V
def tw6275758757913814308:=V
def tw15938347017603190336:=V
def tw18088897003149539659:=V
def tw13562634003028335048:=V
def tw15822590657166595332:=V
def tw9812517637422296469:=V
def tw5504556581544584004:=V
def tw11680542252808841068:=V
def tw14455849627674982898:=V
def tw1479440292816680990:=V
def tw5645415064246725200:=V
def tw1378153343294550077:=V
def tw17052650310773991273:=V
def tw9471679069698626803:=V
def tw5479632107175813453:=V
def tw13814786413287485596:=V
def tw803298182361166000:=V
def tw281592698602171276:=V
def tw14864250025649883108:=V
def tw11973842944795041657:=V
def tw3952330419289308013:=V
def tw17630102493349999429:=V
def tw2217210030526828308:=V
def tw16477624312948428049:=V
def tw6178398987995114456:=V
def tw9276349011584097663:=V
def tw9013603393401162020:=V
def tw12961144429417063065:=V
def tw11239992877300529265:=V
def tw17848483983322774464:=V
def tw7536728726010098992:=V
def tw18183398384106905503:=V
def tw1757259352951929482:=V
def tw18212267438146297484:=V
def tw13292936899121948504:=V
def tw3580206924867195457:=V
def tw9878135420369046608:=V
def tw10856963564055442218:=V
def tw1314688719709390951:=V
def tw2316390732353752141:=V
def tw4143826401244880611:=V
def tw15373592851439433439:=V
def tw6452426570276761996:=V
def tw11746251328225360489:=V
def tw17805375393286525145:=V
def tw14056547237008328371:=V
def tw1948366231462838307:=V
def tw3877861454377741623:=V
def tw17734745681671571602:=V
def tw16582145984224169819:=V
def tw6767105285010031935:=V
def tw5667273915815168098:=V
def tw16279427001679887495:=V
def tw16953484572288141156:=V
def tw9259770788124725997:=V
def tw8390539997926843411:=V
def tw6355507385629914005:=V
def tw13821990636101746223:=V
def tw11403675791532753748:=V
def tw17438610683811369668:=V
def tw11790099413888845297:=V
def tw12073835226634816525:=V
def tw10000147801426223185:=V
end hd
set_option tactic.hygienic true in
set_option Elab.async true in
set_option maxHeartbeats 8000000 in
theorem hd : PySem.Challenge.rw_te0054_01.Holds := by
 w_on
 o_law
 k_head
 case hw => w_witness2
 w_strict (k_go0; (refine Internal.Ph (g := ⟨_, _, Internal.hd.heap_1_39 _, Internal.hd.view_1_40, _, _, _, _⟩) ?zR (by assumption) (by assumption) (by assumption) (by assumption) ?zhm (by assumption) ?zhw (by assumption) (by assumption) (by assumption) rfl ?zq); (case zhm => rfl); (case zhw => exact Eq.trans (by assumption) rfl); (case zq => intro h' aN m' Fm; refine goodW_bool Fm (by assumption) (raisesW_false ?zr) ?zp; (case zr => wrow_none_raised); (case zp => wrow_post)); (case zR => exact ⟨⟨by kernel_rfl, by unfold Internal.BJ; kernel_rfl, by kernel_rfl, by kernel_rfl, by kernel_rfl, by kernel_rfl, by kernel_rfl, by kernel_rfl, by kernel_rfl, by kernel_rfl⟩, by kernel_rfl, by kernel_rfl, by kernel_rfl, by kernel_rfl, by kernel_rfl, ⟨_, _, _, _, _, _, _, _, _, _, _, _, _, _, _, _, "Exception", "Exception.__new__", "Exception.__init__", [.type "Exception", .type "BaseException", .type "object"], rfl, ⟨F.excBase_Exception, by decide +kernel, by decide +kernel, by decide +kernel⟩, by decide +kernel⟩, ⟨by kernel_rfl, _, rfl, by decide +kernel, by decide +kernel, by decide +kernel, fun U => rfl⟩, by kernel_rfl, ⟨by kernel_rfl, by kernel_rfl, by kernel_rfl, by kernel_rfl, ⟨_, _, _, _, _, _, _, _, _, _, _, _, _, _, _, _, _, rfl, by kernel_rfl, rfl, rfl, by kernel_rfl⟩, ⟨_, _, _, rfl⟩, ⟨_, rfl⟩, by kernel_rfl, by kernel_rfl, by kernel_rfl, by kernel_rfl, by kernel_rfl, by kernel_rfl, by kernel_rfl⟩⟩))
end Mine.Internal
theorem PySem.Challenge.cw_te0054_01_holds : PySem.Challenge.rw_te0054_01.Holds :=
 Mine.Internal.hd
